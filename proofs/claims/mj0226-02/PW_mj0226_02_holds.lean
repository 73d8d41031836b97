import PyProof.Rows.All
import Wide.All
import OpenK.AllK
import Wide.FinOn
import PySem.Challenge.RW_mj0226_02
set_option Elab.async false
set_option compiler.extract_closed false
set_option maxRecDepth 100000
set_option linter.unusedVariables false
set_option linter.unusedSimpArgs false
namespace Mine
open PySem
theorem GR {α:Type u}{l₁ l₂:List α}{i:Nat}(h:i<l₁.length):(l₁++l₂)[i]?=l₁[i]?:=List.getElem?_append_left h
theorem GS {n m k:Nat}(h:n<=m)(g:m<=k):n<=k:=Nat.le_trans h g
theorem GU {n m k:Nat}(h:n<m)(g:m<=k):n<k:=Nat.lt_of_lt_of_le h g
theorem GV {n m k:Nat}(h:n<=m)(g:m<k):n<k:=Nat.lt_of_le_of_lt h g
theorem GW {n m k:Nat}(h:n<m)(g:m=k):n<k:=Nat.lt_of_lt_of_eq h g
theorem GX {a:Type u}{b:Type v}{as:List a}(f:a->b):(as.map f).length=as.length:=List.length_map f
theorem GY {a:Type u}{as bs:List a}:(as++bs).length=as.length+bs.length:=List.length_append
theorem GZ {a:Type u}(l:List a):l<+:l:=List.prefix_refl l
theorem G0 {u1:Type u}{l:List u1}{i:Nat}{a:u1}(h:l[i]? =some a):a∈l:=List.mem_of_getElem? h
theorem G3 {a:Type u}{b:Type v}{f:a->b}{l:List a}{i:Nat}:(List.map f l)[i]? =Option.map f l[i]?:=List.getElem?_map
theorem G5 {n m:Nat}(h:n<m):n<=m:=Nat.le_of_lt h
theorem G6 {a:Type u}{l:List a}{i:Nat}(h:i<l.length):l[i]? =some l[i]:=List.getElem?_eq_getElem h
theorem nS {α:Type _} {x:α} {G:Prop} (h:none=some x):G:=by cases h
theorem sN {α:Type _} {x:α} {G:Prop} (h:some x=none):G:=by cases h
theorem nC {α:Type _} {x:α} {l:List α} {G:Prop} (h:[]=x::l):G:=by cases h
theorem AQ {p0:Prop} {p1:Prop} {p2:Prop} {p3:Prop}  (h0:p0) (h1:p1) (h2:p2) (h3:p3):p0/\p1/\p2/\p3:=⟨h0,h1,h2,h3⟩
theorem CS {p0:Prop} {p1:Prop} {p2:Prop} {p3:Prop} {p4:Prop}  (h0:p0) (h1:p1) (h2:p2) (h3:p3) (h4:p4):p0/\p1/\p2/\p3/\p4:=⟨h0,h1,h2,h3,h4⟩
theorem En {p0:Prop} {p1:Prop} {p2:Prop} {p3:Prop} {p4:Prop} {p5:Prop} {p6:Prop} {p7:Prop}  (h0:p0) (h1:p1) (h2:p2) (h3:p3) (h4:p4) (h5:p5) (h6:p6) (h7:p7):p0/\p1/\p2/\p3/\p4/\p5/\p6/\p7:=⟨h0,h1,h2,h3,h4,h5,h6,h7⟩
theorem aW {α0:Sort _} {p0:∀ (x0:α0),Prop} {p1:∀ (x0:α0),Prop} (x0:α0) (h0:p0 x0) (h1:p1 x0):∃ x0,p0 x0/\p1 x0:=⟨x0,h0,h1⟩
theorem kC {α0:Sort _} {p0:∀ (x0:α0),Prop} {p1:∀ (x0:α0),Prop} {p2:∀ (x0:α0),Prop} (x0:α0) (h0:p0 x0) (h1:p1 x0) (h2:p2 x0):∃ x0,p0 x0/\p1 x0/\p2 x0:=⟨x0,h0,h1,h2⟩
theorem zR {α0:Sort _} {p0:∀ (x0:α0),Prop} {p1:∀ (x0:α0),Prop} {p2:∀ (x0:α0),Prop} {p3:∀ (x0:α0),Prop} (x0:α0) (h0:p0 x0) (h1:p1 x0) (h2:p2 x0) (h3:p3 x0):∃ x0,p0 x0/\p1 x0/\p2 x0/\p3 x0:=⟨x0,h0,h1,h2,h3⟩
theorem AR {α0:Sort _} {p0:∀ (x0:α0),Prop} {p1:∀ (x0:α0),Prop} {p2:∀ (x0:α0),Prop} {p3:∀ (x0:α0),Prop} {p4:∀ (x0:α0),Prop} (x0:α0) (h0:p0 x0) (h1:p1 x0) (h2:p2 x0) (h3:p3 x0) (h4:p4 x0):∃ x0,p0 x0/\p1 x0/\p2 x0/\p3 x0/\p4 x0:=⟨x0,h0,h1,h2,h3,h4⟩
theorem D4 {α0:Sort _} {p0:∀ (x0:α0),Prop} {p1:∀ (x0:α0),Prop} {p2:∀ (x0:α0),Prop} {p3:∀ (x0:α0),Prop} {p4:∀ (x0:α0),Prop} {p5:∀ (x0:α0),Prop} (x0:α0) (h0:p0 x0) (h1:p1 x0) (h2:p2 x0) (h3:p3 x0) (h4:p4 x0) (h5:p5 x0):∃ x0,p0 x0/\p1 x0/\p2 x0/\p3 x0/\p4 x0/\p5 x0:=⟨x0,h0,h1,h2,h3,h4,h5⟩
theorem Eo {α0:Sort _} {p0:∀ (x0:α0),Prop} {p1:∀ (x0:α0),Prop} {p2:∀ (x0:α0),Prop} {p3:∀ (x0:α0),Prop} {p4:∀ (x0:α0),Prop} {p5:∀ (x0:α0),Prop} {p6:∀ (x0:α0),Prop} (x0:α0) (h0:p0 x0) (h1:p1 x0) (h2:p2 x0) (h3:p3 x0) (h4:p4 x0) (h5:p5 x0) (h6:p6 x0):∃ x0,p0 x0/\p1 x0/\p2 x0/\p3 x0/\p4 x0/\p5 x0/\p6 x0:=⟨x0,h0,h1,h2,h3,h4,h5,h6⟩
theorem Ep {α0:Sort _} {p0:∀ (x0:α0),Prop} {p1:∀ (x0:α0),Prop} {p2:∀ (x0:α0),Prop} {p3:∀ (x0:α0),Prop} {p4:∀ (x0:α0),Prop} {p5:∀ (x0:α0),Prop} {p6:∀ (x0:α0),Prop} {p7:∀ (x0:α0),Prop} (x0:α0) (h0:p0 x0) (h1:p1 x0) (h2:p2 x0) (h3:p3 x0) (h4:p4 x0) (h5:p5 x0) (h6:p6 x0) (h7:p7 x0):∃ x0,p0 x0/\p1 x0/\p2 x0/\p3 x0/\p4 x0/\p5 x0/\p6 x0/\p7 x0:=⟨x0,h0,h1,h2,h3,h4,h5,h6,h7⟩
theorem zS {α0:Sort _} {α1:∀ (x0:α0),Sort _} {p0:∀ (x0:α0) (x1:α1 x0),Prop} (x0:α0) (x1:α1 x0) (h0:p0 x0 x1):∃ x0,∃ x1,p0 x0 x1:=⟨x0,x1,h0⟩
theorem wV {α0:Sort _} {α1:∀ (x0:α0),Sort _} {p0:∀ (x0:α0) (x1:α1 x0),Prop} {p1:∀ (x0:α0) (x1:α1 x0),Prop} (x0:α0) (x1:α1 x0) (h0:p0 x0 x1) (h1:p1 x0 x1):∃ x0,∃ x1,p0 x0 x1/\p1 x0 x1:=⟨x0,x1,h0,h1⟩
theorem jk {α0:Sort _} {α1:∀ (x0:α0),Sort _} {p0:∀ (x0:α0) (x1:α1 x0),Prop} {p1:∀ (x0:α0) (x1:α1 x0),Prop} {p2:∀ (x0:α0) (x1:α1 x0),Prop} (x0:α0) (x1:α1 x0) (h0:p0 x0 x1) (h1:p1 x0 x1) (h2:p2 x0 x1):∃ x0,∃ x1,p0 x0 x1/\p1 x0 x1/\p2 x0 x1:=⟨x0,x1,h0,h1,h2⟩
theorem D5 {α0:Sort _} {α1:∀ (x0:α0),Sort _} {p0:∀ (x0:α0) (x1:α1 x0),Prop} {p1:∀ (x0:α0) (x1:α1 x0),Prop} {p2:∀ (x0:α0) (x1:α1 x0),Prop} {p3:∀ (x0:α0) (x1:α1 x0),Prop} (x0:α0) (x1:α1 x0) (h0:p0 x0 x1) (h1:p1 x0 x1) (h2:p2 x0 x1) (h3:p3 x0 x1):∃ x0,∃ x1,p0 x0 x1/\p1 x0 x1/\p2 x0 x1/\p3 x0 x1:=⟨x0,x1,h0,h1,h2,h3⟩
theorem zT {α0:Sort _} {α1:∀ (x0:α0),Sort _} {p0:∀ (x0:α0) (x1:α1 x0),Prop} {p1:∀ (x0:α0) (x1:α1 x0),Prop} {p2:∀ (x0:α0) (x1:α1 x0),Prop} {p3:∀ (x0:α0) (x1:α1 x0),Prop} {p4:∀ (x0:α0) (x1:α1 x0),Prop} (x0:α0) (x1:α1 x0) (h0:p0 x0 x1) (h1:p1 x0 x1) (h2:p2 x0 x1) (h3:p3 x0 x1) (h4:p4 x0 x1):∃ x0,∃ x1,p0 x0 x1/\p1 x0 x1/\p2 x0 x1/\p3 x0 x1/\p4 x0 x1:=⟨x0,x1,h0,h1,h2,h3,h4⟩
theorem Er {α0:Sort _} {α1:∀ (x0:α0),Sort _} {α2:∀ (x0:α0) (x1:α1 x0),Sort _} {p0:∀ (x0:α0) (x1:α1 x0) (x2:α2 x0 x1),Prop} (x0:α0) (x1:α1 x0) (x2:α2 x0 x1) (h0:p0 x0 x1 x2):∃ x0,∃ x1,∃ x2,p0 x0 x1 x2:=⟨x0,x1,x2,h0⟩
theorem Cp {α0:Sort _} {α1:∀ (x0:α0),Sort _} {α2:∀ (x0:α0) (x1:α1 x0),Sort _} {p0:∀ (x0:α0) (x1:α1 x0) (x2:α2 x0 x1),Prop} {p1:∀ (x0:α0) (x1:α1 x0) (x2:α2 x0 x1),Prop} {p2:∀ (x0:α0) (x1:α1 x0) (x2:α2 x0 x1),Prop} {p3:∀ (x0:α0) (x1:α1 x0) (x2:α2 x0 x1),Prop} (x0:α0) (x1:α1 x0) (x2:α2 x0 x1) (h0:p0 x0 x1 x2) (h1:p1 x0 x1 x2) (h2:p2 x0 x1 x2) (h3:p3 x0 x1 x2):∃ x0,∃ x1,∃ x2,p0 x0 x1 x2/\p1 x0 x1 x2/\p2 x0 x1 x2/\p3 x0 x1 x2:=⟨x0,x1,x2,h0,h1,h2,h3⟩
theorem D6 {α0:Sort _} {α1:∀ (x0:α0),Sort _} {α2:∀ (x0:α0) (x1:α1 x0),Sort _} {α3:∀ (x0:α0) (x1:α1 x0) (x2:α2 x0 x1),Sort _} {p0:∀ (x0:α0) (x1:α1 x0) (x2:α2 x0 x1) (x3:α3 x0 x1 x2),Prop} {p1:∀ (x0:α0) (x1:α1 x0) (x2:α2 x0 x1) (x3:α3 x0 x1 x2),Prop} (x0:α0) (x1:α1 x0) (x2:α2 x0 x1) (x3:α3 x0 x1 x2) (h0:p0 x0 x1 x2 x3) (h1:p1 x0 x1 x2 x3):∃ x0,∃ x1,∃ x2,∃ x3,p0 x0 x1 x2 x3/\p1 x0 x1 x2 x3:=⟨x0,x1,x2,x3,h0,h1⟩
theorem Es {α0:Sort _} {α1:∀ (x0:α0),Sort _} {α2:∀ (x0:α0) (x1:α1 x0),Sort _} {α3:∀ (x0:α0) (x1:α1 x0) (x2:α2 x0 x1),Sort _} {p0:∀ (x0:α0) (x1:α1 x0) (x2:α2 x0 x1) (x3:α3 x0 x1 x2),Prop} {p1:∀ (x0:α0) (x1:α1 x0) (x2:α2 x0 x1) (x3:α3 x0 x1 x2),Prop} {p2:∀ (x0:α0) (x1:α1 x0) (x2:α2 x0 x1) (x3:α3 x0 x1 x2),Prop} (x0:α0) (x1:α1 x0) (x2:α2 x0 x1) (x3:α3 x0 x1 x2) (h0:p0 x0 x1 x2 x3) (h1:p1 x0 x1 x2 x3) (h2:p2 x0 x1 x2 x3):∃ x0,∃ x1,∃ x2,∃ x3,p0 x0 x1 x2 x3/\p1 x0 x1 x2 x3/\p2 x0 x1 x2 x3:=⟨x0,x1,x2,x3,h0,h1,h2⟩
theorem D7 {α0:Sort _} {α1:∀ (x0:α0),Sort _} {α2:∀ (x0:α0) (x1:α1 x0),Sort _} {α3:∀ (x0:α0) (x1:α1 x0) (x2:α2 x0 x1),Sort _} {p0:∀ (x0:α0) (x1:α1 x0) (x2:α2 x0 x1) (x3:α3 x0 x1 x2),Prop} {p1:∀ (x0:α0) (x1:α1 x0) (x2:α2 x0 x1) (x3:α3 x0 x1 x2),Prop} {p2:∀ (x0:α0) (x1:α1 x0) (x2:α2 x0 x1) (x3:α3 x0 x1 x2),Prop} {p3:∀ (x0:α0) (x1:α1 x0) (x2:α2 x0 x1) (x3:α3 x0 x1 x2),Prop} (x0:α0) (x1:α1 x0) (x2:α2 x0 x1) (x3:α3 x0 x1 x2) (h0:p0 x0 x1 x2 x3) (h1:p1 x0 x1 x2 x3) (h2:p2 x0 x1 x2 x3) (h3:p3 x0 x1 x2 x3):∃ x0,∃ x1,∃ x2,∃ x3,p0 x0 x1 x2 x3/\p1 x0 x1 x2 x3/\p2 x0 x1 x2 x3/\p3 x0 x1 x2 x3:=⟨x0,x1,x2,x3,h0,h1,h2,h3⟩
theorem Et {α0:Sort _} {α1:∀ (x0:α0),Sort _} {α2:∀ (x0:α0) (x1:α1 x0),Sort _} {α3:∀ (x0:α0) (x1:α1 x0) (x2:α2 x0 x1),Sort _} {p0:∀ (x0:α0) (x1:α1 x0) (x2:α2 x0 x1) (x3:α3 x0 x1 x2),Prop} {p1:∀ (x0:α0) (x1:α1 x0) (x2:α2 x0 x1) (x3:α3 x0 x1 x2),Prop} {p2:∀ (x0:α0) (x1:α1 x0) (x2:α2 x0 x1) (x3:α3 x0 x1 x2),Prop} {p3:∀ (x0:α0) (x1:α1 x0) (x2:α2 x0 x1) (x3:α3 x0 x1 x2),Prop} {p4:∀ (x0:α0) (x1:α1 x0) (x2:α2 x0 x1) (x3:α3 x0 x1 x2),Prop} (x0:α0) (x1:α1 x0) (x2:α2 x0 x1) (x3:α3 x0 x1 x2) (h0:p0 x0 x1 x2 x3) (h1:p1 x0 x1 x2 x3) (h2:p2 x0 x1 x2 x3) (h3:p3 x0 x1 x2 x3) (h4:p4 x0 x1 x2 x3):∃ x0,∃ x1,∃ x2,∃ x3,p0 x0 x1 x2 x3/\p1 x0 x1 x2 x3/\p2 x0 x1 x2 x3/\p3 x0 x1 x2 x3/\p4 x0 x1 x2 x3:=⟨x0,x1,x2,x3,h0,h1,h2,h3,h4⟩
theorem lT {α:Type _} {motive:List α->Prop} (l:List α) (nil:motive []) (cons:∀ head tail,motive (head::tail)):motive l:=match l with
 | []=>nil
 | x::xs=>cons x xs
theorem aT2 {a b c n:Nat} (h:a+b<=n) (hc:c<=b):a+c<=n:=GS (Nat.add_le_add_left hc a) h
theorem aT3 {a b n:Nat} (h:a+b<=n):a<=n:=GS (Nat.le_add_right a b) h
theorem aT5 {j a b n:Nat} (h:a+b<=n) (hj:j < a):j < n:=GU hj (aT3 h)
theorem aU2 {a b n:Nat} (h:n=a+b):a<=n:=aT3 (Nat.le_of_eq h.symm)
theorem aU5 {a b m n:Nat} (h:n=m+b) (g:a<=m):a<=n:=GS g (aU2 h)
theorem aU6 {m n:Nat} (h:n=m):m<=n:=Nat.le_of_eq h.symm
theorem aV2 {j a c:Nat} (h:j < a):a+c≠j:=Nat.ne_of_gt (GU h (Nat.le_add_right a c))
theorem nsS {m i n:Nat} (h:m - i=n+1):m - (i+1)=n:=congrArg Nat.pred h
theorem nsE {m i:Nat} (h:m - i=0) (h2:i<=m):i=m:=Nat.le_antisymm h2 (Nat.le_of_sub_eq_zero h)
theorem nsD {m i:Nat} (h:i < m):m - (i+1)+1 < m - i+1:=Nat.succ_lt_succ (Nat.sub_lt_sub_left h (Nat.lt_succ_self i))
@[elab_as_elim] theorem rwE {α:Sort u} {a:α} {p:α->Prop} {b:α} (h:a=b) (x:p b):p a:=h ▸ x
@[elab_as_elim] theorem rwS {α:Sort u} {a:α} {p:α->Prop} {b:α} (h:b=a) (x:p b):p a:=h ▸ x
theorem aJ {p0:Prop} {p1:Prop} {p2:Prop} {G:Prop} (h:p0/\p1/\p2) (k:p0->p1->p2->G):G:=by obtain⟨h0,h1,h2⟩:=h;exact k h0 h1 h2
theorem ek {p0:Prop} {p1:Prop} {p2:Prop} {p3:Prop} {G:Prop} (h:p0/\p1/\p2/\p3) (k:p0->p1->p2->p3->G):G:=by obtain⟨h0,h1,h2,h3⟩:=h;exact k h0 h1 h2 h3
theorem rH {p0:Prop} {p1:Prop} {p2:Prop} {p3:Prop} {p4:Prop} {G:Prop} (h:p0/\p1/\p2/\p3/\p4) (k:p0->p1->p2->p3->p4->G):G:=by obtain⟨h0,h1,h2,h3,h4⟩:=h;exact k h0 h1 h2 h3 h4
theorem nk {p0:Prop} {p1:Prop} {p2:Prop} {p3:Prop} {p4:Prop} {p5:Prop} {G:Prop} (h:p0/\p1/\p2/\p3/\p4/\p5) (k:p0->p1->p2->p3->p4->p5->G):G:=by obtain⟨h0,h1,h2,h3,h4,h5⟩:=h;exact k h0 h1 h2 h3 h4 h5
theorem lg {p0:Prop} {p1:Prop} {p2:Prop} {p3:Prop} {p4:Prop} {p5:Prop} {p6:Prop} {G:Prop} (h:p0/\p1/\p2/\p3/\p4/\p5/\p6) (k:p0->p1->p2->p3->p4->p5->p6->G):G:=by obtain⟨h0,h1,h2,h3,h4,h5,h6⟩:=h;exact k h0 h1 h2 h3 h4 h5 h6
theorem ao {α0:Sort _} {p0:α0->Prop} {p1:α0->Prop} {G:Prop} (h:∃ x0,p0 x0/\p1 x0) (k:∀ (x0:α0),p0 x0->p1 x0->G):G:=by obtain⟨x0,h0,h1⟩:=h;exact k x0 h0 h1
theorem d8 {α0:Sort _} {p0:α0->Prop} {p1:α0->Prop} {p2:α0->Prop} {G:Prop} (h:∃ x0,p0 x0/\p1 x0/\p2 x0) (k:∀ (x0:α0),p0 x0->p1 x0->p2 x0->G):G:=by obtain⟨x0,h0,h1,h2⟩:=h;exact k x0 h0 h1 h2
theorem bW {α0:Sort _} {p0:α0->Prop} {p1:α0->Prop} {p2:α0->Prop} {p3:α0->Prop} {G:Prop} (h:∃ x0,p0 x0/\p1 x0/\p2 x0/\p3 x0) (k:∀ (x0:α0),p0 x0->p1 x0->p2 x0->p3 x0->G):G:=by obtain⟨x0,h0,h1,h2,h3⟩:=h;exact k x0 h0 h1 h2 h3
theorem pZ {α0:Sort _} {α1:∀ (x0:α0),Sort _} {p0:∀ (x0:α0) (x1:α1 x0),Prop} {G:Prop} (h:∃ x0,∃ x1,p0 x0 x1) (k:∀ (x0:α0) (x1:α1 x0),p0 x0 x1->G):G:=by obtain⟨x0,x1,h0⟩:=h;exact k x0 x1 h0
theorem bq {α0:Sort _} {α1:∀ (x0:α0),Sort _} {p0:∀ (x0:α0) (x1:α1 x0),Prop} {p1:∀ (x0:α0) (x1:α1 x0),Prop} {G:Prop} (h:∃ x0,∃ x1,p0 x0 x1/\p1 x0 x1) (k:∀ (x0:α0) (x1:α1 x0),p0 x0 x1->p1 x0 x1->G):G:=by obtain⟨x0,x1,h0,h1⟩:=h;exact k x0 x1 h0 h1
theorem fh {α0:Sort _} {α1:∀ (x0:α0),Sort _} {p0:∀ (x0:α0) (x1:α1 x0),Prop} {p1:∀ (x0:α0) (x1:α1 x0),Prop} {p2:∀ (x0:α0) (x1:α1 x0),Prop} {G:Prop} (h:∃ x0,∃ x1,p0 x0 x1/\p1 x0 x1/\p2 x0 x1) (k:∀ (x0:α0) (x1:α1 x0),p0 x0 x1->p1 x0 x1->p2 x0 x1->G):G:=by obtain⟨x0,x1,h0,h1,h2⟩:=h;exact k x0 x1 h0 h1 h2
theorem jh {α0:Sort _} {α1:∀ (x0:α0),Sort _} {p0:∀ (x0:α0) (x1:α1 x0),Prop} {p1:∀ (x0:α0) (x1:α1 x0),Prop} {p2:∀ (x0:α0) (x1:α1 x0),Prop} {p3:∀ (x0:α0) (x1:α1 x0),Prop} {G:Prop} (h:∃ x0,∃ x1,p0 x0 x1/\p1 x0 x1/\p2 x0 x1/\p3 x0 x1) (k:∀ (x0:α0) (x1:α1 x0),p0 x0 x1->p1 x0 x1->p2 x0 x1->p3 x0 x1->G):G:=by obtain⟨x0,x1,h0,h1,h2,h3⟩:=h;exact k x0 x1 h0 h1 h2 h3
theorem eE {α0:Sort _} {α1:∀ (x0:α0),Sort _} {α2:∀ (x0:α0) (x1:α1 x0),Sort _} {p0:∀ (x0:α0) (x1:α1 x0) (x2:α2 x0 x1),Prop} {G:Prop} (h:∃ x0,∃ x1,∃ x2,p0 x0 x1 x2) (k:∀ (x0:α0) (x1:α1 x0) (x2:α2 x0 x1),p0 x0 x1 x2->G):G:=by obtain⟨x0,x1,x2,h0⟩:=h;exact k x0 x1 x2 h0
theorem gP {α0:Sort _} {α1:∀ (x0:α0),Sort _} {α2:∀ (x0:α0) (x1:α1 x0),Sort _} {α3:∀ (x0:α0) (x1:α1 x0) (x2:α2 x0 x1),Sort _} {p0:∀ (x0:α0) (x1:α1 x0) (x2:α2 x0 x1) (x3:α3 x0 x1 x2),Prop} {G:Prop} (h:∃ x0,∃ x1,∃ x2,∃ x3,p0 x0 x1 x2 x3) (k:∀ (x0:α0) (x1:α1 x0) (x2:α2 x0 x1) (x3:α3 x0 x1 x2),p0 x0 x1 x2 x3->G):G:=by obtain⟨x0,x1,x2,x3,h0⟩:=h;exact k x0 x1 x2 x3 h0
noncomputable def big:Nat:=1000000
noncomputable def small (k:Int):Prop:=-(2 ^ 62) < k/\k < 2 ^ 62
inductive V where
 | none
 | bool (b:Bool)
 | int (i:Int)
 | str (s:Str)
 | ref (i:Nat)
 | glob (a:Addr)
 | bi (id:String)
 | ty (n:String)
 deriving DecidableEq
inductive O where
 | list (xs:List V)
 | frozen (xs:List V)
 | tuple (xs:List V)
 | dict (es:List (Int × V)) (n:Nat)
 | set (xs:List Int)
 | inst (c:Addr) (fs:Str->Option V)
 | exc (c:V) (args:List V)
 | liter (l k:Nat)
 | nextof (it:Nat)
 | dead
 | range (a b:Int)
 | dvals (d:Nat)
structure St where
 H:List O
 m:Str->Option V
noncomputable def St.put (σ:St) (x:Str) (v:V):St:=⟨σ.H,fun y=>if y=x then some v else σ.m y⟩
noncomputable abbrev Tr (α:Type):=St->(α->St->Prop)->(V->St->Prop)->Prop
noncomputable def VR (φ:List Addr):V->Value->Prop
 | .none,.none=>True
 | .bool b,.bool c=>b=c
 | .int i,.int j _=>i=j
 | .str s,.str t _=>s=t
 | .ref i,.ref a=>φ[i]?=some a
 | .glob g,.ref a=>g=a
 | .bi x,.builtin y=>x=y
 | .ty x,.type y=>x=y
 | _,_=>False
noncomputable def VRs (φ:List Addr):List V->List Value->Prop
 | [],[]=>True
 | x::xs,y::ys=>VR φ x y/\VRs φ xs ys
 | _,_=>False
noncomputable def VRo (φ:List Addr):Option V->Option Value->Prop
 | none,none=>True
 | some x,some y=>VR φ x y
 | _,_=>False
noncomputable def VRp (φ:List Addr) (x:Option V) (y:Option Value):Prop:=∀ v,x=some v->∃ z,y=some z/\VR φ v z
theorem VRo.vrp {φ:List Addr} {x:Option V} {y:Option Value} (r:VRo φ x y):VRp φ x y:=by
 intro v hv;subst hv
 induction y with
 | none=>exact r.elim
 | some z=>exact aW z rfl r
theorem ah {α:Type} {l l':List α} (h:l <+: l') {i:Nat} {a:α} (e:l[i]?=some a):l'[i]?=some a:=by
 obtain⟨t,rfl⟩:=h
 rw [GR (List.getElem?_eq_some_iff.mp e).1];exact e
theorem VR.mono {φ φ':List Addr} (h:φ <+: φ') {x:V} {y:Value} (r:VR φ x y):VR φ' x y:=by
 induction x<;>induction y<;>first | exact r | exact r.elim | exact ah h r
theorem VRs.ind {φ:List Addr} {motive:∀ (xs:List V) (ys:List Value),VRs φ xs ys->Prop} (nil:motive [] [] trivial)
  (cons:∀ x y xs ys (a:VR φ x y) (b:VRs φ xs ys),motive xs ys b->motive (x::xs) (y::ys) ⟨a,b⟩):∀ xs ys h,motive xs ys h:=by
 intro xs
 induction xs with
 | nil =>
  intro ys
  induction ys using List.casesOn with
  | nil=>exact fun _=>nil
  | cons=>exact fun h=>h.elim
 | cons x xs ih =>
  intro ys
  induction ys using List.casesOn with
  | nil=>exact fun h=>h.elim
  | cons y ys=>exact fun h=>cons x y xs ys h.1 h.2 (ih ys h.2)
theorem VRs.mono {φ φ':List Addr} (h:φ <+: φ') {xs:List V} {ys:List Value} (r:VRs φ xs ys):VRs φ' xs ys:=by
 induction xs,ys,r using VRs.ind with
 | nil=>trivial
 | cons x y xs ys a b ih=>exact⟨a.mono h,ih⟩
theorem VRo.mono {φ φ':List Addr} (h:φ <+: φ') {x:Option V} {y:Option Value} (r:VRo φ x y):VRo φ' x y:=by
 induction x<;>induction y<;>first | trivial | exact r.elim | exact VR.mono h r
theorem VRp.mono {φ φ':List Addr} (h:φ <+: φ') {x:Option V} {y:Option Value} (r:VRp φ x y):VRp φ' x y:=fun v hv=>let ⟨z,hz,rz⟩:=r v hv;⟨z,hz,rz.mono h⟩
theorem VRs.length {φ:List Addr} {xs:List V} {ys:List Value} (r:VRs φ xs ys):xs.length=ys.length:=by
 induction xs,ys,r using VRs.ind with
 | nil=>rfl
 | cons x y xs ys a b ih=>exact congrArg (·+1) ih
theorem VRs.append {φ:List Addr} {xs xs':List V} {ys ys':List Value} (r:VRs φ xs ys) (h:VRs φ xs' ys'):VRs φ (xs++xs') (ys++ys'):=by
 induction xs,ys,r using VRs.ind with
 | nil=>exact h
 | cons x y xs ys a b ih=>exact⟨a,ih⟩
theorem VRs.get {φ:List Addr} {xs:List V} {ys:List Value} (r:VRs φ xs ys) {i:Nat} {x:V} (e:xs[i]?=some x):∃ y,ys[i]?=some y/\VR φ x y:=by
 induction xs,ys,r using VRs.ind generalizing i with
 | nil=>exact nS e
 | cons z y xs ys a b ih =>
  induction i using Nat.casesOn with
  | zero=>exact aW y rfl (Option.some.inj e ▸ a)
  | succ i=>exact ih e
theorem VRs.x7 {φ:List Addr} {xs:List V} {ys:List Value} (h:VRs φ xs ys) {i:Nat} (e:xs[i]?=none):ys[i]?=none:=by
 rw [List.getElem?_eq_none_iff] at e ⊢;rw [<- h.length];exact e
theorem VRs.take {φ:List Addr} {xs:List V} {ys:List Value} (r:VRs φ xs ys) (n:Nat):VRs φ (xs.take n) (ys.take n):=by
 induction xs,ys,r using VRs.ind generalizing n with
 | nil=>induction n using Nat.casesOn<;>trivial
 | cons x y xs ys a b ih=>induction n using Nat.casesOn with
  | zero=>trivial
  | succ n=>exact⟨a,ih n⟩
theorem VRs.drop {φ:List Addr} {xs:List V} {ys:List Value} (r:VRs φ xs ys) (n:Nat):VRs φ (xs.drop n) (ys.drop n):=by
 induction xs,ys,r using VRs.ind generalizing n with
 | nil=>induction n using Nat.casesOn<;>trivial
 | cons x y xs ys a b ih=>induction n using Nat.casesOn with
  | zero=>exact⟨a,b⟩
  | succ n=>exact ih n
theorem VRs.reverse {φ:List Addr} {xs:List V} {ys:List Value} (r:VRs φ xs ys):VRs φ xs.reverse ys.reverse:=by
 induction xs,ys,r using VRs.ind with
 | nil=>trivial
 | cons x y xs ys a b ih=>rw [List.reverse_cons,List.reverse_cons];exact ih.append ⟨a,trivial⟩
structure Cls where
 slots:Option (List Str)
 attrs:List Str
structure Base where
 prog:Program
 w:World
 Fw:Heap
 K:W.Frag
 os:OsState
 cls:Addr->Option Cls
 mg:Str->Option Value
 mb:Str->Option Value
noncomputable def KV (φ:List Addr):List (Int × V)->List (Int × Value)->Prop
 | [],[]=>True
 | (k,v)::r,(j,y)::r'=>(k=j/\VR φ v y)/\KV φ r r'
 | _,_=>False
theorem KV.ind {φ:List Addr} {motive:∀ (es:List (Int × V)) (ks:List (Int × Value)),KV φ es ks->Prop} (nil:motive [] [] trivial)
  (cons:∀ k x y xs ys (a:VR φ x y) (b:KV φ xs ys),motive xs ys b->motive ((k,x)::xs) ((k,y)::ys) ⟨⟨rfl,a⟩,b⟩):∀ es ks h,motive es ks h:=by
 intro xs
 induction xs with
 | nil =>
  intro ys
  induction ys using List.casesOn with
  | nil=>exact fun _=>nil
  | cons=>exact fun h=>h.elim
 | cons x xs ih =>
  intro ys
  induction ys using List.casesOn with
  | nil=>exact fun h=>h.elim
  | cons y ys =>
   obtain⟨k,x⟩:=x
   obtain⟨j,y⟩:=y
   intro h
   obtain rfl:k=j:=h.1.1
   exact cons k x y xs ys h.1.2 h.2 (ih ys h.2)
theorem KV.mono {φ φ':List Addr} (h:φ <+: φ') {xs:List (Int × V)} {ys:List (Int × Value)} (r:KV φ xs ys):KV φ' xs ys:=by
 induction xs,ys,r using KV.ind with
 | nil=>trivial
 | cons k x y xs ys a b ih=>exact⟨⟨rfl,a.mono h⟩,ih⟩
inductive TbR (own:Addr->Option Nat) (h:Heap) (i:Nat) (a t:Addr) (vs:Array Value):Prop
 | mk (T:Addr) (oT:Obj) (tvs:Array Value) (e1:vs[1]?=some (.ref T)) (wT:own T=some i) (hTa:T≠a) (hTt:T≠t) (gT:h.get? T=some oT) (gTd:oT.data=.fields tvs) (hsz:3 < tvs.size)
inductive Cv (φ:List Addr) (own:Addr->Option Nat) (h:Heap) (i:Nat) (a c:Addr) (k:Cls) (fs:Str->Option V):Prop
 | mk (d:Addr) (es:Array DictEntry) (n:Nat) (wd:own d=some i) (hda:d≠a) (ga:h.get? a=some (W.instObj c d)) (gd:h.get? d=some { cls:=.type "dict",dict:=none,data:=.dict es n,slots:=#[] }) (sk:StrKeys es) (uk:UniqKeys es) (hat:∀ x,fs x≠none->x∈k.attrs) (hv:∀ x,VRo φ (fs x) (nsFind es x))
inductive Cw (φ:List Addr) (own:Addr->Option Nat) (h:Heap) (i:Nat) (a c:Addr) (names:List Str) (fs:Str->Option V):Prop
 | mk (sl:Array (Option Value)) (d:Addr) (wd:own d=some i) (hda:d≠a) (gd:h.get? d=some W.emptyDict) (ga:h.get? a=some { cls:=.ref c,dict:=some d,data:=.plain,slots:=sl }) (hl:names.length<=100) (hv:∀ (x:Str) (j:Nat),names[j]?=some x->VRo φ (fs x) (sl[j]?).join) (ho:∀ x,x∉names->fs x=none)
inductive Eh (φ:List Addr) (own:Addr->Option Nat) (h:Heap) (i:Nat) (a:Addr) (c:V) (args:List V):Prop
 | mk (we:own a=some i) (vc:Value) (oe:Obj) (vs:Array Value) (t:Addr) (ts:Array Value) (n:Nat) (hc:VR φ c vc) (g:h.get? a=some oe) (gc:oe.cls=vc) (gd:oe.data=.fields vs) (g0:vs[0]?=some (.ref t)) (wt:own t=some i) (hte:t≠a) (gt:h.get? t=some { cls:=.type "tuple",dict:=none,data:=.seq ts n,slots:=#[] }) (hv:VRs φ args ts.toList)
   (htb:vs[1]?=some .none\/TbR own h i a t vs)
noncomputable def OR (B:Base) (φ:List Addr) (own:Addr->Option Nat) (h:Heap) (i:Nat) (a:Addr):O->Prop
 | .list xs=>own a=some i/\xs.length<=big/\∃ vs n,h.get? a=some { cls:=.type "list",dict:=none,data:=.seq vs n,slots:=#[] }/\VRs φ xs vs.toList
 | .frozen xs=>∃ vs,B.Fw.IsList a vs/\VRs φ xs vs.toList
 | .tuple xs=>own a=some i/\xs.length<=big/\∃ vs n,h.get? a=some { cls:=.type "tuple",dict:=none,data:=.seq vs n,slots:=#[] }/\VRs φ xs vs.toList
 | .dict es n=>own a=some i/\(a == sysModules)=false/\∃ kvs,h.DictAt (intKind B.prog B.w) a kvs n/\KV φ es kvs
 | .set xs=>own a=some i/\∃ S:Int->Bool,∃ n,h.SetOf (intKind B.prog B.w) a S n/\(∀ k,S k=true↔k∈xs)/\n<=xs.length/\h.get? a≠none
 | .inst c fs=>own a=some i/\∃ k,B.cls c=some k/\match k.slots with
  | none=>Cv φ own h i a c k fs
  | some names=>Cw φ own h i a c names fs
 | .exc c args=>Eh φ own h i a c args
 | .liter l k=>own a=some i/\∃ al,φ[l]?=some al/\h.get? a=some { cls:=.type "list_iterator",dict:=none,data:=.fields #[.ref al,.int k 0],slots:=#[] }
 | .nextof it=>own a=some i/\∃ ai,φ[it]?=some ai/\h.get? a=some { cls:=.type "method-wrapper",dict:=none,data:=.fields #[.builtin "list_iterator.__next__",.ref ai],slots:=#[] }
 | .dead=>True
 | .range x y=>own a=some i/\small x/\small y/\∃ t u v,h.get? a=some { cls:=.type "range",dict:=none,data:=.fields #[.int x t,.int y u,.int 1 v],slots:=#[] }
 | .dvals d=>own a=some i/\∃ ad,φ[d]?=some ad/\h.get? a=some { cls:=.type "dict_values",dict:=none,data:=.fields #[.ref ad],slots:=#[] }
theorem z62 {k:Int} (h0:-2^62<=k) (h1:k < 2^62):-9223372036854775808<=k/\k < 9223372036854775808:=⟨Int.le_trans (by decide) h0,Int.lt_trans h1 (by decide)⟩
theorem DX {k:Int} (h0:-2^62<=k) (h1:k < 2^62):Builtin.List.listFitsIndex k=true:=by
 refine Bool.and_eq_true_iff.mpr ⟨decide_eq_true (Int.le_trans (by decide) h0),decide_eq_true (Int.lt_trans h1 (by decide))⟩
theorem Fi {k:Int} (h0:0<=k):-2^62<=k:=Int.le_trans (by decide) h0
theorem Fg {k:Int} (h1:k < 2^62):k < 2^63:=Int.lt_trans h1 (by decide)
theorem Ff {k:Int} (h1:-2^62<=k):-2^63<=k:=Int.le_trans (by decide) h1
theorem Eg {k:Int} {j n m:Nat} (e:m=n) (hj:j < n) (h:(0<=k/\k=j)\/(k < 0/\k+n=j)):seqIndex? k m=some j:=by
 subst e
 unfold seqIndex?
 refine Or.elim h (fun h=>?_) (fun h=>?_)
 .refine (congrArg (fun z:Int=>if (decide (0<=z) && decide (z < m))=true then some z.toNat else none) (if_neg (Int.not_lt.mpr h.1))).trans ?_
  rw [h.2]
  exact if_pos (Bool.and_eq_true_iff.mpr ⟨decide_eq_true (Int.natCast_nonneg j),decide_eq_true (Int.ofNat_lt.2 hj)⟩)
 .refine (congrArg (fun z:Int=>if (decide (0<=z) && decide (z < m))=true then some z.toNat else none) (if_pos h.1)).trans ?_
  rw [h.2]
  exact if_pos (Bool.and_eq_true_iff.mpr ⟨decide_eq_true (Int.natCast_nonneg j),decide_eq_true (Int.ofNat_lt.2 hj)⟩)
theorem ulc {u d c:Nat} (n:Nat) (hn:n<=200) (h:u+60*d+200 < c):u+n < c:=GV (Nat.add_le_add (Nat.le_add_right u (60*d)) hn) h
theorem ulm {u d c a b:Nat} (h:u+60*d+200 < c) (hd:b<=64):u+1+min a b < c:=GV (Nat.add_le_add_left (GS (Nat.min_le_right a b) hd) (u+1)) (ulc 65 (by decide) h)
theorem Ec {k:Int} (h:-2^62 < k/\k < 2^62):k.natAbs < 2^63:=by
 refine Or.elim (Int.le_total 0 k) (fun h0=>?_) fun h0=>?_
 .exact Nat.lt_trans (Int.natAbs_lt_natAbs_of_nonneg_of_lt h0 h.2) (by decide)
 .exact (Int.natAbs_neg k) ▸ Nat.lt_trans (Int.natAbs_lt_natAbs_of_nonneg_of_lt (Int.neg_nonneg_of_nonpos h0) (Int.neg_lt_neg h.1)) (by decide)
theorem E1 {k:Int} (h0:0 < k) (h1:k < 2^30):k.natAbs < 1073741824:=Int.natAbs_lt_natAbs_of_nonneg_of_lt (Int.le_of_lt h0) h1
theorem pl1 {k:Int} {n:Nat} (h0:0<=k) (h1:k < n):k.toNat < n/\(0<=k/\k=(k.toNat:Int)\/k < 0/\k+n=(k.toNat:Int)):=
 ⟨(Int.toNat_lt h0).2 h1,.inl ⟨h0,(Int.toNat_of_nonneg h0).symm⟩⟩
theorem pl2 {k:Int} {n:Nat} (h0:¬ 0<=k) (h1:0<=k+n):(k+n).toNat < n/\(0<=k/\k=((k+n).toNat:Int)\/k < 0/\k+n=((k+n).toNat:Int)):=
 ⟨(Int.toNat_lt h1).2 (Int.lt_of_lt_of_le (Int.add_lt_add_right (Int.not_le.1 h0) n) (Int.le_of_eq (Int.zero_add _))),.inr ⟨Int.not_le.1 h0,(Int.toNat_of_nonneg h1).symm⟩⟩
theorem E6 {u d c:Nat} (h:u+60*d+250 < c):u+3+60*d+200 < c:=GV (GS (Nat.le_of_eq (congrArg (·+200) (Nat.add_right_comm u 3 (60*d)))) (Nat.add_le_add_left (by decide:203<=250) (u+60*d))) h
theorem E7 {u d c:Nat} (h:u+6*d+15 < c):u+1+6*d+10 < c:=GV (GS (Nat.le_of_eq (congrArg (·+10) (Nat.add_right_comm u 1 (6*d)))) (Nat.add_le_add_left (by decide:11<=15) (u+6*d))) h
theorem E8 {u d c:Nat} (h:u+60*(d+1)+200 < c):u+60*d+250 < c:=GV (Nat.add_le_add_left (by decide:250<=260) (u+60*d)) h
theorem E9 {u d c:Nat} (h:u+60*(d+1)+200 < c):u+1+60*d+250 < c:=GV (GS (Nat.le_of_eq (congrArg (·+250) (Nat.add_right_comm u 1 (60*d)))) (Nat.add_le_add_left (by decide:251<=260) (u+60*d))) h
theorem Fb {u d c:Nat} (h:u+6*(d+1)+10 < c):u+1+6*d+15 < c:=GV (Nat.le_of_eq (congrArg (·+15) (Nat.add_right_comm u 1 (6*d)))) h
theorem Ef {u d c:Nat} (h:u+6*(d+1)+10 < c):u+1 < c:=GV (Nat.add_le_add (Nat.le_add_right u (6*(d+1))) (by decide:1<=10)) h
theorem Fc {u d c:Nat} (h:u+6*(d+1)+10 < c):u < c:=Nat.lt_trans (Nat.lt_succ_self u) (Ef h)
theorem w44 {d k m r c:Nat} (h:d<=20) (e:m+k*20+r < c):m+k * d+r < c:=GV (Nat.add_le_add_right (Nat.add_le_add_left (Nat.mul_le_mul_left k h) m) r) e
theorem mx1 {a b:Int} (h:a < b):b - a=max (b - a) 0:=(Int.max_eq_left (Int.le_of_lt (Int.sub_pos_of_lt h))).symm
theorem mx2 {a b:Int} (h:¬ a < b):0=max (b - a) 0:=(Int.max_eq_right (Int.sub_nonpos_of_le (Int.not_lt.1 h))).symm
theorem rsm {a b:Int} (s1:-2 ^ 62 < a/\a < 2 ^ 62) (s2:-2 ^ 62 < b/\b < 2 ^ 62):(((-9223372036854775808<=a/\a < 9223372036854775808)/\-9223372036854775808<=b/\b < 9223372036854775808)/\-9223372036854775808<=max (b - a) 0/\max (b - a) 0 < 9223372036854775808)/\(max (b - a) 0=0\/-9223372036854775808<=b/\b < 9223372036854775808):=by
 refine⟨⟨⟨z62 (Int.le_of_lt s1.1) s1.2,z62 (Int.le_of_lt s2.1) s2.2⟩,Int.le_trans (by decide) (Int.le_max_right _ _),Int.max_lt.2 ⟨?_,by decide⟩⟩,.inr (z62 (Int.le_of_lt s2.1) s2.2)⟩
 exact Int.add_lt_add s2.2 (Int.neg_lt_neg s1.1)
theorem ci9 {n:Nat} (h8:¬ n=8) (h10:¬ n=10) (a:8<=n) (b:n<=10):n=9:=Nat.le_antisymm (Nat.le_of_lt_succ (Nat.lt_of_le_of_ne b h10)) (Nat.lt_of_le_of_ne a (Ne.symm h8))
theorem Em {a z r:Nat} (hl:a+100 * (r+1)<=10000) (hz:z<=100):a+z+100 * r<=10000:=GS (GS (Nat.le_of_eq (Nat.add_right_comm a z (100*r))) (Nat.add_le_add_left hz (a+100*r))) hl
theorem isE {α β:Type _} {vs:Array α} {xs:List β} (h:vs.size=xs.length):(!vs.isEmpty)=!xs.isEmpty:=congrArg not ((congrArg (fun n=>decide (n=0)) h).trans (by induction xs using List.casesOn<;>rfl))
theorem nge {k:Int} {n j:Nat} (hk:k+n=j):-(n:Int)<=k:=Int.neg_le_of_neg_le (Int.le_of_sub_nonneg (by rw [Int.sub_neg,Int.add_comm,hk];exact Int.natCast_nonneg j))
end Mine
namespace Mine
open PySem
structure Fm where
 env:Env
 ro:List Str
 fas:List Addr
noncomputable def Cur (f:Fm) (b:Addr):Prop:=b=f.env.locals\/∃ n,n∉f.ro/\f.env.cells.lookup n=some b/\f.env.kindOf n=some .cell
structure FR (φ:List Addr) (env:Env) (m:Str->Option V) (h:Heap):Prop where
 ns:∃ ml,h.Ns env.locals ml/\∀ x,env.kindOf x=some .local->VRp φ (m x) (ml x)
 cell:∀ x,env.kindOf x=some .cell\/env.kindOf x=some .free->∃ c v,env.cells.lookup x=some c/\h.IsCell c v/\VRp φ (m x) v
structure Ct (B:Base) (fs:List Env) (env:Env):Prop where
 kind:env.scope.kind=.function
 globals:env.globals=mainGlobals
 builtins:env.builtins=builtinsNs
 frame:∃ f rest L,fs=f::rest/\f.frame=some L/\env.frame=some L
 apart:∀ x y c,env.cells.lookup x=some c->env.cells.lookup y=some c->x=y
 cellNe:∀ x c,env.cells.lookup x=some c->c≠env.locals
 locNew:B.Fw.get? env.locals=none
 cellNew:∀ x c,env.cells.lookup x=some c->B.Fw.get? c=none
 code:∃ q,PySem.W.codeIn B.K env.code q=true
structure W (B:Base) (fs:List Env) (f:Fm) (φ:List Addr) (own:Addr->Option Nat) (H:List O) (m:Str->Option V) (s:Shared):Prop where
 eok:Ct B fs f.env
 len:φ.length=H.length
 obj:∀ i o a,H[i]?=some o->φ[i]?=some a->OR B φ own s.heap i a o
 stays:B.Fw.StaysIn s.heap
 ownNew:∀ b i,own b=some i->B.Fw.get? b=none/\(∃ o,s.heap.get? b=some o)/\i < H.length
 ownFr:∀ f∈fs,∀ L,f.frame=some L->own L=none
 ownLoc:own f.env.locals=none
 ownCell:∀ x c,f.env.cells.lookup x=some c->own c=none/\∃ o,s.heap.get? c=some o
 frames:s.heap.FunFrames B.Fw fs
 fr:FR φ f.env m s.heap
 gens:s.gens=#[]
 os:s.os=B.os
 fas:∀ b,b∈fs.filterMap (·.frame)↔b∈f.fas
structure Kp (f:Fm) (φ:List Addr) (own:Addr->Option Nat) (h:Heap) (φ':List Addr) (own':Addr->Option Nat) (h':Heap):Prop where
 pre:φ <+: φ'
 ownOld:∀ b o,h.get? b=some o->own' b=own b
 alive:∀ b o,h.get? b=some o->∃ o',h'.get? b=some o'
 keep:∀ b o,h.get? b=some o->own b=none->¬ Cur f b->∃ sl,h'.get? b=some { o with slots:=sl }
 ex:∀ b o,h.get? b=some o->own b=none->¬ Cur f b->b∉f.fas->h'.get? b=some o
theorem Kp.refl (f:Fm) (φ:List Addr) (own:Addr->Option Nat) (h:Heap):Kp f φ own h φ own h:=
 ⟨GZ _,fun _ _ _=>rfl,fun _ o e=>⟨o,e⟩,fun _ o e _ _=>⟨o.slots,e⟩,fun _ _ e _ _ _=>e⟩
theorem Kp.trans {f:Fm} {φ φ' F9:List Addr} {own own' own'':Addr->Option Nat} {h h' h'':Heap} (x:Kp f φ own h φ' own' h') (y:Kp f φ' own' h' F9 own'' h''):Kp f φ own h F9 own'' h'':=by
 refine⟨x.pre.trans y.pre,fun b o e=>let ⟨o',e'⟩:=x.alive b o e;(y.ownOld b o' e').trans (x.ownOld b o e),fun b o e=>let ⟨o',e'⟩:=x.alive b o e;y.alive b o' e',fun b o e ho hc=>?_,fun b o e ho hc hn=>y.ex b o (x.ex b o e ho hc hn) ((x.ownOld b o e).trans ho) hc hn⟩
 obtain⟨sl,e1⟩:=x.keep b o e ho hc
 obtain⟨sl2,e2⟩:=y.keep b _ e1 ((x.ownOld b o e).trans ho) hc
 exact⟨sl2,e2⟩
theorem OR.keep {B:Base} {φ φ':List Addr} {own own':Addr->Option Nat} {h h':Heap} {i:Nat} {a:Addr} {o:O} (r:OR B φ own h i a o)
  (hp:φ <+: φ') (ho:∀ b,own b=some i->own' b=some i) (hh:∀ b ob,own b=some i->h.get? b=some ob->h'.get? b=some ob):OR B φ' own' h' i a o:=by
 induction o with
 | list xs=>(refine aJ r fun w hz ζ1=>?_;clear r;refine bq ζ1 fun vs n g v=>?_;clear ζ1);exact⟨ho _ w,hz,vs,n,hh _ _ w g,v.mono hp⟩
 | frozen xs=>(refine ao r fun vs g v=>?_;clear r);exact⟨vs,g,v.mono hp⟩
 | tuple xs=>(refine aJ r fun w hz ζ2=>?_;clear r;refine bq ζ2 fun vs n g v=>?_;clear ζ2);exact⟨ho _ w,hz,vs,n,hh _ _ w g,v.mono hp⟩
 | dict es n=>(refine aJ r fun w hd ζ3=>?_;clear r;refine ao ζ3 fun kvs ζ4 v=>?_;clear ζ3;obtain⟨o,ds,g,g2⟩:=ζ4);exact⟨ho _ w,hd,kvs,⟨o,ds,hh _ _ w g,g2⟩,v.mono hp⟩
 | set xs =>
  (obtain⟨w,ζ5⟩:=r;refine jh ζ5 fun S n g v hn hz=>?_;clear ζ5)
  (refine gP g fun o es ep t ζ6=>?_;clear g;obtain⟨g1,g2⟩:=ζ6)
  exact⟨ho _ w,S,n,⟨o,es,ep,t,hh _ _ w g1,g2⟩,v,hn,by refine rwE (hh _ _ w g1) ?_;exact Option.some_ne_none o⟩
 | inst c fs =>
  (obtain⟨w,ζ7⟩:=r;refine ao ζ7 fun k hk r=>?_;clear ζ7)
  refine⟨ho _ w,k,hk,?_⟩
  induction hs:k.slots with
  | none =>
   rw [hs] at r
   obtain⟨d,es,n,wd,hd,g,gd,hk,hu,hsz,hv⟩:=r
   exact⟨d,es,n,ho _ wd,hd,hh _ _ w g,hh _ _ wd gd,hk,hu,hsz,fun x=>(hv x).mono hp⟩
  | some names =>
   rw [hs] at r
   obtain⟨sl,d,wd,hd,gd,g,hl,hv,hn⟩:=r
   exact⟨sl,d,ho _ wd,hd,hh _ _ wd gd,hh _ _ w g,hl,fun x j e=>(hv x j e).mono hp,hn⟩
 | exc c args =>
  obtain⟨w,vc,oe,vs,t,ts,n,hc,g,gc,gd,g0,wt,hta,gt,hv,htb⟩:=r
  refine⟨ho _ w,vc,oe,vs,t,ts,n,hc.mono hp,hh _ _ w g,gc,gd,g0,ho _ wt,hta,hh _ _ wt gt,hv.mono hp,?_⟩
  rcases htb with e | ⟨T,oT,tvs,e,wT,hTa,hTt,gT,r,r2⟩
  .exact .inl e
  .exact .inr ⟨T,oT,tvs,e,ho _ wT,hTa,hTt,hh _ _ wT gT,r,r2⟩
 | liter l k=>(obtain⟨w,ζ8⟩:=r;refine ao ζ8 fun al e g=>?_;clear ζ8);exact⟨ho _ w,al,ah hp e,hh _ _ w g⟩
 | nextof it=>(obtain⟨w,ζ9⟩:=r;refine ao ζ9 fun al e g=>?_;clear ζ9);exact⟨ho _ w,al,ah hp e,hh _ _ w g⟩
 | dead=>trivial
 | range x y=>(refine ek r fun w s1 s2 Ft=>?_;clear r;refine eE Ft fun t u v g=>?_;clear Ft);exact⟨ho _ w,s1,s2,t,u,v,hh _ _ w g⟩
 | dvals d=>(obtain⟨w,Fp⟩:=r;refine ao Fp fun al e g=>?_;clear Fp);exact⟨ho _ w,al,ah hp e,hh _ _ w g⟩
theorem FR.keep {φ φ':List Addr} {env:Env} {m:Str->Option V} {h h':Heap} (r:FR φ env m h) (hp:φ <+: φ')
  (hl:∀ o,h.get? env.locals=some o->∃ sl,h'.get? env.locals=some { o with slots:=sl })
  (hc:∀ x c o,env.cells.lookup x=some c->h.get? c=some o->∃ sl,h'.get? c=some { o with slots:=sl }):FR φ' env m h':=by
 (refine ao (r.ns) fun ml Fx r2=>?_;obtain⟨o,es,ep,g,hd,r1⟩:=Fx)
 obtain⟨sl,g'⟩:=hl o g
 refine⟨⟨ml,⟨_,es,ep,g',hd,r1⟩,fun x hx=>(r2 x hx).mono hp⟩,fun x hx=>?_⟩
 (refine fh (r.cell x hx) fun c v e Fy q=>?_;obtain⟨o,g,hd⟩:=Fy)
 obtain⟨sl,g'⟩:=hc x c o e g
 exact jk c v e ⟨_,g',hd⟩ (q.mono hp)
theorem bh {h h' base:Heap} {l:List Env} (hl:h.FunFrames base l) (k:∀ f∈l,∀ L o,f.frame=some L->h.get? L=some o->∃ sl,h'.get? L=some { o with slots:=sl }):h'.FunFrames base l:=by
 induction l with
 | nil=>trivial
 | cons env rest ih =>
  (refine aJ hl fun hk Fz hr=>?_;clear hl;obtain⟨L,o,hf,hn,ho,hd⟩:=Fz)
  obtain⟨sl,ho'⟩:=k env List.mem_cons_self L o hf ho
  exact⟨hk,⟨L,_,hf,hn,ho',hd⟩,ih hr fun f hf'=>k f (List.mem_cons_of_mem _ hf')⟩
structure Quiet (own:Addr->Option Nat) (base h h':Heap):Prop where
 stays:base.StaysIn h'
 ow:∀ b o i,own b=some i->h.get? b=some o->h'.get? b=some o
 un:∀ b o,own b=none->h.get? b=some o->h'.get? b=some o
theorem Quiet.push {own:Addr->Option Nat} {base h:Heap} (hs:base.StaysIn h) (o:Obj):Quiet own base h (h.push o):=
 ⟨fun b ob e=>Heap.get?_push_of_some _ (hs b ob e),fun _ _ _ _ e=>Heap.get?_push_of_some _ e,fun _ ob _ e=>Heap.get?_push_of_some _ e⟩
theorem Quiet.trans {own:Addr->Option Nat} {base h h' h'':Heap} (x:Quiet own base h h') (y:Quiet own base h' h''):Quiet own base h h'':=
 ⟨y.stays,fun b o i w e=>y.ow b o i w (x.ow b o i w e),fun b o w e=>y.un b o w (x.un b o w e)⟩
section
variable {B:Base} {fs:List Env} {f:Fm} {φ:List Addr} {own:Addr->Option Nat} {H:List O} {m:Str->Option V} {s:Shared}
theorem W.quiet (x:W B fs f φ own H m s) {h':Heap} (q:Quiet own B.Fw s.heap h') (tk:Nat):W B fs f φ own H m { s with heap:=h',toks:=tk } where
 eok:=x.eok
 len:=x.len
 obj:=fun i o a e1 e2=>(x.obj i o a e1 e2).keep (GZ _) (fun _ w=>w) (fun b ob w e=>q.ow b ob i w e)
 stays:=q.stays
 ownNew:=fun b i w=>⟨(x.ownNew b i w).1,let ⟨o,e⟩:=(x.ownNew b i w).2.1;⟨o,q.ow b o i w e⟩,(x.ownNew b i w).2.2⟩
 ownFr:=x.ownFr
 ownLoc:=x.ownLoc
 ownCell:=fun y c hc=>⟨(x.ownCell y c hc).1,let ⟨o,e⟩:=(x.ownCell y c hc).2;⟨o,q.un c o (x.ownCell y c hc).1 e⟩⟩
 frames:=bh x.frames fun g hf L o hL e=>⟨o.slots,q.un L o (x.ownFr g hf L hL) e⟩
 fr:=x.fr.keep (GZ _) (fun o e=>⟨o.slots,q.un _ o x.ownLoc e⟩) fun y c o hc e=>⟨o.slots,q.un c o (x.ownCell y c hc).1 e⟩
 gens:=x.gens
 os:=x.os
 fas:=x.fas
theorem Quiet.kp {h h':Heap} (q:Quiet own B.Fw h h'):Kp f φ own h φ own h':=
 ⟨GZ _,fun _ _ _=>rfl,fun b o e=>by induction hb:own b with | none=>exact⟨o,q.un b o hb e⟩ | some j=>exact⟨o,q.ow b o j hb e⟩,fun b o e w _=>⟨o.slots,q.un b o w e⟩,fun b o e w _ _=>q.un b o w e⟩
theorem W.upd (x:W B fs f φ own H m s) {h':Heap} {i:Nat} {a:Addr} {o':O} (hi:i < H.length) (ha:φ[i]?=some a)
  (hs:∀ b,own b≠some i->h'.get? b=s.heap.get? b) (hz:∀ b o,own b=some i->s.heap.get? b=some o->∃ o',h'.get? b=some o') (r:OR B φ own h' i a o') (tk:Nat) :
  W B fs f φ own (H.set i o') m { s with heap:=h',toks:=tk } where
 eok:=x.eok
 len:=by rw [List.length_set];exact x.len
 obj:=fun j o b e1 e2=>by
  rw [List.getElem?_set] at e1
  by_cases hij:i=j
  .subst hij
   simp only [if_true] at e1
   rw [if_pos hi] at e1
   cases e1
   rw [ha] at e2;cases e2
   exact r
  .rw [if_neg hij] at e1
   exact (x.obj j o b e1 e2).keep (GZ _) (fun _ w=>w) fun c ob w e=>by
    rw [hs c (by rw [w];intro q;exact hij (Option.some.inj q).symm)];exact e
 stays:=fun b o e=>by
  refine (hs b (by intro q;rw [(x.ownNew b i q).1] at e;exact nS e)).trans ?_;exact x.stays b o e
 ownNew:=fun b j w=>⟨(x.ownNew b j w).1,by
  obtain⟨o,e⟩:=(x.ownNew b j w).2.1
  by_cases hb:own b=some i
  .exact hz b o hb e
  .exact⟨o,(hs b hb).trans e⟩,by refine rwE List.length_set ?_;exact (x.ownNew b j w).2.2⟩
 ownFr:=x.ownFr
 ownLoc:=x.ownLoc
 ownCell:=fun y c hc=>⟨(x.ownCell y c hc).1,let ⟨o,e⟩:=(x.ownCell y c hc).2;⟨o,(hs c (by refine rwE ((x.ownCell y c hc).1) ?_;exact Ne.symm (Option.some_ne_none i))).trans e⟩⟩
 frames:=bh x.frames fun g hf L o hL e=>⟨o.slots,by rw [hs L (by rw [x.ownFr g hf L hL];exact Ne.symm (Option.some_ne_none i))];exact e⟩
 fr:=x.fr.keep (GZ _) (fun o e=>⟨o.slots,by rw [hs _ (by rw [x.ownLoc];exact Ne.symm (Option.some_ne_none i))];exact e⟩) fun y c o hc e=>⟨o.slots,by rw [hs c (by rw [(x.ownCell y c hc).1];exact Ne.symm (Option.some_ne_none i))];exact e⟩
 gens:=x.gens
 os:=x.os
 fas:=x.fas
theorem mQ {h h':Heap} {i:Nat} (hs:∀ b,own b≠some i->h'.get? b=h.get? b) (hz:∀ b o,own b=some i->h.get? b=some o->∃ o',h'.get? b=some o'):Kp f φ own h φ own h':=
 ⟨GZ _,fun _ _ _=>rfl,fun b o e=>by by_cases hb:own b=some i;exact hz b o hb e;exact⟨o,(hs b hb).trans e⟩,fun b o e w _=>⟨o.slots,by rw [hs b (by rw [w];exact Ne.symm (Option.some_ne_none i))];exact e⟩,fun b o e w _ _=>by rw [hs b (by rw [w];exact Ne.symm (Option.some_ne_none i))];exact e⟩
theorem W.new (x:W B fs f φ own H m s) {h':Heap} {a:Addr} {o':O} {own':Addr->Option Nat}
  (ho:∀ b,b < s.heap.objs.size->own' b=own b) (hn:∀ b,s.heap.objs.size<=b->own' b=none\/(own' b=some H.length/\∃ o,h'.get? b=some o))
  (hk:∀ b o,s.heap.get? b=some o->h'.get? b=some o)
  (r:OR B (φ++[a]) own' h' H.length a o') (tk:Nat) :
  W B fs f (φ++[a]) own' (H++[o']) m { s with heap:=h',toks:=tk } where
 eok:=x.eok
 len:=by refine rwE GY (rwE GY (rwE x.len ?_));rfl
 obj:=fun j o b e1 e2=>by
  have hp:φ <+: φ++[a]:=List.prefix_append _ _
  by_cases hj:j < H.length
  .rw [GR hj] at e1
   rw [GR (by refine rwE x.len ?_;exact hj)] at e2
   exact (x.obj j o b e1 e2).keep hp (fun c w=>by obtain⟨o,e⟩:=(x.ownNew c j w).2.1;refine (ho c (Heap.lt_size e)).trans ?_;exact w) fun c ob w e=>hk c ob e
  .have hj':j=H.length:=by
    have:=(List.getElem?_eq_some_iff.mp e1).1
    rw [GY,List.length_singleton] at this;exact Nat.eq_of_lt_succ_of_not_lt this hj
   subst hj'
   rw [List.getElem?_append_right (Nat.le_refl _)] at e1
   rw [List.getElem?_append_right (by refine rwE x.len ?_;exact Nat.le_refl _),x.len] at e2
   simp at e1 e2
   subst e1 e2
   exact r
 stays:=fun b o e=>hk b o (x.stays b o e)
 ownNew:=fun b i w=>by
  by_cases hb:b < s.heap.objs.size
  .rw [ho b hb] at w
   refine aJ (x.ownNew b i w) fun w1 w2 w3=>?_
   obtain⟨o,e⟩:=w2
   exact⟨w1,⟨o,hk b o e⟩,by refine rwE GY ?_;exact Nat.le.step w3⟩
  .rcases hn b (Nat.le_of_not_lt hb) with e | ⟨e,hb'⟩
   .rw [e] at w;exact nS w
   .rw [e] at w;cases w
    refine⟨?_,hb',by refine rwE GY ?_;exact Nat.lt_succ_self _⟩
    induction hq:B.Fw.get? b with
    | none=>rfl
    | some o=>exact absurd (Heap.lt_size (x.stays b o hq)) hb
 ownFr:=fun g hf L hL=>by
  have hlt:L < s.heap.objs.size:=by
   (obtain⟨_,FD⟩:=x.frames.mem (b:=L) (List.mem_filterMap.mpr ⟨g,hf,hL⟩);refine ao FD fun o e _=>?_;clear FD)
   exact Heap.lt_size e
  refine rwE (ho L hlt) ?_;exact x.ownFr g hf L hL
 ownLoc:=by
  refine ao (x.fr.ns) fun ml hns _=>?_
  refine (ho _ hns.lt).trans ?_;exact x.ownLoc
 ownCell:=fun y c hc=>by
  obtain⟨w1,o,e⟩:=x.ownCell y c hc
  exact⟨(ho c (Heap.lt_size e)).trans w1,o,hk c o e⟩
 frames:=bh x.frames fun g hf L o hL e=>⟨o.slots,hk L o e⟩
 fr:=x.fr.keep (List.prefix_append _ _) (fun o e=>⟨o.slots,hk _ o e⟩) fun y c o hc e=>⟨o.slots,hk c o e⟩
 gens:=x.gens
 os:=x.os
 fas:=x.fas
end
end Mine
namespace Mine
open PySem
noncomputable def nameV {α:Sort u} (e:Expr) (d:α) (k:Str->α):α:=if h:Nat.beq e.ctorIdx 23=true then Expr.Name.elim (motive_1:=fun _=>α) e (Nat.eq_of_beq_eq_true h) fun x _=>k x else d
noncomputable def zN {α:Sort u} (e:Expr) (d:α) (k:List Expr->α):α:=if h:Nat.beq e.ctorIdx 25=true then Expr.Tuple.elim (motive_1:=fun _=>α) e (Nat.eq_of_beq_eq_true h) fun es _ _=>k es else d
noncomputable def xJ {α:Sort u} (e:Expr) (d:α) (k:Expr->Str->α):α:=if h:Nat.beq e.ctorIdx 20=true then Expr.Attribute.elim (motive_1:=fun _=>α) e (Nat.eq_of_beq_eq_true h) fun o n _=>k o n else d
noncomputable def Cq {α:Sort u} (e:Expr) (d:α) (k:Expr->Expr->α):α:=if h:Nat.beq e.ctorIdx 21=true then Expr.Subscript.elim (motive_1:=fun _=>α) e (Nat.eq_of_beq_eq_true h) fun o i _=>k o i else d
noncomputable def uD {α:Sort u} (e:Expr) (d:α) (k:Expr->List Expr->List Keyword->α):α:=if h:Nat.beq e.ctorIdx 16=true then Expr.Call.elim (motive_1:=fun _=>α) e (Nat.eq_of_beq_eq_true h) fun f a ks _=>k f a ks else d
theorem nH {α:Sort u} {e:Expr} {d:α} {k:Str->α} (h:¬ e.ctorIdx=23):nameV e d k=d:=dif_neg fun b=>h (Nat.eq_of_beq_eq_true b)
theorem Cs {α:Sort u} {e:Expr} {d:α} {k:List Expr->α} (h:¬ e.ctorIdx=25):zN e d k=d:=dif_neg fun b=>h (Nat.eq_of_beq_eq_true b)
theorem Ae {α:Sort u} {e:Expr} {d:α} {k:Expr->Str->α} (h:¬ e.ctorIdx=20):xJ e d k=d:=dif_neg fun b=>h (Nat.eq_of_beq_eq_true b)
theorem DT {α:Sort u} {e:Expr} {d:α} {k:Expr->Expr->α} (h:¬ e.ctorIdx=21):Cq e d k=d:=dif_neg fun b=>h (Nat.eq_of_beq_eq_true b)
theorem CE {α:Sort u} {e:Expr} {d:α} {k:Expr->List Expr->List Keyword->α} (h:¬ e.ctorIdx=16):uD e d k=d:=dif_neg fun b=>h (Nat.eq_of_beq_eq_true b)
theorem nG {e:Expr} (h:e.ctorIdx=23):∃ x p,e=.Name x p:=Expr.Name.elim (motive_1:=fun e=>∃ x p,e=.Name x p) e h fun x p=>⟨x,p,rfl⟩
theorem DV {e:Expr} (h:e.ctorIdx=25):∃ es k p,e=.Tuple es k p:=Expr.Tuple.elim (motive_1:=fun e=>∃ es k p,e=.Tuple es k p) e h fun es k p=>⟨es,k,p,rfl⟩
theorem Ad {e:Expr} (h:e.ctorIdx=20):∃ o n p,e=.Attribute o n p:=Expr.Attribute.elim (motive_1:=fun e=>∃ o n p,e=.Attribute o n p) e h fun o n p=>⟨o,n,p,rfl⟩
theorem DS {e:Expr} (h:e.ctorIdx=21):∃ o i p,e=.Subscript o i p:=Expr.Subscript.elim (motive_1:=fun e=>∃ o i p,e=.Subscript o i p) e h fun o i p=>⟨o,i,p,rfl⟩
theorem CD {e:Expr} (h:e.ctorIdx=16):∃ f a ks p,e=.Call f a ks p:=Expr.Call.elim (motive_1:=fun e=>∃ f a ks p,e=.Call f a ks p) e h fun f a ks p=>⟨f,a,ks,p,rfl⟩
noncomputable def noT {α:Type}:Tr α:=fun _ _ _=>False
noncomputable abbrev PH (α:Type):=List O->(α->List O->Prop)->(V->List O->Prop)->Prop
noncomputable def Tr.pure {α:Type} (a:α):Tr α:=fun σ Q _=>Q a σ
noncomputable def Tr.bind {α β:Type} (a:Tr α) (g:α->Tr β):Tr β:=fun σ Q X=>a σ (fun b σ'=>g b σ' Q X) X
noncomputable def lf {α:Type} (Q:α->St->Prop) (m:Str->Option V):α->List O->Prop:=fun v H=>Q v ⟨H,m⟩
noncomputable def Tr.lift {α:Type} (p:PH α):Tr α:=fun σ Q X=>p σ.H (lf Q σ.m) (lf X σ.m)
inductive Fl where
 | next | brk | cont
 | ret (v:V)
inductive Item where
 | one (v:V)
 | pair (a b:V)
structure Fn where
 params:List Str
 vararg:Option Str
 defaults:List V
 body:List Stmt
 scope:Scope
structure Cfg where
 glob:Str->Option V
 meth:Addr->Str->Option Addr
 init:Addr->Option Addr
 slots:Addr->Option (Option (List Str))
 attr:Addr->Str->Bool
 exc:V->Bool
 sub:V->V->Bool
 call:Addr->List V->PH V
 ok:Prop
 sets:Prop
 xe:Expr->Scope->List Str->Tr V
mutual
noncomputable def Rd (H:List O):PyData->V->Prop
 | .none,v=>v=.none
 | .bool b,v=>v=.bool b
 | .int i,v=>v=.int i
 | .str s,v=>v=.str s
 | .list ds,v=>∃ i xs,v=.ref i/\H[i]?=some (.list xs)/\Rds H ds xs
 | .tuple ds,v=>∃ i xs,v=.ref i/\H[i]?=some (.tuple xs)/\Rds H ds xs
 | .dict _,_=>False
noncomputable def Rds (H:List O):List PyData->List V->Prop
 | [],xs=>xs=[]
 | d::ds,xs=>∃ x r,xs=x::r/\Rd H d x/\Rds H ds r
end
noncomputable def pB {α:Type} (v:V) (d:α) (k:Nat->α):α:=match v with
 | .ref i=>k i
 | _=>d
noncomputable def intD {α:Type} (v:V) (d:α) (k:Int->α):α:=match v with
 | .int i=>k i
 | _=>d
noncomputable def Cg (o:O):Option Bool:=match o with
 | .list xs=>some (!xs.isEmpty)
 | .tuple xs=>some (!xs.isEmpty)
 | _=>none
noncomputable def gJ (H:List O) (v:V):Option Bool:=match v with
 | .none=>some false
 | .bool b=>some b
 | .int i=>some (i != 0)
 | .ref i=>H[i]?.bind Cg
 | _=>none
noncomputable def mV (o:O):PH V:=fun H Q _=>Q (.ref H.length) (H++[o])
noncomputable def newList (xs:List V):PH V:=fun H Q X=>xs.length<=big/\mV (.list xs) H Q X
noncomputable def newTuple (xs:List V):PH V:=fun H Q X=>xs.length<=big/\mV (.tuple xs) H Q X
noncomputable def sR (xs:List Int):PH V:=fun H Q X=>xs.length<=1000/\mV (.set xs) H Q X
noncomputable def binI (op:Operator) (i j:Int):PH V:=fun H Q X=>match op with
 | .Add=>Q (.int (i+j)) H
 | .Sub=>Q (.int (i - j)) H
 | .FloorDiv=>0 < j/\j < 2 ^ 30/\Q (.int (i / j)) H
 | .Mod=>0 < j/\j < 2 ^ 30/\Q (.int (i % j)) H
 | _=>False
noncomputable def Ag (op:Operator) (i:Nat) (k:Int):PH V:=fun H Q X=>match op with
 | .Mult=>∃ xs,H[i]?=some (.list xs)/\0<=k/\k<=100/\newList (List.replicate k.toNat xs).flatten H Q X
 | _=>False
noncomputable def Ah (op:Operator) (i j:Nat):PH V:=fun H Q X=>match op with
 | .Add=>∃ xs ys,H[i]?=some (.list xs)/\H[j]?=some (.list ys)/\newList (xs++ys) H Q X
 | .BitOr=>∃ xs ys,H[i]?=some (.set xs)/\H[j]?=some (.set ys)/\(∀ x∈xs++ys,0<=x/\x < 1000)/\xs.length+ys.length<=12/\sR (xs++ys.filter fun y=>y∉xs) H Q X
 | _=>False
noncomputable def noP:PH V:=fun _ _ _=>False
noncomputable def jT (op:Operator) (a b:V):PH V:=match a with
 | .int i=>match b with | .int j=>binI op i j | _=>noP
 | .ref i=>match b with | .int k=>Ag op i k | .ref j=>Ah op i j | _=>noP
 | _=>noP
noncomputable def dF (es:List (Int × V)) (k:Int):Option V:=(es.find? fun e=>e.1=k).map (·.2)
noncomputable def lE (es:List (Int × V)) (k:Int) (v:V):List (Int × V):=if es.any (fun e=>e.1=k) then es.map fun e=>if e.1=k then (e.1,v) else e else es++[(k,v)]
noncomputable def xU (es:List (Int × V)) (k:Int):List (Int × V):=es.filter fun e=>e.1 != k
noncomputable def inO (H:List O) (a:V) (r:Bool) (o:O):Prop:=match o with
 | .list xs=>∃ d ds,Rd H d a/\Rds H ds xs/\SeqAt.shaped d=true/\SeqAt.shaped (.list ds)=true/\r=ds.any (fun y=>PyData.eqv y d)
 | .set ks=>∃ k,a=.int k/\r=decide (k∈ks)
 | .dict es _=>∃ k,a=.int k/\r=(dF es k).isSome
 | _=>False
noncomputable def inV (H:List O) (a b:V) (r:Bool):Prop:=pB b False fun i=>H[i]?.elim False (inO H a r)
noncomputable def eqV (H:List O) (a b:V) (r:Bool):Prop:=∃ da db,Rd H da a/\Rd H db b/\SeqAt.shaped da=true/\SeqAt.shaped db=true/\r=PyData.eqv da db
noncomputable def f9 (op:CmpOp) (a b:V):PH Bool:=fun H Q _=>match op with
 | .Is=>b=.none/\Q (decide (a=.none)) H
 | .IsNot=>b=.none/\Q (decide (a≠.none)) H
 | .Lt=>∃ i j,a=.int i/\b=.int j/\Q (decide (i < j)) H
 | .LtE=>∃ i j,a=.int i/\b=.int j/\Q (decide (i<=j)) H
 | .Gt=>∃ i j,a=.int i/\b=.int j/\Q (decide (i > j)) H
 | .GtE=>∃ i j,a=.int i/\b=.int j/\Q (decide (i ≥ j)) H
 | .Eq=>∃ r,eqV H a b r/\Q r H
 | .NotEq=>∃ r,eqV H a b r/\Q (!r) H
 | .In=>∃ r,inV H a b r/\Q r H
 | .NotIn=>∃ r,inV H a b r/\Q (!r) H
noncomputable def place (n:Nat) (i:Int):Option Nat:=if 0<=i then (if i < n then some i.toNat else none) else (if 0<=i+n then some (i+n).toNat else none)
noncomputable def giO (k:Int) (Q:V->List O->Prop) (H:List O) (o:O):Prop:=match o with
 | .list xs=>∃ j v,place xs.length k=some j/\xs[j]?=some v/\-(2 ^ 62)<=k/\k < 2 ^ 62/\Q v H
 | .dict es _=>∃ v,dF es k=some v/\Q v H
 | _=>False
noncomputable def siO (a:Nat) (k:Int) (v:V) (Q:Unit->List O->Prop) (H:List O) (o:O):Prop:=match o with
 | .dict es n=>es.length<=big/\∀ n',Q () (H.set a (.dict (lE es k v) n'))
 | .list xs=>0<=k/\k < xs.length/\Q () (H.set a (.list (xs.set k.toNat v)))
 | _=>False
noncomputable def diO (a:Nat) (k:Int) (Q:Unit->List O->Prop) (H:List O) (o:O):Prop:=match o with
 | .list xs=>∃ j,place xs.length k=some j/\-(2 ^ 62)<=k/\k < 2 ^ 62/\Q () (H.set a (.list (xs.eraseIdx j)))
 | .dict es n=>es.length<=big/\(dF es k).isSome=true/\∀ n',Q () (H.set a (.dict (xU es k) n'))
 | _=>False
noncomputable def ba (o i:V):PH V:=fun H Q _=>pB o False fun a=>intD i False fun k=>H[a]?.elim False (giO k Q H)
noncomputable def bS (o i v:V):PH Unit:=fun H Q _=>pB o False fun a=>intD i False fun k=>0 < a/\H[a]?.elim False (siO a k v Q H)
noncomputable def dq (o i:V):PH Unit:=fun H Q _=>pB o False fun a=>intD i False fun k=>0 < a/\H[a]?.elim False (diO a k Q H)
noncomputable def clip (n:Nat) (i:Int):Nat:=(max 0 (min (if i < 0 then i+n else i) n)).toNat
noncomputable def sliceOf (xs:List V) (lo hi:Option Int):List V:=
 let l:=lo.elim 0 (clip xs.length)
 let h:=hi.elim xs.length (clip xs.length)
 (xs.drop l).take (h - l)
noncomputable def l0:V->Option (Option Int)
 | .none=>some none
 | .int k=>some (some k)
 | _=>none
noncomputable def pK (o lo hi:V):PH V:=fun H Q X=>∃ i xs l h,o=.ref i/\(H[i]?=some (.list xs)\/H[i]?=some (.frozen xs))/\xs.length<=big/\l0 lo=some l/\l0 hi=some h /\
 (∀ k,l=some k->-(2 ^ 62)<=k/\k < 2 ^ 62)/\(∀ k,h=some k->-(2 ^ 62)<=k/\k < 2 ^ 62)/\newList (sliceOf xs l h) H Q X
noncomputable def BA:V->Bool
 | .bi _=>false
 | _=>true
noncomputable def cV (C:Cfg) (o:V) (name:Str):PH V:=fun H Q X=>∃ i,o=.ref i/\match H[i]? with
 | some (.inst c fs)=>∃ v,C.attr c name=true/\fs name=some v/\BA v=true/\Q v H
 | some (.liter _ _)=>name=Str.ofString "__next__" /\ mV (.nextof i) H Q X
 | _=>False
noncomputable def bZ (C:Cfg) (o:V) (name:Str) (v:V):PH Unit:=fun H Q _=>∃ i c fs,o=.ref i/\0 < i/\H[i]?=some (.inst c fs)/\C.attr c name=true/\Q () (H.set i (.inst c fun x=>if x=name then some v else fs x))
inductive Src where
 | one (v:V)
 | enum (v:V)
 | zip (a b:V)
noncomputable def pY (o:O):Option Nat:=match o with
 | .dvals d=>some d
 | _=>none
noncomputable def lU (o:O):Option (List V):=match o with
 | .list xs=>some xs
 | _=>none
noncomputable def ve (o:O):Option (List Item):=match o with
 | .dict es _=>some (es.map fun e=>.one e.2)
 | _=>none
noncomputable def lO (H:List O) (o:O):Option (List Item):=match o with
 | .list xs=>some (xs.map .one)
 | .tuple xs=>some (xs.map .one)
 | .dict es _=>some (es.map fun e=>.one (.int e.1))
 | .dvals d=>H[d]?.bind ve
 | .range a b=>some ((List.range (b - a).toNat).map fun (k:Nat)=>.one (.int (a+k)))
 | _=>none
noncomputable def DR (H:List O) (s:Src):List Nat:=match s with
 | .one v=>pB v [] fun i=>i::(H[i]?.bind pY).toList
 | .enum v=>pB v [] fun i=>[i]
 | .zip v w=>pB v [] fun i=>pB w [] fun j=>[i,j]
noncomputable def aY (H:List O) (s:Src):Option (List Item):=match s with
 | .one v=>pB v none fun i=>H[i]?.bind (lO H)
 | .enum v=>pB v none fun i=>(H[i]?.bind lU).map fun xs=>xs.zipIdx.map fun e=>.pair (.int e.2) e.1
 | .zip v w=>pB v none fun i=>pB w none fun j=>(H[i]?.bind lU).bind fun xs=>(H[j]?.bind lU).map fun ys=>(xs.zip ys).map fun e=>.pair e.1 e.2
theorem kD {o:Option O} {xs:List V} (h:o.bind lU=some xs):o=some (.list xs):=by
 induction o with
 | none=>exact nS h
 | some o=>induction o<;>first | exact nS h | (cases h;rfl)
noncomputable def kZ (Fo:List O) (v:Src) (H:List O):Prop:=∀ j∈DR Fo v,H[j]?=Fo[j]?
noncomputable def ou (o:O):Option (List V):=match o with
 | .list xs=>some xs
 | .tuple xs=>some xs
 | _=>none
noncomputable def er (H:List O) (v:V):Option (List V):=pB v none fun i=>H[i]?.bind ou
noncomputable def intsOf:List V->Option (List Int)
 | []=>some []
 | .int i::r=>(intsOf r).map (i::·)
 | _::_=>none
noncomputable def zX (o:O):Option Nat:=match o with
 | .list xs=>some xs.length
 | .tuple xs=>some xs.length
 | .dict es _=>some es.length
 | _=>none
noncomputable def DC (H:List O) (v:V):Option Nat:=pB v none fun i=>H[i]?.bind zX
noncomputable def a0 (args:List V) (P:Prop):Prop:=match args with
 | []=>P
 | _=>False
noncomputable def a1 (args:List V) (k:V->Prop):Prop:=match args with
 | [v]=>k v
 | _=>False
noncomputable def a12 (args:List V) (k1:V->Prop) (k2:V->V->Prop):Prop:=match args with
 | [v]=>k1 v
 | [v,w]=>k2 v w
 | _=>False
noncomputable def rV (v:V) (k:Nat->Prop):Prop:=match v with
 | .ref i=>k i
 | _=>False
noncomputable def iV (v:V) (k:Int->Prop):Prop:=match v with
 | .int i=>k i
 | _=>False
theorem Cy {args:List V} {P:Prop} (h:a0 args P):args=[]/\P:=by
 induction args using lT with
 | nil=>exact⟨rfl,h⟩
 | cons=>exact h.elim
theorem qX {args:List V} {k:V->Prop} (h:a1 args k):∃ v,args=[v]/\k v:=by
 induction args using lT with
 | nil=>exact h.elim
 | cons v r=>induction r using lT with
  | nil=>exact⟨v,rfl,h⟩
  | cons=>exact h.elim
theorem z3 {args:List V} {k1:V->Prop} {k2:V->V->Prop} (h:a12 args k1 k2):(∃ v,args=[v]/\k1 v)\/∃ v w,args=[v,w]/\k2 v w:=by
 induction args using lT with
 | nil=>exact h.elim
 | cons v r=>induction r using lT with
  | nil=>exact .inl ⟨v,rfl,h⟩
  | cons w r=>induction r using lT with
   | nil=>exact .inr ⟨v,w,rfl,h⟩
   | cons=>exact h.elim
theorem zd {v:V} {k:Nat->Prop} (h:rV v k):∃ i,v=.ref i/\k i:=by induction v<;>first | exact⟨_,rfl,h⟩ | exact h.elim
theorem ya {v:V} {k:Int->Prop} (h:iV v k):∃ i,v=.int i/\k i:=by induction v<;>first | exact⟨_,rfl,h⟩ | exact h.elim
noncomputable def xq (args:List V):PH V:=fun H Q X=>a1 args fun v=>∃ xs,er H v=some xs/\newList xs H Q X
noncomputable def tZ (args:List V):PH V:=fun H Q X=>a1 args fun v=>rV v fun i=>∃ xs,H[i]?=some (.list xs)/\newTuple xs H Q X
noncomputable def Ck (args:List V):PH V:=fun H Q X=>a0 args (sR [] H Q X)
noncomputable def tY (args:List V):PH V:=fun H Q X=>a12 args (fun v=>iV v fun k=>small k/\mV (.range 0 k) H Q X) fun v w=>iV v fun j=>iV w fun k=>small j/\small k/\mV (.range j k) H Q X
noncomputable def Cm (args:List V):PH V:=fun H Q X=>a1 args fun v=>rV v fun i=>∃ s,H[i]?=some (.exc (.ty "RuntimeError") [.str s])/\Q (.str s) H
noncomputable def ee (n:String) (args:List V):PH V:=if n = "list" then xq args else if n = "tuple" then tZ args else if n = "set" then Ck args else if n = "range" then tY args else if n = "str" then Cm args else fun _ _ _=>False
noncomputable def Af (args:List V):PH V:=fun H Q X=>a1 args fun v=>∃ k,DC H v=some k/\k<=big/\Q (.int k) H
noncomputable def wQ (args:List V):PH V:=fun H Q X=>a1 args fun v=>rV v fun i=>(∃ xs,H[i]?=some (.list xs))/\mV (.liter i 0) H Q X
noncomputable def jr (ok:Prop) (n:String) (args:List V):PH V:=if n = "len" then Af args else if n = "iter" then wQ args else fun _ _ _=>False
noncomputable def gW (C:Cfg) (i:Nat):PH V:=fun H Q X=>∃ it l k xs,H[i]?=some (.nextof it)/\0 < it/\H[it]?=some (.liter l k)/\H[l]?=some (.list xs)/\xs.length<=big/\match xs[k]? with
 | some v=>Q v (H.set it (.liter l (k+1)))
 | none=>C.ok/\X (.ref H.length) (H.set it .dead++[.exc (.ty "StopIteration") []])
noncomputable def iw (C:Cfg) (f:V) (args:List V):PH V:=fun H Q X=>match f with
 | .ty n=>ee n args H Q X
 | .bi n=>jr C.ok n args H Q X
 | .ref i=>args=[]/\gW C i H Q X
 | .glob a=>C.call a args H Q X
 | _=>False
noncomputable def bf (i:Nat) (xs:List V) (name:Str) (args:List V):PH V:=fun H Q X =>
 0 < i/\xs.length < big/\(
 (name=Str.ofString "append" /\ ∃ v,args=[v]/\Q .none (H.set i (.list (xs++[v])))) \/
 (name=Str.ofString "pop" /\ args=[]/\∃ v,xs.getLast?=some v/\Q v (H.set i (.list xs.dropLast))) \/
 (name=Str.ofString "clear" /\ args=[]/\Q .none (H.set i (.list []))) \/
 (name=Str.ofString "pop" /\ ∃ k j v,args=[.int k]/\place xs.length k=some j/\-(2 ^ 62)<=k/\k < 2 ^ 62/\xs[j]?=some v/\Q v (H.set i (.list (xs.eraseIdx j)))) \/
 (name=Str.ofString "sort" /\ args=[]/\∃ ks,intsOf xs=some ks/\ks.length < 64/\∀ ks':List Int,ks'.Perm ks->ks'.Pairwise (·<=·)->Q .none (H.set i (.list (ks'.map .int)))))
noncomputable def bX (i:Nat) (es:List (Int × V)) (name:Str) (args:List V):PH V:=fun H Q X =>
 (name=Str.ofString "get" /\ ∃ k,args=[.int k]/\Q ((dF es k).getD .none) H) \/
 (name=Str.ofString "values" /\ args=[]/\mV (.dvals i) H Q X)
noncomputable def fS (i:Nat) (ks:List Int) (name:Str) (args:List V):PH V:=fun H Q _ =>
 name=Str.ofString "add" /\ 0 < i/\ks.length < 1000/\∃ k,args=[.int k]/\Q .none (H.set i (.set (if k∈ks then ks else k::ks)))
noncomputable def dE (n:Str):Option String:=
 if n=Str.ofString "append" then some "list.append" else
 if n=Str.ofString "pop" then some "list.pop" else if n=Str.ofString "clear" then some "list.clear" else
 if n=Str.ofString "sort" then some "list.sort" else none
noncomputable def fg (n:Str):Option String:=if n=Str.ofString "get" then some "dict.get" else if n=Str.ofString "values" then some "dict.values" else none
noncomputable def mC (n:Str):Option String:=if n=Str.ofString "add" then some "set.add" else none
inductive Callee where
 | list | dict | set
 | fn (f:Addr)
noncomputable def jW (C:Cfg) (few:Bool) (H:List O) (o:V) (name:Str):Option Callee:=match o with
 | .ref i=>(match H[i]? with
  | some (.list _)=>if few then (dE name).map fun _=>.list else none
  | some (.dict _ _)=>if few then (fg name).map fun _=>.dict else none
  | some (.set _)=>if few then (mC name).map fun _=>.set else none
  | some (.inst c _)=>(C.meth c name).map .fn
  | _=>none)
 | _=>none
noncomputable def eB (C:Cfg) (few:Bool) (o:V) (name:Str):Tr Callee:=fun σ Q _=>∃ c,jW C few σ.H o name=some c/\Q c σ
noncomputable def methP (C:Cfg) (c:Callee) (o:V) (name:Str) (args:List V):PH V:=fun H Q X=>match c with
 | .list=>∃ i xs,o=.ref i/\H[i]?=some (.list xs)/\bf i xs name args H Q X
 | .dict=>∃ i es n,o=.ref i/\H[i]?=some (.dict es n)/\bX i es name args H Q X
 | .set=>∃ i ks,o=.ref i/\H[i]?=some (.set ks)/\fS i ks name args H Q X
 | .fn f=>C.call f (o::args) H Q X
noncomputable def bH (C:Cfg) (sc:Scope) (x:Str):Tr V:=fun σ Q _=>match sc.names.lookup x with
 | some .local | some .cell | some .free=>∃ v,σ.m x=some v/\Q v σ
 | some .globalImplicit=>∃ v,C.glob x=some v/\Q v σ
 | _=>False
noncomputable def bI (sc:Scope) (ro:List Str) (x:Str) (v:V):Tr Unit:=fun σ Q _=>x∉ro/\(sc.names.lookup x=some .local\/sc.names.lookup x=some .cell)/\Q () (σ.put x v)
noncomputable def namesOf:List Expr->Option (List Str)
 | []=>some []
 | e::r=>nameV e none fun x=>(namesOf r).map (x::·)
noncomputable def storeAll (sc:Scope) (ro:List Str):List Str->List V->Tr Unit
 | [],[]=>Tr.pure ()
 | x::xs,v::vs=>(bI sc ro x v).bind fun _=>storeAll sc ro xs vs
 | _,_=>fun _ _ _=>False
noncomputable def cy (C:Cfg) (sc:Scope) (ro:List Str) (t:Expr) (it:Item):Tr Unit:=match it with
 | .one v=>nameV t (zN t noT fun es=>fun σ Q X=>C.ok/\∃ ns vs,namesOf es=some ns/\er σ.H v=some vs/\ns.length<=8/\storeAll sc ro ns vs σ Q X) fun x=>bI sc ro x v
 | .pair a b=>zN t noT fun es=>fun σ Q X=>C.ok/\∃ x y,namesOf es=some [x,y]/\storeAll sc ro [x,y] [a,b] σ Q X
noncomputable def mU (asg:Item->Tr Unit) (body orelse:Tr Fl) (Fo:List O) (v:Src):List Item->Tr Fl
 | []=>fun σ Q X=>kZ Fo v σ.H/\orelse σ Q X
 | x::xs=>fun σ Q X=>kZ Fo v σ.H/\asg x σ (fun _ Fq=>body Fq (fun f Fj=>match f with
  | .next | .cont=>mU asg body orelse Fo v xs Fj Q X
  | .brk=>Q .next Fj
  | .ret r=>Q (.ret r) Fj) X) X
noncomputable def pP (test:Tr Bool) (body orelse:Tr Fl):Tr Fl:=fun σ Q X=>∃ I:Nat->St->Prop,(∃ n,I n σ)/\∀ n σ',I n σ' ->
 test σ' (fun b Fq=>if b then body Fq (fun f Fj=>match f with
  | .next | .cont=>∃ k,k < n/\I k Fj
  | .brk=>Q .next Fj
  | .ret r=>Q (.ret r) Fj) X else orelse Fq Q X) X
noncomputable def dj (asg:Item->Tr Unit) (ifs:Tr Bool) (inner:Tr Unit) (Fo:List O) (v:Src):List Item->Tr Unit
 | []=>fun σ Q _=>kZ Fo v σ.H/\Q () σ
 | x::xs=>fun σ Q X=>kZ Fo v σ.H/\asg x σ (fun _ Fq=>ifs Fq (fun b Fj=>if b then inner Fj (fun _ FF=>dj asg ifs inner Fo v xs FF Q X) X else dj asg ifs inner Fo v xs Fj Q X) X) X
noncomputable def freeNames (sc:Scope):List Str:=(sc.names.filter fun p=>p.2 == .free).map (·.1)
noncomputable def az (outer inner:Scope):Scope:={ inner with names:=inner.names.map fun (n,k)=>if k == .free && outer.kind == .function && outer.names.lookup n == some .cell then (n,.cell) else (n,k) }
noncomputable def aS (inner:Scope) (m:Str->Option V):Str->Option V:=fun x=>if x∈freeNames inner then m x else none
noncomputable def fE (x:Str):Bool:=!(x == Str.ofString "__classdict__") && !(x == Str.ofString "__debug__")
noncomputable def cH (outer inner:Scope):Bool:=inner.kind == .function && inner.names.all (fun p=>inner.names.lookup p.1 == some p.2) && (freeNames inner).all (fun x=>outer.names.lookup x == some .cell || outer.names.lookup x == some .free) && inner.names.all (fun p=>fE p.1)
noncomputable def ql (l:Nat) (v:V):PH Unit:=fun H Q _=>∃ xs,H[l]?=some (.list xs)/\xs.length < big/\Q () (H.set l (.list (xs++[v])))
noncomputable def zY (l:Nat) (k v:V):PH Unit:=fun H Q _=>∃ es n i,H[l]?=some (.dict es n)/\k=.int i/\es.length<=big/\∀ n',Q () (H.set l (.dict (lE es i v) n'))
noncomputable def isStar (e:Expr):Bool:=Nat.beq e.ctorIdx 22
noncomputable def baseOk (e:Expr):Bool:=uD e true fun f a ks=>!(a.isEmpty && (ks.isEmpty && Nat.beq f.ctorIdx 23))
noncomputable def c8 (args:List Expr):Bool:=args.all (fun e=>!isStar e) && decide (args.length < 30)
noncomputable def om (C:Cfg) (v:V):Tr (List V):=fun σ Q _=>∃ vs,er σ.H v=some vs/\C.ok/\vs.length<=big/\Q vs σ
noncomputable def DQ (t:Tr V):Tr V:=fun σ Q X=>t ⟨σ.H++[.set []],σ.m⟩ (fun v σ1=>∃ k,v=.int k/\σ1.H[σ.H.length]?=some (.set [])/\Q (.ref σ.H.length) ⟨σ1.H.set σ.H.length (.set [k]),σ1.m⟩) X
noncomputable def D8 {α:Sort u} (e:Expr) (d:α) (k:Int->α):α:=if h:Nat.beq e.ctorIdx 19=true then Expr.Constant.elim (motive_1:=fun _=>α) e (Nat.eq_of_beq_eq_true h) fun c _ _=>(match c with | .int i=>k i | _=>d) else d
theorem Eu {α:Sort u} {e:Expr} {d:α} {k:Int->α} (h:¬ e.ctorIdx=19):D8 e d k=d:=dif_neg fun b=>h (Nat.eq_of_beq_eq_true b)
theorem zJ {e:Expr} (h:isStar e=true):∃ x p,e=.Starred x p:=Expr.Starred.elim (motive_1:=fun e=>∃ x p,e=.Starred x p) e (Nat.eq_of_beq_eq_true h) fun x p=>⟨x,p,rfl⟩
theorem Am {e:Expr} (h:e.ctorIdx=19):∃ c k p,e=.Constant c k p:=Expr.Constant.elim (motive_1:=fun e=>∃ c k p,e=.Constant c k p) e h fun c k p=>⟨c,k,p,rfl⟩
mutual
noncomputable def awE (C:Cfg):Expr->Scope->List Str->Tr V
 | .Constant c _ _,_,_=>fun σ Q _=>match c with
  | .none=>Q .none σ
  | .bool b=>Q (.bool b) σ
  | .int i=>Q (.int i) σ
  | .str s=>Q (.str s) σ
  | _=>False
 | .Name x _,sc,_=>bH C sc x
 | .NamedExpr t v _,sc,ro=>nameV t noT fun x=>(awE C v sc ro).bind fun a=>(bI sc ro x a).bind fun _=>Tr.pure a
 | .BinOp l op r _,sc,ro=>fun σ Q X=>(op=.BitOr->C.sets)/\((awE C l sc ro).bind fun a=>(awE C r sc ro).bind fun b=>Tr.lift (jT op a b)) σ Q X
 | .UnaryOp op x _,sc,ro=>match op with
  | .USub=>D8 x noT fun i=>Tr.pure (.int (-i))
  | .Not=>(awE C x sc ro).bind fun a=>fun σ Q _=>∃ b,gJ σ.H a=some b/\Q (.bool !b) σ
  | _=>noT
 | .Compare l [op] [r] _,sc,ro=>fun σ Q X=>behindInMarks op r=false/\((awE C l sc ro).bind fun a=>(awE C r sc ro).bind fun b=>(Tr.lift (f9 op a b)).bind fun r=>Tr.pure (.bool r)) σ Q X
 | .BoolOp ..,_,_=>fun _ _ _=>False
 | .Call (.Attribute o name apos) args [] pos,sc,ro=>fun σ Q X=>(baseOk o=true/\(apos.endLine == pos.line)=true)/\((awE C o sc ro).bind fun ov=>(eB C (c8 args) ov name).bind fun c=>(aI C args sc ro).bind fun vs=>Tr.lift (methP C c ov name vs)) σ Q X
 | .Call f args [] _,sc,ro=>(awE C f sc ro).bind fun fv=>(aI C args sc ro).bind fun vs=>Tr.lift (iw C fv vs)
 | .Attribute o name _,sc,ro=>fun σ Q X=>baseOk o=true/\((awE C o sc ro).bind fun ov=>Tr.lift (cV C ov name)) σ Q X
 | .Subscript o (.Slice lo hi st _) _,sc,ro=>match st with
  | none=>(awE C o sc ro).bind fun ov=>(awO C lo sc ro).bind fun l=>(awO C hi sc ro).bind fun h=>Tr.lift (pK ov l h)
  | some s=>fun _ _ _=>False
 | .Subscript o i _,sc,ro=>(awE C o sc ro).bind fun ov=>(awE C i sc ro).bind fun iv=>Tr.lift (ba ov iv)
 | .List es _,sc,ro=>(mY C es sc ro).bind fun vs=>Tr.lift (newList vs)
 | .Tuple es _ _,sc,ro=>(mY C es sc ro).bind fun vs=>Tr.lift (newTuple vs)
 | .Dict [] [] _,_,_=>Tr.lift (mV (.dict [] 0))
 | .Set [e] k _,sc,ro=>fun σ Q X=>(isStar e=false/\k=0/\C.sets)/\DQ (awE C e sc ro) σ Q X
 | .JoinedStr vs _,sc,ro=>fun σ Q X=>vs.length<=20/\((bJ C vs sc ro).bind fun _=>fun σ Q _=>∀ s:Str,s.length<=10000->Q (.str s) σ) σ Q X
 | .ListComp elt (⟨t,it,ifs,a⟩::gs) inner _,sc,ro=>fun σ Q X=>(a=0/\C.ok/\cH sc inner=true)/\((bw C it (awE C it sc ro) sc ro).bind fun v=>fun σ Q X=>∃ items,aY σ.H v=some items /\
   dj (cy C (az sc inner) (freeNames inner) t) (eZ C ifs (az sc inner) (freeNames inner))
    (bu C gs (az sc inner) (freeNames inner) ((awE C elt (az sc inner) (freeNames inner)).bind fun x=>Tr.lift (ql σ.H.length x)))
    σ.H v items ⟨σ.H++[.list []],aS inner σ.m⟩ (fun _ σ'=>Q (.ref σ.H.length) ⟨σ'.H,σ.m⟩) (fun _ _=>False)) σ Q X
 | .DictComp key val (⟨t,it,ifs,a⟩::gs) inner _,sc,ro=>fun σ Q X=>(a=0/\C.ok/\cH sc inner=true)/\((bw C it (awE C it sc ro) sc ro).bind fun v=>fun σ Q X=>∃ items,aY σ.H v=some items /\
   dj (cy C (az sc inner) (freeNames inner) t) (eZ C ifs (az sc inner) (freeNames inner))
    (bu C gs (az sc inner) (freeNames inner) ((awE C key (az sc inner) (freeNames inner)).bind fun k=>(awE C val (az sc inner) (freeNames inner)).bind fun x=>Tr.lift (zY σ.H.length k x)))
    σ.H v items ⟨σ.H++[.dict [] 0],aS inner σ.m⟩ (fun _ σ'=>Q (.ref σ.H.length) ⟨σ'.H,σ.m⟩) (fun _ _=>False)) σ Q X
 | e,sc,ro=>C.xe e sc ro
noncomputable def bw (C:Cfg):Expr->Tr V->Scope->List Str->Tr Src
 | .Call (.Name x _) args [] _,whole,sc,ro=>if x=Str.ofString "enumerate" then (bH C sc x).bind fun fv=>(aI C args sc ro).bind fun vs=>fun σ Q _=>fv=.ty "enumerate" /\ ∃ v,vs=[v]/\Q (.enum v) σ
   else if x=Str.ofString "zip" then (bH C sc x).bind fun fv=>(aI C args sc ro).bind fun vs=>fun σ Q _=>fv=.ty "zip" /\ ∃ v w,vs=[v,w]/\Q (.zip v w) σ
   else whole.bind fun v=>Tr.pure (.one v)
 | .Set ..,_,_,_=>fun _ _ _=>False
 | _,whole,_,_=>whole.bind fun v=>Tr.pure (.one v)
noncomputable def awO (C:Cfg):Option Expr->Scope->List Str->Tr V
 | none,_,_=>Tr.pure .none
 | some e,sc,ro=>awE C e sc ro
noncomputable def mY (C:Cfg):List Expr->Scope->List Str->Tr (List V)
 | [],_,_=>Tr.pure []
 | e::r,sc,ro=>if isStar e then fun _ _ _=>False else (awE C e sc ro).bind fun v=>(mY C r sc ro).bind fun vs=>Tr.pure (v::vs)
noncomputable def aI (C:Cfg):List Expr->Scope->List Str->Tr (List V)
 | [],_,_=>Tr.pure []
 | .Starred e _::r,sc,ro=>(awE C e sc ro).bind fun v=>(om C v).bind fun vs=>(aI C r sc ro).bind fun ws=>Tr.pure (vs++ws)
 | e::r,sc,ro=>(awE C e sc ro).bind fun v=>(aI C r sc ro).bind fun vs=>Tr.pure (v::vs)
noncomputable def awT (C:Cfg):Expr->Tr V->Scope->List Str->Tr Bool
 | .UnaryOp .Not x _,_,sc,ro=>(awT C x (awE C x sc ro) sc ro).bind fun b=>Tr.pure (!b)
 | .BoolOp op vs _,_,sc,ro=>xM C op vs sc ro
 | .Compare l [op] [r] _,_,sc,ro=>fun σ Q X=>behindInMarks op r=false/\((awE C l sc ro).bind fun a=>(awE C r sc ro).bind fun b=>Tr.lift (f9 op a b)) σ Q X
 | .IfExp ..,_,_,_=>fun _ _ _=>False
 | .Compare ..,_,_,_=>fun _ _ _=>False
 | _,whole,_,_=>whole.bind fun v=>fun σ Q _=>∃ b,gJ σ.H v=some b/\Q b σ
noncomputable def xM (C:Cfg):BoolOp->List Expr->Scope->List Str->Tr Bool
 | op,[],_,_=>Tr.pure (op == .And)
 | op,x::r,sc,ro=>(awT C x (awE C x sc ro) sc ro).bind fun b=>if b=(op == .Or) then Tr.pure b else xM C op r sc ro
noncomputable def eZ (C:Cfg):List Expr->Scope->List Str->Tr Bool
 | [],_,_=>Tr.pure true
 | x::r,sc,ro=>(awT C x (awE C x sc ro) sc ro).bind fun b=>if b then eZ C r sc ro else Tr.pure false
noncomputable def bJ (C:Cfg):List Expr->Scope->List Str->Tr Unit
 | [],_,_=>Tr.pure ()
 | .Constant (.str s) _ _::r,sc,ro=>fun σ Q X=>s.length<=100/\bJ C r sc ro σ Q X
 | .FormattedValue e cv none _::r,sc,ro=>(awE C e sc ro).bind fun v=>fun σ Q X=>cv=114/\(∃ k,v=.int k/\small k)/\bJ C r sc ro σ Q X
 | _::_,_,_=>fun _ _ _=>False
noncomputable def bu (C:Cfg):List Comprehension->Scope->List Str->Tr Unit->Tr Unit
 | [],_,_,leaf=>leaf
 | ⟨t,it,ifs,a⟩::gs,sc,ro,leaf=>fun σ Q X=>a=0/\((bw C it (awE C it sc ro) sc ro).bind fun v=>fun σ Q X=>∃ items,aY σ.H v=some items /\
   dj (cy C sc ro t) (eZ C ifs sc ro) (bu C gs sc ro leaf) σ.H v items σ Q X) σ Q X
end
noncomputable def noRaise (C:Cfg):Cfg:={ C with call:=fun _ _ _ _ _=>False,ok:=False,sets:=False,xe:=fun _ _ _ _ _ _=>False }
noncomputable def pV (op:Operator) (a b:V):Tr V:=fun σ Q X=>(op=.Add\/op=.Sub)/\∃ i j,a=.int i/\b=.int j/\Tr.lift (jT op a b) σ Q X
noncomputable def aF (e:Expr):Bool:=Nat.beq e.ctorIdx 26
theorem Cb {e:Expr} (h:aF e=true):∃ a b c p,e=.Slice a b c p:=Expr.Slice.elim (motive_1:=fun e=>∃ a b c p,e=.Slice a b c p) e (Nat.eq_of_beq_eq_true h) fun a b c p=>⟨a,b,c,p,rfl⟩
theorem lcE {e:Expr} (h:e.ctorIdx=8):∃ a b c p,e=.ListComp a b c p:=Expr.ListComp.elim (motive_1:=fun e=>∃ a b c p,e=.ListComp a b c p) e h fun a b c p=>⟨a,b,c,p,rfl⟩
theorem scE {e:Expr} (h:e.ctorIdx=9):∃ a b c p,e=.SetComp a b c p:=Expr.SetComp.elim (motive_1:=fun e=>∃ a b c p,e=.SetComp a b c p) e h fun a b c p=>⟨a,b,c,p,rfl⟩
theorem dcE {e:Expr} (h:e.ctorIdx=10):∃ a k b c p,e=.DictComp a k b c p:=Expr.DictComp.elim (motive_1:=fun e=>∃ a k b c p,e=.DictComp a k b c p) e h fun a k b c p=>⟨a,k,b,c,p,rfl⟩
noncomputable def awA (C:Cfg) (t:Expr) (v:V) (sc:Scope) (ro:List Str):Tr Unit:=
 nameV t (xJ t (Cq t (zN t noT fun es=>cy C sc ro (.Tuple es 0 ⟨0,0,0,0⟩) (.one v))
  fun o i=>if aF i then noT else (awE C o sc ro).bind fun ov=>(awE C i sc ro).bind fun iv=>Tr.lift (bS ov iv v))
  fun o name=>(awE C o sc ro).bind fun ov=>Tr.lift (bZ C ov name v)) fun x=>bI sc ro x v
noncomputable def jS (C:Cfg) (v:V) (sc:Scope) (ro:List Str):List Expr->Tr Unit
 | []=>Tr.pure ()
 | t::r=>(awA C t v sc ro).bind fun _=>jS C v sc ro r
noncomputable def c9 (e:Expr):Bool:=Nat.ble 8 e.ctorIdx && Nat.ble e.ctorIdx 10
noncomputable def aZ (e:Expr):Bool:=Nat.beq e.ctorIdx 25
noncomputable def nu (n:Option Str) (ro:List Str) (sc:Scope) (body:Tr Fl) (e:V) (σ:St) (Q:Fl->St->Prop):Prop:=match n with
 | none=>body σ Q (fun _ _=>False)
 | some x=>x∉ro/\sc.names.lookup x=some .local/\body (σ.put x e) (fun f FF=>Q f ⟨FF.H,fun y=>if y=x then none else FF.m y⟩) (fun _ _=>False)
mutual
noncomputable def awS (C:Cfg):Stmt->Scope->List Str->Tr Fl
 | .Expr e _,sc,ro=>if c9 e then fun _ _ _=>False else (awE C e sc ro).bind fun _=>Tr.pure .next
 | .Pass _,_,_=>Tr.pure .next
 | .Break _,_,_=>Tr.pure .brk
 | .Continue _,_,_=>Tr.pure .cont
 | .Return none _,_,_=>Tr.pure (.ret .none)
 | .Return (some e) _,sc,ro=>(awE C e sc ro).bind fun v=>Tr.pure (.ret v)
 | .Assign ts e _,sc,ro=>if aZ e || ts.any isStar then fun _ _ _=>False else (awE C e sc ro).bind fun v=>(jS C v sc ro ts).bind fun _=>Tr.pure .next
 | .AugAssign t op e _,sc,ro=>nameV t (xJ t (Cq t noT
   fun o i=>if aF i then noT else (awE C o sc ro).bind fun ov=>(awE C i sc ro).bind fun iv=>(Tr.lift (ba ov iv)).bind fun a=>(awE C e sc ro).bind fun b =>
    (pV op a b).bind fun r=>(Tr.lift (bS ov iv r)).bind fun _=>Tr.pure .next)
   fun o name=>(awE C o sc ro).bind fun ov=>(Tr.lift (cV C ov name)).bind fun a=>(awE C e sc ro).bind fun b =>
    (pV op a b).bind fun r=>(Tr.lift (bZ C ov name r)).bind fun _=>Tr.pure .next)
   fun x=>(bH C sc x).bind fun a=>(awE C e sc ro).bind fun b=>(pV op a b).bind fun r=>(bI sc ro x r).bind fun _=>Tr.pure .next
 | .Delete [t] _,sc,ro=>Cq t noT fun o i=>if aF i then noT else (awE C o sc ro).bind fun ov=>(awE C i sc ro).bind fun iv=>(Tr.lift (dq ov iv)).bind fun _=>Tr.pure .next
 | .If t b o _,sc,ro=>(awT C t (awE C t sc ro) sc ro).bind fun r=>if r then a7 C b sc ro else a7 C o sc ro
 | .While t b o _,sc,ro=>pP (awT C t (awE C t sc ro) sc ro) (a7 C b sc ro) (a7 C o sc ro)
 | .For t i b o _,sc,ro=>(bw C i (awE C i sc ro) sc ro).bind fun v=>fun σ Q X=>C.ok/\∃ items,aY σ.H v=some items/\mU (cy C sc ro t) (a7 C b sc ro) (a7 C o sc ro) σ.H v items σ Q X
 | .Raise (some e) none _,sc,ro=>uD e noT fun f args ks=>if !ks.isEmpty then noT else nameV f noT fun x=>(bH C sc x).bind fun c=>fun σ Q X=>(c8 args=true/\C.ok/\C.exc c=true)/\((aI C args sc ro).bind fun vs=>fun σ _ X=>vs.length<=10/\X (.ref σ.H.length) ⟨σ.H++[.exc c vs],σ.m⟩) σ Q X
 | .Try b [.ExceptHandler (some t) n hb _] [] [] _,sc,ro=>nameV t noT fun x=>fun σ Q X=>(C.ok/\hb.isEmpty=false)/\a7 C b sc ro σ Q (fun e Fq=>∃ i c vs tv,e=.ref i/\Fq.H[i]?=some (.exc c vs) /\
   bH C sc x Fq (fun v Fj=>v=tv/\Fj=Fq) (fun _ _=>False)/\C.sub c tv=true/\nu n ro sc (a7 (noRaise C) hb sc ro) e Fq Q)
 | _,_,_=>fun _ _ _=>False
noncomputable def a7 (C:Cfg):List Stmt->Scope->List Str->Tr Fl
 | [],_,_=>Tr.pure .next
 | s::r,sc,ro=>(awS C s sc ro).bind fun f=>match f with
  | .next=>a7 C r sc ro
  | f=>Tr.pure f
end
structure Prog where
 glob:Str->Option V
 meth:Addr->Str->Option Addr
 init:Addr->Option Addr
 slots:Addr->Option (Option (List Str))
 attr:Addr->Str->Bool
 exc:V->Bool
 sub:V->V->Bool
 fn:Addr->Option Fn
 sets:Prop
 xe:Expr->Scope->List Str->Tr V
noncomputable def jq (f:Fn) (args:List V) (H:List O) (k:(Str->Option V)->List O->Prop):Prop:=
 let n:=f.params.length
 let given:=args.take n
 let dflt:=f.defaults.drop (f.defaults.length - (n - given.length))
 given.length+f.defaults.length ≥ n /\
 let m:Str->Option V:=fun x=>(f.params.zip (given++dflt)).lookup x
 match f.vararg with
 | none=>args.length<=n/\k m H
 | some va=>(args.drop n).length<=big/\k (fun x=>if x=va then some (.ref H.length) else m x) (H++[.tuple (args.drop n)])
noncomputable def Prog.cfg (P:Prog) (call:Addr->List V->PH V) (ok:Prop):Cfg:=
 { glob:=P.glob,meth:=P.meth,init:=P.init,slots:=P.slots,attr:=P.attr,exc:=P.exc,sub:=P.sub,call,ok,sets:=P.sets,xe:=P.xe }
noncomputable def eN (C:Cfg) (f:Fn) (args:List V):PH V:=fun H Q X=>jq f args H fun m H' =>
 a7 C f.body f.scope [] ⟨H',m⟩ (fun fl σ=>Q (match fl with | .ret v=>v | _=>.none) σ.H) (fun e σ=>X e σ.H)
noncomputable def iu (P:Prog) (c:Addr->List V->PH V) (a:Addr) (args:List V):PH V:=fun H Q X=>match P.fn a with
  | some f=>eN (P.cfg (c) True) f args H Q X
  | none=>match P.slots a,P.init a with
   | some _,some ini=>(match P.fn ini with
    | some f=>eN (P.cfg (c) True) f (.ref H.length::args) (H++[.inst a fun _=>none]) (fun v H'=>v=.none/\Q (.ref H.length) H') X
    | none=>False)
   | _,_=>False
noncomputable def Prog.bP (P:Prog):Nat->Addr->List V->PH V
 | 0,_,_=>fun _ _ _=>False
 | d+1,a,args=>iu P (P.bP d) a args
end Mine
namespace Mine
open PySem
structure Ctx where
 B:Base
 fs:List Env
 A:Around
noncomputable abbrev Ctx.M (C:Ctx):Model:=model C.B.prog C.B.w
inductive QP {α β:Type} (C:Ctx) (f:Fm) (φ:List Addr) (own:Addr->Option Nat) (h:Heap) (R:List Addr->β->α->Prop) (Q:β->St->Prop) (v:α) (s':Shared):Prop
 | mk (φ':List Addr) (own':Addr->Option Nat) (σ':St) (b:β) (k:Kp f φ own h φ' own' s'.heap) (w:W C.B C.fs f φ' own' σ'.H σ'.m s') (r:R φ' b v) (q:Q b σ')
inductive EP (C:Ctx) (f:Fm) (φ:List Addr) (own:Addr->Option Nat) (h:Heap) (X:V->St->Prop) (e:Value) (s':Shared):Prop
 | mk (φ':List Addr) (own':Addr->Option Nat) (σ':St) (i:Nat) (a:Addr) (k:Kp f φ own h φ' own' s'.heap) (w:W C.B C.fs f φ' own' σ'.H σ'.m s') (e1:e=.ref a) (g:φ'[i]?=some a) (x:∃ c args,σ'.H[i]?=some (.exc c args)) (q:X (.ref i) σ')
noncomputable def Wp {α β:Type} (C:Ctx) (f:Fm) (φ:List Addr) (own:Addr->Option Nat) (s:Shared) (R:List Addr->β->α->Prop) (Q:β->St->Prop) (X:V->St->Prop) (t:Sem α):Prop:=
 wpAny C.M C.A t (QP C f φ own s.heap R Q) (EP C f φ own s.heap X) s
noncomputable def ae {α β:Type} (C:Ctx) (f:Fm) (φ₀:List Addr) (t:Sem α) (a:Tr β) (R:List Addr->β->α->Prop):Prop:=
 ∀ φ own σ Q X s,φ₀ <+: φ->W C.B C.fs f φ own σ.H σ.m s->a σ Q X->Wp C f φ own s R Q X t
section
variable {α β γ δ:Type} {C:Ctx} {f:Fm} {φ₀:List Addr}
theorem QP.after {φ φ':List Addr} {own own':Addr->Option Nat} {h h':Heap} {R:List Addr->β->α->Prop} {Q:β->St->Prop} (k:Kp f φ own h φ' own' h') {v:α} {s:Shared}
  (q:QP C f φ' own' h' R Q v s):QP C f φ own h R Q v s:=by
 obtain⟨φ2,own2,σ2,b,k2,w2,r,q2⟩:=q
 exact⟨φ2,own2,σ2,b,k.trans k2,w2,r,q2⟩
theorem EP.after {φ φ':List Addr} {own own':Addr->Option Nat} {h h':Heap} {X:V->St->Prop} (k:Kp f φ own h φ' own' h') {v:Value} {s:Shared}
  (q:EP C f φ' own' h' X v s):EP C f φ own h X v s:=by
 obtain⟨φ2,own2,σ2,i,a,k2,w2,e,g,x,q2⟩:=q
 exact⟨φ2,own2,σ2,i,a,k.trans k2,w2,e,g,x,q2⟩
theorem ae.weaken {FT:List Addr} (hp:φ₀ <+: FT) {t:Sem α} {a:Tr β} {R:List Addr->β->α->Prop} (h:ae C f φ₀ t a R):ae C f FT t a R:=
 fun φ own σ Q X s hp' w q=>h φ own σ Q X s (hp.trans hp') w q
theorem ae.bind {t:Sem α} {a:Tr β} {R:List Addr->β->α->Prop} {k:α->Sem γ} {g:β->Tr δ} {R':List Addr->δ->γ->Prop}
  (h:ae C f φ₀ t a R) (h2:∀ φ v b,φ₀ <+: φ->R φ b v->ae C f φ (k v) (g b) R'):ae C f φ₀ (t >>= k) (a.bind g) R':=by
 intro φ own σ Q X s hp w q
 refine wpAny_bind (wpAny_mono (h φ own σ _ X s hp w q) ?_ fun _ _ x=>x)
 rintro v s1 ⟨φ1,own1,σ1,b,k1,w1,r1,q1⟩
 exact wpAny_mono (h2 φ1 v b (hp.trans k1.pre) r1 φ1 own1 σ1 Q X s1 (GZ _) w1 q1) (fun _ _ x=>QP.after k1 x) fun _ _ x=>EP.after k1 x
theorem ae.bindL {t:Sem α} {k:α->Sem γ} {g:Tr δ} {R':List Addr->δ->γ->Prop} (v:α)
  (h:∀ (Q:α->Shared->Prop) E s,Q v s->wpAny C.M C.A t Q E s) (h2:ae C f φ₀ (k v) g R'):ae C f φ₀ (t >>= k) g R':=by
 intro φ own σ Q X s hp w q
 exact wpAny_bind (h _ _ s (h2 φ own σ Q X s hp w q))
theorem ae.at {pos:Pos} {k:Sem γ} {g:Tr δ} {R':List Addr->δ->γ->Prop} (h2:ae C f φ₀ k g R'):ae C f φ₀ (standAt pos >>= fun _=>k) g R':=
 ae.bindL () (fun _ _ _ q=>wpAny_standAt q) h2
theorem ae.holding {vs:List Value} {k:Sem γ} {g:Tr δ} {R':List Addr->δ->γ->Prop} (h2:ae C f φ₀ k g R'):ae C f φ₀ (holding vs k) g R':=
 fun φ own σ Q X s hp w q=>wpAny_holding (h2 φ own σ Q X s hp w q)
theorem ae.pure {v:γ} {b:δ} {R':List Addr->δ->γ->Prop} (h:∀ φ,φ₀ <+: φ->R' φ b v):ae C f φ₀ (Pure.pure v) (Tr.pure b) R':=
 fun φ own σ Q X s hp w q=>wpAny_pure ⟨φ,own,σ,b,Kp.refl ..,w,h φ hp,q⟩
theorem ae.operate {vs:List Value} {k:Sem Value} {g:Tr δ} {R':List Addr->δ->Value->Prop} (h2:ae C f φ₀ k g R'):ae C f φ₀ (operate vs k) g R':=
 fun φ own σ Q X s hp w q=>wpAny_operateT (h2 φ own σ Q X s hp w q)
end
section
variable {α β:Type} {C:Ctx} {f:Fm} {φ:List Addr} {own:Addr->Option Nat} {H:List O} {m:Str->Option V} {s:Shared} {R:List Addr->β->α->Prop} {Q:β->St->Prop} {v:α} {b:β}
theorem W.toks {B:Base} {fs:List Env} (w:W B fs f φ own H m s) (tk:Nat):W B fs f φ own H m { s with toks:=tk }:=
 w.quiet (h':=s.heap) ⟨w.stays,fun _ _ _ _ e=>e,fun _ o _ e=>e⟩ tk
theorem QP.same (w:W C.B C.fs f φ own H m s) (r:R φ b v) (q:Q b ⟨H,m⟩) (tk:Nat):QP C f φ own s.heap R Q v { s with toks:=tk }:=
 ⟨φ,own,⟨H,m⟩,b,Kp.refl ..,w.toks tk,r,q⟩
theorem QP.quiet (w:W C.B C.fs f φ own H m s) {h':Heap} (hq:Quiet own C.B.Fw s.heap h') (r:R φ b v) (q:Q b ⟨H,m⟩) (tk:Nat):QP C f φ own s.heap R Q v { s with heap:=h',toks:=tk }:=
 ⟨φ,own,⟨H,m⟩,b,hq.kp (B:=C.B),w.quiet hq tk,r,q⟩
noncomputable def ownAt (own:Addr->Option Nat) (n i:Nat) (S:List Addr):Addr->Option Nat:=fun b=>if b < n then own b else if b∈S then some i else none
theorem df {n i:Nat} {S:List Addr} {b:Addr} (h:b < n):ownAt own n i S b=own b:=if_pos h
theorem bR {n i:Nat} {S:List Addr} {b:Addr} (h:n<=b) (hb:b∈S):ownAt own n i S b=some i:=by
 unfold ownAt;exact (if_neg (Nat.not_lt.mpr h)).trans (if_pos hb)
theorem QP.new (w:W C.B C.fs f φ own H m s) {h':Heap} {a:Addr} {o':O} (S:List Addr) (hS:∀ b∈S,s.heap.objs.size<=b/\∃ o,h'.get? b=some o)
  (hk:∀ b o,s.heap.get? b=some o->h'.get? b=some o)
  (r:OR C.B (φ++[a]) (ownAt own s.heap.objs.size H.length S) h' H.length a o') (hr:R (φ++[a]) b v) (q:Q b ⟨H++[o'],m⟩) (tk:Nat) :
  QP C f φ own s.heap R Q v { s with heap:=h',toks:=tk }:=by
 refine⟨φ++[a],ownAt own s.heap.objs.size H.length S,⟨H++[o'],m⟩,b,⟨List.prefix_append _ _,fun c o e=>df (Heap.lt_size e),fun c o e=>⟨o,hk c o e⟩,fun c o e _ _=>⟨o.slots,hk c o e⟩,fun c o e _ _ _=>hk c o e⟩,?_,hr,q⟩
 refine w.new (fun c hc=>df hc) (fun c hc=>?_) hk r tk
 by_cases hm:c∈S
 .exact .inr ⟨bR hc hm,(hS c hm).2⟩
 .left;unfold ownAt;exact (if_neg (Nat.not_lt.mpr hc)).trans (if_neg hm)
theorem aM {c:Addr} {h h':Heap} {P:Addr->Prop} (hs:Heap.SameBut c h h') (hl:∃ o,h'.get? c=some o):∀ b o,P b->h.get? b=some o->∃ o',h'.get? b=some o':=by
 intro b o _ e
 by_cases hb:b=c
 .subst hb;exact hl
 .exact⟨o,(hs.2 b hb).trans e⟩
theorem QP.upd (w:W C.B C.fs f φ own H m s) {h':Heap} {i:Nat} {a:Addr} {o':O} (hi:i < H.length) (ha:φ[i]?=some a)
  (hs:∀ b,own b≠some i->h'.get? b=s.heap.get? b) (hz:∀ b o,own b=some i->s.heap.get? b=some o->∃ o',h'.get? b=some o') (r:OR C.B φ own h' i a o') (hr:R φ b v) (q:Q b ⟨H.set i o',m⟩) (tk:Nat) :
  QP C f φ own s.heap R Q v { s with heap:=h',toks:=tk }:=
 ⟨φ,own,⟨H.set i o',m⟩,b,mQ hs hz,w.upd hi ha hs hz r tk,hr,q⟩
theorem QP.eV (w:W C.B C.fs f φ own H m s) {h':Heap} {i:Nat} {a c:Addr} {o':O} (hi:i < H.length) (ha:φ[i]?=some a) (hc:own c=some i)
  (hs:Heap.SameBut c s.heap h') (r:OR C.B φ own h' i a o') (hr:R φ b v) (q:Q b ⟨H.set i o',m⟩) (tk:Nat) (hl:∃ o,h'.get? c=some o) :
  QP C f φ own s.heap R Q v { s with heap:=h',toks:=tk }:=
 QP.upd w hi ha (fun b hb=>hs.2 b fun e=>hb (e ▸ hc)) (aM hs hl) r hr q tk
theorem W.look {B:Base} {fs:List Env} (w:W B fs f φ own H m s) {i:Nat} {o:O} (e:H[i]?=some o):∃ a,φ[i]?=some a/\OR B φ own s.heap i a o:=by
 have hi:i < φ.length:=by refine rwE w.len ?_;exact (List.getElem?_eq_some_iff.mp e).1
 exact aW (φ[i]) (G6 hi) (w.obj i o _ e (G6 hi))
theorem W.at {B:Base} {fs:List Env} (w:W B fs f φ own H m s) {i:Nat} {o:O} {y:Value} (e:H[i]?=some o) (r:VR φ (.ref i) y):∃ a,y=.ref a/\φ[i]?=some a/\OR B φ own s.heap i a o:=by
 refine ao (w.look e) fun a e1 e2=>?_
 induction y<;>first | exact r.elim | skip
 rename_i b
 have hb:φ[i]?=some b:=r
 replace hb:=((e1).symm.trans hb);cases hb
 exact kC a rfl e1 e2
theorem VR.int {φ:List Addr} {i:Int} {y:Value} (r:VR φ (.int i) y):∃ t,y=.int i t:=by
 induction y<;>first | exact r.elim | skip
 rename_i j t
 have e:i=j:=r
 subst e
 exact⟨t,rfl⟩
theorem VR.none {φ:List Addr} {y:Value} (r:VR φ .none y):y=.none:=by
 induction y<;>first | exact r.elim | rfl
theorem VR.bool {φ:List Addr} {i:Bool} {y:Value} (r:VR φ (.bool i) y):y=.bool i:=by
 induction y<;>first | exact r.elim | skip
 have e:i=_:=r
 exact rwE e rfl
theorem VR.str {φ:List Addr} {i:Str} {y:Value} (r:VR φ (.str i) y):∃ t,y=.str i t:=by
 induction y<;>first | exact r.elim | skip
 rename_i j t
 have e:i=j:=r
 subst e
 exact⟨t,rfl⟩
theorem VR.glob {φ:List Addr} {a:Addr} {y:Value} (r:VR φ (.glob a) y):y=.ref a:=by
 induction y<;>first | exact r.elim | skip
 have e:a=_:=r
 exact rwE e rfl
theorem VR.bi {φ:List Addr} {a:String} {y:Value} (r:VR φ (.bi a) y):y=.builtin a:=by
 induction y<;>first | exact r.elim | skip
 have e:a=_:=r
 exact rwE e rfl
theorem VR.ty {φ:List Addr} {a:String} {y:Value} (r:VR φ (.ty a) y):y=.type a:=by
 induction y<;>first | exact r.elim | skip
 have e:a=_:=r
 exact rwE e rfl
end
end Mine
namespace Mine
open PySem
structure a9 (C:Ctx) (K:Cfg) (d:Nat):Prop where
 frames:C.A.frames=some C.fs
 depth:C.A.depth+6 * d+10 < recursionLimit
 units:C.A.units+60 * d+200 < cLine
 ok:K.ok->C.A.handled=none
theorem cG:big<=sizeLine:=by decide
theorem uz {n:Nat} (h:n<=big):(n:Int) < 2 ^ 63:=Int.lt_of_le_of_lt (Int.ofNat_le.2 h) (by decide)
theorem aH {h:Heap} {a:Addr} {dd sl} {vs:Array Value} {n:Nat} (g:h.get? a=some { cls:=.type "list",dict:=dd,data:=.seq vs n,slots:=sl }):h.IsList a vs:=⟨_,g,rfl,n,rfl⟩
theorem dU {h:Heap} {a:Addr} {dd sl} {vs:Array Value} {n:Nat} (g:h.get? a=some { cls:=.type "tuple",dict:=dd,data:=.seq vs n,slots:=sl }):h.IsTuple a vs:=⟨_,g,rfl,n,rfl⟩
theorem VRs.size {φ:List Addr} {xs:List V} {vs:Array Value} (h:VRs φ xs vs.toList):vs.size=xs.length:=by refine rwE h.length ?_;rfl
section
variable {α β:Type} {C:Ctx} {f:Fm} {φ:List Addr} {own:Addr->Option Nat} {H:List O} {m:Str->Option V} {s:Shared} {v:α}
theorem QP.kK {R:List Addr->β->α->Prop} {Q:β->St->Prop} {b:β} (w:W C.B C.fs f φ own H m s) {o:Obj} {o':O}
  (ho:o.isFreed=false) (r:∀ h' own',h'.get? s.heap.objs.size=some o->own' s.heap.objs.size=some H.length->φ <+: φ++[s.heap.objs.size]->OR C.B (φ++[s.heap.objs.size]) own' h' H.length s.heap.objs.size o')
  (hr:R (φ++[s.heap.objs.size]) b v) (q:Q b ⟨H++[o'],m⟩) (tk:Nat):QP C f φ own s.heap R Q v { s with heap:=s.heap.push o,toks:=tk }:=
 QP.new w [s.heap.objs.size] (by intro b hb;rw [List.mem_singleton] at hb;subst hb;exact⟨Nat.le_refl _,_,Heap.get?_push_size _ ho⟩) (fun b o e=>Heap.get?_push_of_some _ e)
  (r _ _ (Heap.get?_push_size _ ho) (bR (Nat.le_refl _) (by exact List.mem_singleton_self _)) (List.prefix_append _ _)) hr q tk
theorem VR.last (w:W C.B C.fs f φ own H m s) (a:Addr):VR (φ++[a]) (.ref H.length) (.ref a):=by
 refine (?_:(φ++[a])[H.length]?=some a)
 refine rwS w.len ?_;exact List.getElem?_concat_length
theorem QP.fF {Q:V->St->Prop} (w:W C.B C.fs f φ own H m s) {xs:List V} {vs:Array Value} {n:Nat} (hz:xs.length<=big) (h:VRs φ xs vs.toList) (q:Q (.ref H.length) ⟨H++[.list xs],m⟩) (tk:Nat) :
  QP C f φ own s.heap VR Q (.ref s.heap.objs.size) { s with heap:=s.heap.push { cls:=.type "list",data:=.seq vs n },toks:=tk }:=
 QP.kK (o':=.list xs) w rfl (fun h' own' g o hp=>⟨o,hz,vs,n,g,h.mono hp⟩) (VR.last w _) q tk
theorem QP.iX {Q:V->St->Prop} (w:W C.B C.fs f φ own H m s) {xs:List V} {vs:Array Value} {n:Nat} (hz:xs.length<=big) (h:VRs φ xs vs.toList) (q:Q (.ref H.length) ⟨H++[.tuple xs],m⟩) (tk:Nat) :
  QP C f φ own s.heap VR Q (.ref s.heap.objs.size) { s with heap:=s.heap.push { cls:=.type "tuple",data:=.seq vs n },toks:=tk }:=
 QP.kK (o':=.tuple xs) w rfl (fun h' own' g o hp=>⟨o,hz,vs,n,g,h.mono hp⟩) (VR.last w _) q tk
end
section
variable {C:Ctx} {f:Fm} {φ₀:List Addr} {K:Cfg} {d:Nat}
theorem ae.of {α β:Type} {t:Sem α} {p:PH β} {R:List Addr->β->α->Prop}
  (h:∀ φ own H m Q X s,φ₀ <+: φ->W C.B C.fs f φ own H m s->p H (lf Q m) (lf X m)->Wp C f φ own s R Q X t):ae C f φ₀ t (Tr.lift p) R:=
 fun φ own σ Q X s hp w q=>h φ own σ.H σ.m Q X s hp w q
theorem pT {prog:Program} {w:World} {A:Around} {E:Value->Shared->Prop} {s:Shared} {l b:Addr} {vs ws:Array Value} {Q:Value->Shared->Prop} (hl:s.heap.IsList l vs) (hb:s.heap.IsList b ws)
  (h:Q (.ref s.heap.objs.size) { s with heap:=s.heap.push { cls:=.type "list",data:=.seq (vs++ws) },toks:=s.toks })
  (hsz:vs.size+ws.size<=sizeLine) :
  wpAny (model prog w) A (binaryOp .Add (.ref l) (.ref b)) Q E s:=by
 (refine d8 (id hl) fun ζ1 ho hc ζ2=>?_;obtain⟨cls,dd,data,sl⟩:=ζ1;obtain⟨n,hd⟩:=ζ2)
 (refine d8 (id hb) fun ζ3 ho2 hc2 ζ4=>?_;obtain⟨cls2,dd2,data2,sl2⟩:=ζ3;obtain⟨n2,hd2⟩:=ζ4)
 dsimp only at hc hd hc2 hd2
 subst hc hd hc2 hd2
 exact concat_meets ⟨_,ho,rfl⟩ ⟨_,ho2,rfl⟩ noFill_list_add seq_list_add PySem.F.slot_list_add PySem.F.entry_list_add (PySem.F.args_list_add_2 _ _) (PyProof.Rows.list_addW l b vs ws n n2 dd dd2 sl sl2 hsz) ⟨ho,ho2,h⟩
theorem mD {a b:Addr} {i j:Nat} (ra:φ₀[i]?=some a) (rb:φ₀[j]?=some b):ae C f φ₀ (binaryOp .Add (.ref a) (.ref b)) (Tr.lift (jT .Add (.ref i) (.ref j))) VR:=by
 refine ae.of fun φ own H m Q X s hp w q=>?_
 (refine fh q fun xs ys e1 e2 ζ5=>?_;clear q;obtain⟨hz,q⟩:=ζ5)
 (refine ao (w.look e1) fun a' g1 ζ6=>?_;refine aJ ζ6 fun o1 z1 ζ7=>?_;clear ζ6;refine bq ζ7 fun vs n h1 r1=>?_;clear ζ7)
 (refine ao (w.look e2) fun b' g2 ζ8=>?_;refine aJ ζ8 fun o2 z2 ζ9=>?_;clear ζ8;refine bq ζ9 fun ws n2 h2 r2=>?_;clear ζ9)
 rw [ah hp ra] at g1;cases g1
 rw [ah hp rb] at g2;cases g2
 refine pT (aH h1) (aH h2) (QP.fF w (xs:=xs++ys) hz (by refine rwE Array.toList_append ?_;exact r1.append r2) q _) ?_
 refine rwE r1.size (rwE r2.size (rwS GY ?_));exact GS hz cG
theorem nU {op:Operator} {i j:Int} {t u:Tok}:ae C f φ₀ (binaryOp op (.int i t) (.int j u)) (Tr.lift (jT op (.int i) (.int j))) VR:=by
 refine ae.of fun φ own H m Q X s hp w q=>?_
 induction op<;>first | exact q.elim | skip
 .exact PyProof.Rows.add_int (QP.same w (b:=V.int (i+j)) (by exact rfl) q _)
 .exact PyProof.Rows.sub_int (QP.same w (b:=V.int (i - j)) (by exact rfl) q _)
 .refine aJ q fun h1 h2 q=>?_
  refine PyProof.Rows.mod_int' (by exact Int.ne_of_gt h1) ?_
  refine rwE (Int.fmod_eq_emod_of_nonneg _ (by exact Int.le_of_lt h1)) ?_
  exact QP.same w (b:=V.int (i % j)) (by exact rfl) q _
 .refine aJ q fun h1 h2 q=>?_
  refine PyProof.Rows.floordiv_int (by exact Int.ne_of_gt h1) ?_ (.inl (PyProof.noPylong_small (E1 h1 h2)))
  refine rwE (Int.fdiv_eq_ediv_of_nonneg _ (by exact Int.le_of_lt h1)) ?_
  exact QP.same w (b:=V.int (i / j)) (by exact rfl) q _
end
end Mine
namespace Mine
open PySem
section
variable {B:Base} {fs:List Env} {f:Fm} {φ:List Addr} {own:Addr->Option Nat} {H:List O} {m:Str->Option V} {s:Shared}
mutual
theorem dB (w:W B fs f φ own H m s):∀ (d:PyData) {x:V} {v:Value},Rd H d x->VR φ x v->∃ as,Reads s.heap v d as
 | .none,x,v,h,r=>by have h:x=.none:=h;subst h;refine rwE r.none ?_;exact⟨_,.none⟩
 | .bool b,x,v,h,r=>by have h:x=.bool b:=h;subst h;refine rwE r.bool ?_;exact⟨_,.bool b⟩
 | .int b,x,v,h,r=>by have h:x=.int b:=h;subst h;obtain⟨t,rfl⟩:=r.int;exact⟨_,.int b t⟩
 | .str b,x,v,h,r=>by have h:x=.str b:=h;subst h;obtain⟨t,rfl⟩:=r.str;exact⟨_,.str b t⟩
 | .list ds,x,v,h,r=>by
  (refine bq h fun i xs ζ1 ζ2=>?_;clear h;obtain rfl:=ζ1;obtain⟨e,hs⟩:=ζ2)
  (refine ao (w.at e r) fun a ζ3 ζ4=>?_;obtain rfl:=ζ3;obtain⟨g,ζ5⟩:=ζ4;refine aJ ζ5 fun o hz ζ6=>?_;clear ζ5;refine bq ζ6 fun vs n ho rv=>?_;clear ζ6)
  obtain⟨as,ra⟩:=eL w ds hs rv
  exact⟨_,.list ho rfl rfl ra⟩
 | .tuple ds,x,v,h,r=>by
  (refine bq h fun i xs ζ7 ζ8=>?_;clear h;obtain rfl:=ζ7;obtain⟨e,hs⟩:=ζ8)
  (refine ao (w.at e r) fun a ζ9 Ft=>?_;obtain rfl:=ζ9;obtain⟨g,Fp⟩:=Ft;refine aJ Fp fun o hz Fx=>?_;clear Fp;refine bq Fx fun vs n ho rv=>?_;clear Fx)
  obtain⟨as,ra⟩:=eL w ds hs rv
  exact⟨_,.tuple ho rfl rfl ra⟩
 | .dict _,x,v,h,r=>h.elim
theorem eL (w:W B fs f φ own H m s):∀ (ds:List PyData) {xs:List V} {vs:List Value},Rds H ds xs->VRs φ xs vs->∃ as,ReadsAll s.heap vs ds as
 | [],xs,vs,h,r=>by
  have h:xs=[]:=h
  subst h
  induction vs using lT with
  | nil=>exact⟨_,.nil⟩
  | cons a b=>exact r.elim
 | d::ds,xs,vs,h,r=>by
  (refine bq h fun x rx Fy Fz=>?_;clear h;obtain rfl:=Fy;obtain⟨h1,h2⟩:=Fz)
  induction vs using lT with
  | nil=>exact r.elim
  | cons a b =>
   obtain⟨as,ra⟩:=dB w d h1 r.1
   obtain⟨bs,rb⟩:=eL w ds h2 r.2
   exact⟨_,.cons ra rb⟩
end
end
theorem oH {b:Bool} {p:Prop} [Decidable p] (h:b=true↔p):b=decide p:=(Bool.decide_coe b).symm.trans (decide_eq_decide.mpr h)
theorem isInt_self {p:Program} {w:World} {k:Int} {t:Tok}:(intKind p w).is k (.int k t)=true:=by exact decide_eq_true rfl
theorem KV.at {φ:List Addr} (k:Int) {es:List (Int × V)} {kvs:List (Int × Value)} (r:KV φ es kvs):VRo φ (dF es k) (valueAt kvs k):=by
 induction es,kvs,r using KV.ind with
 | nil=>trivial
 | cons j x y xs ys a b ih =>
  unfold dF valueAt at ih ⊢
  by_cases hj:j=k
  .simp [hj];exact a
  .simp [hj];exact ih
theorem VRo.isSome {φ:List Addr} {x:Option V} {y:Option Value} (r:VRo φ x y):y.isSome=x.isSome:=by
 induction x<;>induction y<;>first | rfl | exact r.elim
theorem je {φ:List Addr} {a:V} {va:Value} (r:VR φ a va):(va == Value.none)=decide (a=.none):=by
 induction a with
 | none=>refine rwE r.none ?_;rfl
 | bool b=>refine rwE r.bool ?_;rfl
 | int b=>obtain⟨t,rfl⟩:=r.int;rfl
 | str b=>obtain⟨t,rfl⟩:=r.str;rfl
 | ref i=>induction va<;>first | exact r.elim | rfl
 | glob b=>refine rwE r.glob ?_;rfl
 | bi b=>refine rwE r.bi ?_;rfl
 | ty b=>refine rwE r.ty ?_;rfl
section
variable {C:Ctx} {f:Fm} {φ₀:List Addr} {K:Cfg} {d:Nat}
theorem tO (ok:a9 C K d) {op:CmpOp} {a b:V} {va vb:Value} (ra:VR φ₀ a va) (rb:VR φ₀ b vb) :
  ae C f φ₀ (compareOp op va vb) (Tr.lift (f9 op a b)) (fun _ r v=>v=.bool r):=by
 refine ae.of fun φ own H m Q X s hp w q=>?_
 have ra:=ra.mono hp
 have rb:=rb.mono hp
 have hu:=ok.units
 have hints:∀ {i j:Int},a=.int i->b=.int j->∃ t u,va=.int i t/\vb=.int j u:=by
  intro i j h1 h2;subst h1 h2
  obtain⟨t,rfl⟩:=ra.int;obtain⟨u,rfl⟩:=rb.int
  exact wV t u rfl rfl
 have heqs:∀ {r:Bool},eqV H a b r->∃ da db as bs,Reads s.heap va da as/\Reads s.heap vb db bs/\SeqAt.shaped da=true/\SeqAt.shaped db=true/\r=PyData.eqv da db:=by
  (intro r GB;refine jh GB fun da db h1 h2 h3 GN=>?_;clear GB;obtain⟨h4,h5⟩:=GN)
  obtain⟨as,r1⟩:=dB w da h1 ra
  obtain⟨bs,r2⟩:=dB w db h2 rb
  exact Et da db as bs r1 r2 h3 h4 h5
 induction op with
 | Eq =>
  refine ao q fun r h q=>?_
  (refine gP (heqs h) fun da db as bs FD=>?_;refine rH FD fun r1 r2 h3 h4 FE=>?_;clear FD;obtain rfl:=FE)
  exact SeqAt.compareEq_shaped r1 r2 h3 h4 (ulc 64 (by decide) hu) (QP.same w (b:=PyData.eqv da db) rfl q s.toks)
 | NotEq =>
  refine ao q fun r h q=>?_
  (refine gP (heqs h) fun da db as bs FH=>?_;refine rH FH fun r1 r2 h3 h4 FN=>?_;clear FH;obtain rfl:=FN)
  exact SeqAt.compareNe_shaped r1 r2 h3 h4 (ulc 64 (by decide) hu) (QP.same w (b:=!PyData.eqv da db) rfl q s.toks)
 | Lt =>
  refine fh q fun i j h1 h2 q=>?_
  (refine bq (hints h1 h2) fun t u FP F8=>?_;obtain rfl:=FP;obtain rfl:=F8)
  exact P.lt_int (QP.same w (b:=decide (i < j)) rfl q s.toks)
 | LtE =>
  refine fh q fun i j h1 h2 q=>?_
  (refine bq (hints h1 h2) fun t u F4 F5=>?_;obtain rfl:=F4;obtain rfl:=F5)
  exact P.le_int (QP.same w (b:=decide (i<=j)) rfl q s.toks)
 | Gt =>
  refine fh q fun i j h1 h2 q=>?_
  (refine bq (hints h1 h2) fun t u Gk Ga=>?_;obtain rfl:=Gk;obtain rfl:=Ga)
  exact P.gt_int (QP.same w (b:=decide (i > j)) rfl q s.toks)
 | GtE =>
  refine fh q fun i j h1 h2 q=>?_
  (refine bq (hints h1 h2) fun t u Gl Gm=>?_;obtain rfl:=Gl;obtain rfl:=Gm)
  exact P.ge_int (QP.same w (b:=decide (i ≥ j)) rfl q s.toks)
 | Is =>
  obtain⟨rfl,q⟩:=q
  refine rwE rb.none ?_
  refine PySem.is_none ?_
  refine rwE (je ra) ?_
  exact QP.same w (b:=decide (a=.none)) rfl q s.toks
 | IsNot =>
  obtain⟨rfl,q⟩:=q
  refine rwE rb.none ?_
  refine PySem.isNot_none ?_
  refine rwE (je ra) ?_
  exact QP.same w (b:=decide (a≠.none)) (congrArg Value.bool decide_not.symm) q s.toks
 | In =>
  refine ao q fun r h q=>?_
  obtain⟨i,rfl⟩:∃ i,b=.ref i:=by induction b<;>first | exact h.elim | exact⟨_,rfl⟩
  have h:H[i]?.elim False (inO H a r):=h
  induction ho:H[i]? with
  | none=>rw [ho] at h;exact h.elim
  | some o =>
   rw [ho] at h
   (refine ao (w.at ho rb) fun al Gb Gp=>?_;obtain rfl:=Gb;obtain⟨g,ro⟩:=Gp)
   induction o<;>first | exact h.elim | skip
   ·(refine jh h fun dd ds h1 h2 h3 Gq=>?_;clear h;obtain⟨h4,Gr⟩:=Gq;obtain rfl:=Gr)
    obtain⟨as,r1⟩:=dB w dd h1 ra
    obtain⟨bs,r2⟩:=dB w (.list ds) ⟨i,_,rfl,ho,h2⟩ rb
    have hd:=SeqAt.depth_of_shaped h3
    exact SeqAt.in_list_reads r2 r1 (SeqAt.canLay_of_shaped h4) (SeqAt.canLay_of_shaped h3) (ulm hu hd) (QP.same w (b:=ds.any fun y=>PyData.eqv y dd) rfl q s.toks)
   ·(refine ao h fun k Gd Ge=>?_;clear h;obtain rfl:=Gd;obtain rfl:=Ge)
    (refine aJ ro fun o1 o2 Gf=>?_;clear ro;refine ao Gf fun kvs hD hK=>?_;clear Gf)
    obtain⟨t,rfl⟩:=ra.int
    refine wpAny_in_of (knd:=intKind C.B.prog C.B.w) (k:=k) isInt_self o2 hD.dictOf.mapOf ?_
    refine rwE ((hK.at k).isSome) ?_
    exact QP.same w (b:=(dF _ k).isSome) rfl q _
   ·(refine ao h fun k Gs Gg=>?_;clear h;obtain rfl:=Gs;obtain rfl:=Gg)
    (obtain⟨o1,Gy⟩:=ro;refine jh Gy fun S n hS hm _ _=>?_;clear Gy)
    obtain⟨t,rfl⟩:=ra.int
    refine wpAny_inSet_of (knd:=intKind C.B.prog C.B.w) (k:=k) isInt_self rfl hS ?_
    exact QP.same w (b:=decide (k∈_)) (by exact rwE (oH (hm k)) rfl) q _
 | NotIn =>
  refine ao q fun r h q=>?_
  obtain⟨i,rfl⟩:∃ i,b=.ref i:=by induction b<;>first | exact h.elim | exact⟨_,rfl⟩
  have h:H[i]?.elim False (inO H a r):=h
  induction ho:H[i]? with
  | none=>rw [ho] at h;exact h.elim
  | some o =>
   rw [ho] at h
   (refine ao (w.at ho rb) fun al GD GF=>?_;obtain rfl:=GD;obtain⟨g,ro⟩:=GF)
   induction o<;>first | exact h.elim | skip
   ·(refine jh h fun dd ds h1 h2 h3 GG=>?_;clear h;obtain⟨h4,GH⟩:=GG;obtain rfl:=GH)
    obtain⟨as,r1⟩:=dB w dd h1 ra
    obtain⟨bs,r2⟩:=dB w (.list ds) ⟨i,_,rfl,ho,h2⟩ rb
    have hd:=SeqAt.depth_of_shaped h3
    exact SeqAt.notIn_list_reads r2 r1 (SeqAt.canLay_of_shaped h4) (SeqAt.canLay_of_shaped h3) (ulm hu hd) (QP.same w (b:=!ds.any fun y=>PyData.eqv y dd) rfl q s.toks)
   ·(refine ao h fun k GI GJ=>?_;clear h;obtain rfl:=GI;obtain rfl:=GJ)
    (refine aJ ro fun o1 o2 Gz=>?_;clear ro;refine ao Gz fun kvs hD hK=>?_;clear Gz)
    obtain⟨t,rfl⟩:=ra.int
    refine wpAny_notIn_of (knd:=intKind C.B.prog C.B.w) (k:=k) isInt_self o2 hD.dictOf.mapOf ?_
    refine rwE ((hK.at k).isSome) ?_
    exact QP.same w (b:=!(dF _ k).isSome) rfl q _
   ·(refine ao h fun k GK GL=>?_;clear h;obtain rfl:=GK;obtain rfl:=GL)
    (obtain⟨o1,GA⟩:=ro;refine jh GA fun S n hS hm _ _=>?_;clear GA)
    obtain⟨t,rfl⟩:=ra.int
    refine wpAny_notInSet_of (knd:=intKind C.B.prog C.B.w) (k:=k) isInt_self rfl hS ?_
    exact QP.same w (b:=!decide (k∈_)) (by exact rwE (oH (hm k)) rfl) q _
end
end Mine
namespace Mine
open PySem
theorem KV.any {φ:List Addr} (k:Int) {es:List (Int × V)} {kvs:List (Int × Value)} (r:KV φ es kvs):es.any (fun e=>decide (e.1=k))=kvs.any (fun e=>decide (e.1=k)):=by
 induction es,kvs,r using KV.ind with
 | nil=>rfl
 | cons j x y xs ys a b ih=>exact congrArg (decide (j=k) || ·) ih
theorem KV.map {φ:List Addr} (k:Int) {v:V} {y:Value} (hv:VR φ v y) {es:List (Int × V)} {kvs:List (Int × Value)} (r:KV φ es kvs) :
  KV φ (es.map fun e=>if e.1=k then (e.1,v) else e) (kvs.map fun e=>if e.1=k then (e.1,y) else e):=by
 induction es,kvs,r using KV.ind with
 | nil=>trivial
 | cons j x z xs ys a b ih =>
  refine rwE List.map_cons (rwE List.map_cons ?_)
  by_cases hj:j=k
  .refine rwE (if_pos hj) (rwE (if_pos hj) ?_);exact⟨⟨rfl,hv⟩,ih⟩
  .refine rwE (if_neg hj) (rwE (if_neg hj) ?_);exact⟨⟨rfl,a⟩,ih⟩
theorem KV.xA {φ:List Addr} (k:Int) {v:V} {y:Value} (hv:VR φ v y) {es:List (Int × V)} {kvs:List (Int × Value)} (r:KV φ es kvs):KV φ (es++[(k,v)]) (kvs++[(k,y)]):=by
 induction es,kvs,r using KV.ind with
 | nil=>exact⟨⟨rfl,hv⟩,trivial⟩
 | cons j x z xs ys a b ih=>exact⟨⟨rfl,a⟩,ih⟩
theorem KV.set {φ:List Addr} (k:Int) {v:V} {y:Value} (hv:VR φ v y) {es:List (Int × V)} {kvs:List (Int × Value)} (h:KV φ es kvs):KV φ (lE es k v) (stored kvs k y):=by
 (delta lE stored;try dsimp only)
 have e:=KV.any k h
 by_cases hb:es.any (fun e=>decide (e.1=k))=true
 .rw [if_pos hb,if_pos (by rw [<- e];exact hb)];exact KV.map k hv h
 .refine rwE (if_neg hb) (rwE (if_neg (by rw [<- e];exact hb)) ?_);exact KV.xA k hv h
theorem KV.length {φ:List Addr} {es:List (Int × V)} {kvs:List (Int × Value)} (r:KV φ es kvs):es.length=kvs.length:=by
 induction es,kvs,r using KV.ind with
 | nil=>rfl
 | cons j x z xs ys a b ih=>exact congrArg (·+1) ih
theorem KV.del {φ:List Addr} (k:Int) {es:List (Int × V)} {kvs:List (Int × Value)} (r:KV φ es kvs):KV φ (xU es k) (without kvs k):=by
 induction es,kvs,r using KV.ind with
 | nil=>trivial
 | cons j x z xs ys a b ih =>
  unfold xU without at ih ⊢
  by_cases hj:j=k
  .simp [hj];simpa using ih
  .simp [hj];exact⟨⟨rfl,a⟩,by simpa using ih⟩
theorem VRs.set {φ:List Addr} {v:V} {y:Value} (hv:VR φ v y) {xs:List V} {ys:List Value} (r:VRs φ xs ys) (j:Nat):VRs φ (xs.set j v) (ys.set j y):=by
 induction xs,ys,r using VRs.ind generalizing j with
 | nil=>trivial
 | cons x z xs ys a b ih=>induction j using Nat.casesOn with
  | zero=>exact⟨hv,b⟩
  | succ n=>exact⟨a,ih n⟩
theorem VRs.eraseIdx {φ:List Addr} {xs:List V} {ys:List Value} (r:VRs φ xs ys) (j:Nat):VRs φ (xs.eraseIdx j) (ys.eraseIdx j):=by
 induction xs,ys,r using VRs.ind generalizing j with
 | nil=>trivial
 | cons x z xs ys a b ih=>induction j using Nat.casesOn with
  | zero=>exact b
  | succ n=>exact⟨a,ih n⟩
section
variable {C:Ctx} {f:Fm} {φ₀:List Addr} {K:Cfg} {d:Nat}
noncomputable def xn (a:V):Tr Bool:=fun σ Q _=>∃ b,gJ σ.H a=some b/\Q b σ
theorem jG {a:V} {va:Value} (ra:VR φ₀ a va):ae C f φ₀ (truthy va) (xn a) (fun _ r v=>v=r):=by
 intro φ own σ Q X s hp w q
 obtain⟨H,m⟩:=σ
 have ra:=ra.mono hp
 obtain⟨b,hb,q⟩:=q
 induction a with
 | none=>refine rwE ra.none ?_;cases hb;exact PyProof.Rows.truthy_none (QP.same w (b:=false) rfl q s.toks)
 | bool x=>refine rwE ra.bool ?_;cases hb;exact wpAny_truthy_bool (QP.same w (b:=_) rfl q s.toks)
 | int x=>obtain⟨t,rfl⟩:=ra.int;cases hb;exact P.truthy_int (QP.same w (b:=x != 0) rfl q s.toks)
 | ref i =>
  have hb:H[i]?.bind Cg=some b:=hb
  induction ho:H[i]? with
  | none=>rw [ho] at hb;exact nS hb
  | some o =>
   rw [ho] at hb
   (refine ao (w.at ho ra) fun al ζ1 ζ2=>?_;obtain rfl:=ζ1;obtain⟨g,ro⟩:=ζ2)
   induction o with
   | list xs =>
    cases hb
    (refine aJ ro fun o1 hz ζ3=>?_;clear ro;refine bq ζ3 fun vs n g1 r1=>?_;clear ζ3)
    refine wpAny_truthy_list (aH g1) (uz (by refine rwE r1.size ?_;exact hz)) ?_
    refine QP.same w (b:=!xs.isEmpty) ?_ q _
    have:=r1.size
    exact isE this
   | tuple xs =>
    cases hb
    (refine aJ ro fun o1 hz ζ4=>?_;clear ro;refine bq ζ4 fun vs n g1 r1=>?_;clear ζ4)
    refine PyProof.Rows.truthy_tuple (dU g1) (uz (by refine rwE r1.size ?_;exact hz)) ?_
    refine QP.same w (b:=!xs.isEmpty) ?_ q _
    have:=r1.size
    exact isE this
   | _=>exact nS hb
 | _=>exact nS hb
theorem iW {n:Nat} {k:Int} {j:Nat} (h:place n k=some j):j < n/\((0<=k/\k=j)\/(k < 0/\k+n=j)):=by
 unfold place at h
 split at h
 .split at h
  .cases h;rename_i h0 h1;exact pl1 h0 h1
  .exact nS h
 .split at h
  .cases h;rename_i h0 h1;exact pl2 h0 h1
  .exact nS h
theorem i7 {a i:V} {va vi:Value} (ra:VR φ₀ a va) (ri:VR φ₀ i vi):ae C f φ₀ (getItem va vi) (Tr.lift (ba a i)) VR:=by
 refine ae.of fun φ own H m Q X s hp w q=>?_
 have ra:=ra.mono hp
 have ri:=ri.mono hp
 induction a with
 | ref x =>
  induction i with
  | int k =>
   obtain⟨t,rfl⟩:=ri.int
   have q:H[x]?.elim False (giO k (lf Q m) H):=q
   induction ho:H[x]? with
   | none=>rw [ho] at q;exact q.elim
   | some o =>
    rw [ho] at q
    (refine ao (w.at ho ra) fun al ζ5 ζ6=>?_;obtain rfl:=ζ5;obtain⟨g,ro⟩:=ζ6)
    induction o with
    | list xs =>
     (refine jh q fun j v h1 h2 h3 ζ7=>?_;clear q;obtain⟨h4,q⟩:=ζ7)
     (refine aJ ro fun o1 hz ζ8=>?_;clear ro;refine bq ζ8 fun vs n g1 r1=>?_;clear ζ8)
     refine ao (r1.get h2) fun y e1 e2=>?_
     have e1:vs[j]?=some y:=by simpa using e1
     have hsz:=r1.size
     obtain⟨hj,⟨h0,hk⟩ | ⟨h0,hk⟩⟩:=iW h1
     .exact wpAny_getItem_list (aH g1) h0 (Fg h4) (by refine rwE hk ?_;exact e1) (QP.same w (b:=v) e2 q s.toks)
     .refine wpAny_getItem_list_neg (aH g1) h0 (by rw [hsz];exact nge hk) (Ff h3) ?_ (QP.same w (b:=v) e2 q s.toks)
      have:(k+(vs.size:Int)).toNat=j:=congrArg Int.toNat ((congrArg (fun n:Nat=>k+(n:Int)) hsz).trans hk)
      refine rwE this ?_;exact e1
    | dict es n =>
     refine ao q fun v h1 q=>?_
     (refine aJ ro fun o1 o2 ζ9=>?_;clear ro;refine ao ζ9 fun kvs hD hK=>?_;clear ζ9)
     have hv:=hK.at k
     rw [h1] at hv
     induction hy:valueAt kvs k with
     | none=>rw [hy] at hv;exact hv.elim
     | some y =>
      rw [hy] at hv
      exact wpAny_getItem_of (knd:=intKind C.B.prog C.B.w) (k:=k) isInt_self hD.dictOf.mapOf hy (QP.same w (b:=v) hv q _)
    | _=>exact q.elim
  | _=>exact q.elim
 | _=>exact q.elim
theorem i9 {a i v:V} {va vi vv:Value} (ra:VR φ₀ a va) (ri:VR φ₀ i vi) (rv:VR φ₀ v vv):ae C f φ₀ (setItem va vi vv) (Tr.lift (bS a i v)) (fun _ _ _=>True):=by
 refine ae.of fun φ own H m Q X s hp w q=>?_
 have ra:=ra.mono hp
 have ri:=ri.mono hp
 have rv:=rv.mono hp
 induction a with
 | ref x =>
  induction i with
  | int k =>
   obtain⟨t,rfl⟩:=ri.int
   obtain⟨hx,q⟩:=q
   have q:H[x]?.elim False (siO x k v (lf Q m) H):=q
   induction ho:H[x]? with
   | none=>rw [ho] at q;exact q.elim
   | some o =>
    rw [ho] at q
    (refine ao (w.at ho ra) fun al Ft Fp=>?_;obtain rfl:=Ft;obtain⟨g,ro⟩:=Fp)
    have hlt:x < H.length:=(List.getElem?_eq_some_iff.mp ho).1
    induction o with
    | dict es n =>
     obtain⟨hz,q⟩:=q
     (refine aJ ro fun o1 o2 Fx=>?_;clear ro;refine ao Fx fun kvs hD hK=>?_;clear Fx)
     refine wpAny_setItem_pairs (knd:=intKind C.B.prog C.B.w) (k:=k) isInt_self hD.dictOf (fun h' hD' hS=>?_) (by refine rwS hK.length ?_;exact GS hz cG)
     obtain⟨n',hD'⟩:=hD'.dictAt
     exact QP.eV w (b:=()) (o':=.dict (lE es k v) n') hlt g o1 hS ⟨o1,o2,_,hD',hK.set k rv⟩ trivial (q n') _ (let ⟨o,_,e,_⟩:=hD';⟨o,e⟩)
    | list xs =>
     refine aJ q fun h1 h2 q=>?_
     (refine aJ ro fun o1 hz Fy=>?_;clear ro;refine bq Fy fun vs n g1 r1=>?_;clear Fy)
     have hsz:=r1.size
     refine PySem.W.ki_setAt (n:=n) g1 h1 (Int.lt_trans h2 (uz hz)) (by rw [hsz];exact h2) ?_
     exact QP.eV w (b:=()) (o':=.list (xs.set k.toNat v)) hlt g o1 (Heap.SameBut.update ..) ⟨o1,by refine rwE List.length_set ?_;exact hz,_,_,Heap.get?_update_self _ g1 rfl,by
      refine rwE Array.toList_setIfInBounds ?_;exact r1.set rv _⟩ trivial q s.toks ⟨_,Heap.get?_update_self _ (by assumption) rfl⟩
    | _=>exact q.elim
  | _=>exact q.elim
 | _=>exact q.elim
theorem nV {a i:V} {va vi:Value} (ra:VR φ₀ a va) (ri:VR φ₀ i vi):ae C f φ₀ (delItem va vi) (Tr.lift (dq a i)) (fun _ _ _=>True):=by
 refine ae.of fun φ own H m Q X s hp w q=>?_
 have ra:=ra.mono hp
 have ri:=ri.mono hp
 induction a with
 | ref x =>
  induction i with
  | int k =>
   obtain⟨t,rfl⟩:=ri.int
   obtain⟨hx,q⟩:=q
   have q:H[x]?.elim False (diO x k (lf Q m) H):=q
   induction ho:H[x]? with
   | none=>rw [ho] at q;exact q.elim
   | some o =>
    rw [ho] at q
    (refine ao (w.at ho ra) fun al Fz FD=>?_;obtain rfl:=Fz;obtain⟨g,ro⟩:=FD)
    have hlt:x < H.length:=(List.getElem?_eq_some_iff.mp ho).1
    induction o with
    | list xs =>
     refine bW q fun j h1 h2 h3 q=>?_
     (refine aJ ro fun o1 hz FE=>?_;clear ro;refine bq FE fun vs n g1 r1=>?_;clear FE)
     have hsz:=r1.size
     obtain⟨hj,hk⟩:=iW h1
     refine wpAny_delItem_plain (k:=j) ⟨n,g1⟩ (DX h2 h3) ?_ (fun h' hL hS=>?_) (by refine rwE hsz ?_;exact GS hz cG)
     .exact Eg hsz hj hk
     .obtain⟨n',g'⟩:=hL
      exact QP.eV w (b:=()) (o':=.list (xs.eraseIdx j)) hlt g o1 hS ⟨o1,GS (List.length_eraseIdx_le _ _) hz,_,n',g',by
       have:=r1.eraseIdx j
       simpa using this⟩ trivial q _ ⟨_,g'⟩
    | dict es n =>
     refine aJ q fun hz1 hz2 q=>?_
     have hz:=And.intro hz1 hz2
     (refine aJ ro fun o1 o2 FH=>?_;clear ro;refine ao FH fun kvs hD hK=>?_;clear FH)
     refine wpAny_delItem_slot hD.dictOf.typeIs (by decide) F.slot_dict_delitem ?_
     refine call_meetsIn F.slot_dict_delitem hD.dictOf.typeIs F.entry_dict_delitem (F.args_dict_delitem_2 _ _) (meets_dict_delitem_pairs (k:=k) (intKind C.B.prog C.B.w) al isInt_self) ⟨kvs,hD.dictOf,?_,?_,fun h' hD' hS=>?_⟩
     .refine rwS hK.length ?_;exact GS hz.1 cG
     .refine ((hK.at k).isSome).trans ?_;exact hz.2
     .obtain⟨n',hD'⟩:=hD'.dictAt
      exact QP.eV w (b:=()) (o':=.dict (xU es k) n') hlt g o1 hS ⟨o1,o2,_,hD',hK.del k⟩ trivial (q n') _ (let ⟨o,_,e,_⟩:=hD';⟨o,e⟩)
    | _=>exact q.elim
  | _=>exact q.elim
 | _=>exact q.elim
end
end Mine
namespace Mine
open PySem
theorem Az {l r:Expr} {op:Operator} {pos:Pos} {env:Env}:eval (.BinOp l op r pos) env=(do
  let a <- eval l env
  let b <- holding [a] (eval r env)
  standAt pos
  operate [a,b] (binaryOp op a b)):=rfl
theorem AA {l:Expr} {ops:List CmpOp} {cs:List Expr} {pos:Pos} {env:Env}:eval (.Compare l ops cs pos) env=(do compareChain pos (<- eval l env) ops (markedEach ops cs (evalEach cs env))):=rfl
theorem AB {x:Expr} {op:UnaryOp} {pos:Pos} {env:Env}:eval (.UnaryOp op x pos) env=(do let v <- eval x env;standAt pos;holding [v] (unaryOp op v)):=rfl
theorem uT {t v:Expr} {pos:Pos} {env:Env}:eval (.NamedExpr t v pos) env=(do
  let v <- eval v env
  holding [v] (assign t env v)
  pure v):=rfl
theorem xZ {x:Str} {pos:Pos} {env:Env}:eval (.Name x pos) env=(do
  standAt pos
  if x == ("__debug__" : Str) then debugConstant else loadName env x):=rfl
theorem xY {es:List Expr} {pos:Pos} {env:Env}:eval (.List es pos) env=(do standAt pos;PySem.newList (<- spliced (backTo pos (starEach es env)))):=rfl
theorem uU {es:List Expr} {k:Nat} {pos:Pos} {env:Env}:eval (.Tuple es k pos) env=(do standAt pos;PySem.newTuple (<- spliced (backTo pos (starEach es env)))):=rfl
theorem xD {x:Str} {pos:Pos} {env:Env} {v:Value}:assign (.Name x pos) env v=(do standAt pos;bindName env x v):=rfl
theorem ae.guard {α β:Type} {C:Ctx} {f:Fm} {φ₀:List Addr} {t:Sem α} {a:Tr β} {R:List Addr->β->α->Prop} {p:Prop} (h:p->ae C f φ₀ t a R):ae C f φ₀ t (fun σ Q X=>p/\a σ Q X) R:=
 fun φ own σ Q X s hp w q=>h q.1 φ own σ Q X s hp w q.2
theorem ae.false {α β:Type} {C:Ctx} {f:Fm} {φ₀:List Addr} {t:Sem α} {R:List Addr->β->α->Prop}:ae C f φ₀ t (fun _ _ _=>False) R:=
 fun φ own σ Q X s hp w q=>q.elim
theorem ae.free {α β:Type} {C:Ctx} {f:Fm} {φ₀:List Addr} {t:Sem Unit} {k:Unit->Sem α} {a:Tr β} {R:List Addr->β->α->Prop}
  (h:∀ {Q:Unit->Shared->Prop} {E:Value->Shared->Prop} {s:Shared},Q () s->wpAny C.M C.A t Q E s) (h2:ae C f φ₀ (k ()) a R):ae C f φ₀ (t >>= k) a R:=
 ae.bindL () (fun Q E s q=>h q) h2
theorem ae.mapR {α β γ:Type} {C:Ctx} {f:Fm} {φ₀:List Addr} {t:Sem α} {a:Tr β} {R:List Addr->β->α->Prop} {g:β->γ} {R':List Addr->γ->α->Prop} (h:ae C f φ₀ t a R) (hr:∀ φ b v,R φ b v->R' φ (g b) v) :
  ae C f φ₀ t (a.bind fun b=>Tr.pure (g b)) R':=by
 intro φ own σ Q X s hp w q
 refine wpAny_mono (h φ own σ _ X s hp w q) ?_ fun _ _ x=>x
 rintro v s1 ⟨φ1,own1,σ1,b,k1,w1,r1,q1⟩
 exact⟨φ1,own1,σ1,g b,k1,w1,hr _ _ _ r1,q1⟩
noncomputable def aV (C:Ctx) (K:Cfg) (f:Fm) (e:Expr):Prop:=∀ φ₀,ae C f φ₀ (eval e f.env) (awE K e f.env.scope f.ro) VR
section
variable {C:Ctx} {f:Fm} {K:Cfg} {d:Nat}
noncomputable def qU (C:Ctx) (f:Fm):Prop:=∀ φ₀ (i j:Nat) (a b:Addr),φ₀[i]?=some a->φ₀[j]?=some b->ae C f φ₀ (binaryOp .BitOr (.ref a) (.ref b)) (Tr.lift (jT .BitOr (.ref i) (.ref j))) VR
theorem lJ (xs:List Value):∀ (k:Nat) (acc:Array Value),(List.foldl (fun x1 x2=>x1++x2) acc (List.replicate k xs.toArray)).toList=acc.toList++(List.replicate k xs).flatten
 | 0,acc=>by simp
 | k+1,acc=>by rw [List.replicate_succ,List.foldl_cons,lJ xs k,List.replicate_succ];simp
theorem VRs.rep {φ:List Addr} {xs:List V} {ys:List Value} (h:VRs φ xs ys):∀ k:Nat,VRs φ (List.replicate k xs).flatten (List.replicate k ys).flatten
 | 0=>trivial
 | k+1=>by refine rwE List.replicate_succ (rwE List.replicate_succ (rwE List.flatten_cons (rwE List.flatten_cons ?_)));exact h.append (VRs.rep h k)
theorem mE {φ₀:List Addr} {a:Addr} {i:Nat} {k:Int} {u:Tok} (ra:φ₀[i]?=some a):ae C f φ₀ (binaryOp .Mult (.ref a) (.int k u)) (Tr.lift (jT .Mult (.ref i) (.int k))) VR:=by
 refine ae.of fun φ own H m Q X s hp w q=>?_
 (refine bW q fun xs e1 h0 h1 ζ1=>?_;clear q;obtain⟨hz,q⟩:=ζ1)
 (refine ao (w.look e1) fun a' g1 ζ2=>?_;refine aJ ζ2 fun o1 z1 ζ3=>?_;clear ζ2;refine bq ζ3 fun vs n g r1=>?_;clear ζ3)
 rw [ah hp ra] at g1;cases g1
 have hsz:=r1.size
 have hpr:vs.size * k.toNat<=1000000:=by
  have hz':k.toNat * xs.length<=big:=by simpa using hz
  refine rwE (hsz ..) (rwE (Nat.mul_comm ..) ?_);exact hz'
 refine wpAny_binaryOp_repeat_ref (T := "list") (U := "int") (by decide) ⟨_,g,rfl⟩ (fun s'=>typeIs_int s' k u) noFill_list_mul F.fills_int_mul F.slot_int_rmul repeat_list F.slot_int_index.lookup
  (call_meets F.slot_int_rmul (typeIs_int s k u) F.entry_int_rmul (F.args_int_rmul_2 _ _) (int___rmul___int_list k u a vs n)
   ⟨g,rfl,⟨_,g,rfl⟩,call_meets F.slot_list_mul ⟨_,g,rfl⟩ F.entry_list_mul (F.args_list_mul_2 _ _)
    (AutoListH.list___mul___list_int_3 a vs n k u (by rw [DX (Fi h0) (Int.lt_of_le_of_lt h1 (by decide))];decide) (Nat.not_lt.2 (GS hpr (by decide))) ?_)
    ⟨g,?_⟩⟩)
 .simp [Builtin.List.listTooLong,sizeLine]
  exact GS hpr (by decide)
 .refine QP.fF w (xs:=(List.replicate k.toNat xs).flatten) hz ?_ q s.toks
  by_cases hv:vs.isEmpty=true
  .have:xs=[]:=by
    have:vs.size=0:=by simpa using hv
    exact List.length_eq_zero_iff.mp (by simp_all)
   subst this
   refine rwE (if_pos hv) ?_
   refine rwE List.flatten_replicate_nil ?_;exact trivial
  .refine rwE (if_neg hv) ?_
   have:=lJ vs.toList k.toNat #[]
   replace this:=((Array.toArray_toList) ▸ this)
   refine rwE this ?_
   simpa using r1.rep k.toNat
theorem ae.noP {φ₀:List Addr} {t:Sem Value}:ae C f φ₀ t (Tr.lift noP) VR:=fun φ own σ Q X s hp w q=>q.elim
theorem qC {φ₀:List Addr} {i:Nat} {k:Int} {a:Addr} {u:Tok} (ra:φ₀[i]?=some a) (op:Operator):ae C f φ₀ (binaryOp op (.ref a) (.int k u)) (Tr.lift (Ag op i k)) VR:=by
 induction op<;>first | exact ae.noP | exact mE ra
theorem qD {φ₀:List Addr} {i j:Nat} {a b:Addr} (ra:φ₀[i]?=some a) (rb:φ₀[j]?=some b) (op:Operator) (hor:op=.BitOr->qU C f):ae C f φ₀ (binaryOp op (.ref a) (.ref b)) (Tr.lift (Ah op i j)) VR:=by
 induction op<;>first | exact ae.noP | exact mD ra rb | exact hor rfl _ _ _ _ _ ra rb
theorem VR.ref {φ:List Addr} {i:Nat} {y:Value} (r:VR φ (.ref i) y):∃ a,y=.ref a/\φ[i]?=some a:=by
 induction y<;>first | exact r.elim | exact aW _ rfl r
theorem zE {φ₀:List Addr} {op:Operator} (hor:op=.BitOr->qU C f) {a b:V} {va vb:Value} (ra:VR φ₀ a va) (rb:VR φ₀ b vb):ae C f φ₀ (binaryOp op va vb) (Tr.lift (jT op a b)) VR:=by
 induction a with
 | int i =>
  induction b with
  | int j=>obtain⟨t,rfl⟩:=ra.int;obtain⟨u,rfl⟩:=rb.int;exact nU
  | _=>exact ae.noP
 | ref i =>
  (refine ao (ra.ref) fun a ζ4 ga=>?_;obtain rfl:=ζ4)
  induction b with
  | int j=>obtain⟨u,rfl⟩:=rb.int;exact qC ga op
  | ref j=>(refine ao (rb.ref) fun b ζ5 gb=>?_;obtain rfl:=ζ5);exact qD ga gb op hor
  | _=>exact ae.noP
 | _=>exact ae.noP
theorem vX (hor:K.sets->qU C f) {l r:Expr} {op:Operator} {pos:Pos} (hl:aV C K f l) (hr:aV C K f r):aV C K f (.BinOp l op r pos):=by
 intro φ₀
 refine ae.guard (a:=(awE K l f.env.scope f.ro).bind fun a=>(awE K r f.env.scope f.ro).bind fun b=>Tr.lift (jT op a b)) fun hg=>?_
 refine rwE Az ?_
 exact ae.bind (hl φ₀) fun φ va a hp ra=>ae.bind (ae.holding (hr φ)) fun φ' vb b hp' rb=>ae.at (ae.operate (zE (fun e=>hor (hg e)) (ra.mono hp') rb))
theorem vY {c:Const} {k:Nat} {pos:Pos}:aV C K f (.Constant c k pos):=by
 intro φ₀ φ own σ Q X s hp w q
 induction c<;>first | exact q.elim | skip
 .exact wpAny_Constant_none (QP.same w (b:=V.none) trivial q s.toks)
 .exact wpAny_Constant_bool (QP.same w (b:=V.bool _) rfl q s.toks)
 .exact wpAny_Constant_int (QP.same w (b:=V.int _) rfl q _)
 .exact wpAny_Constant_str (QP.same w (b:=V.str _) rfl q _)
theorem qr (ok:a9 C K d) {l r:Expr} {op:CmpOp} {pos:Pos} (hl:aV C K f l) (hr:aV C K f r):aV C K f (.Compare l [op] [r] pos):=by
 intro φ₀
 refine ae.guard (a:=((awE K l f.env.scope f.ro).bind fun a=>(awE K r f.env.scope f.ro).bind fun b=>(Tr.lift (f9 op a b)).bind fun r=>Tr.pure (V.bool r))) fun hb=>?_
 refine rwE AA ?_
 refine ae.bind (hl φ₀) fun φ va a hp ra=>?_
 have e:markedEach [op] [r] (evalEach [r] f.env)=[eval r f.env]:=by
  refine (?_:[markedBehindIn op r (eval r f.env)]=_)
  unfold markedBehindIn
  exact rwE hb rfl
 refine rwE e ?_
 exact ae.bind (ae.holding (hr φ)) fun φ' vb b hp' rb=>ae.at (ae.operate ((tO ok (ra.mono hp') rb).mapR fun _ _ _ e=>by subst e;exact rfl))
theorem BR {x:Expr} {pos:Pos} (hx:aV C K f x):aV C K f (.UnaryOp .Not x pos):=by
 intro φ₀
 refine rwE AB ?_
 refine (?_:ae C f φ₀ _ ((awE K x f.env.scope f.ro).bind fun a=>fun σ Q _=>∃ b,gJ σ.H a=some b/\Q (.bool !b) σ) VR)
 refine ae.bind (hx φ₀) fun φ va a hp ra=>ae.at (ae.holding ?_)
 refine (?_:ae C f φ (holding [va] (do return Value.bool (!(<- truthy va)))) _ _)
 refine ae.holding ?_
 intro φ1 own σ Q X s hp1 w q
 refine ao q fun b hb q=>?_
 refine wpAny_bind (wpAny_mono (jG (ra.mono hp1) φ1 own σ (fun r σ'=>Q (.bool !r) σ') X s (GZ _) w ⟨b,hb,q⟩) ?_ fun _ _ x=>x)
 rintro v s1 ⟨φ2,own2,σ2,r,k2,w2,rfl,q2⟩
 exact wpAny_pure ⟨φ2,own2,σ2,.bool !v,k2,w2,rfl,q2⟩
theorem vZ {x:Str} {p pos:Pos} {v:Expr} (hv:aV C K f v) (hs:∀ φ a va,VR φ a va->ae C f φ (assign (.Name x p) f.env va) (bI f.env.scope f.ro x a) (fun _ _ _=>True)):aV C K f (.NamedExpr (.Name x p) v pos):=by
 intro φ₀
 refine rwE uT ?_
 refine (?_:ae C f φ₀ _ ((awE K v f.env.scope f.ro).bind fun a=>(bI f.env.scope f.ro x a).bind fun _=>Tr.pure a) VR)
 exact ae.bind (hv φ₀) fun φ va a hp ra=>ae.bind (ae.holding (hs φ a va ra)) fun φ' _ _ hp' _=>ae.pure fun F9 hp''=>(ra.mono hp').mono hp''
theorem BQ {i:Int} {k:Nat} {p pos:Pos}:aV C K f (.UnaryOp .USub (.Constant (.int i) k p) pos):=by
 intro φ₀ φ own σ Q X s hp w q
 refine rwE AB ?_
 refine wpAny_bind (wpAny_Constant_int (wpAny_bind (wpAny_standAt (wpAny_holding ?_))))
 exact P.neg_int (QP.same w (b:=V.int (-i)) rfl q _)
structure jm (B:Base) (K:Cfg):Prop where
 ng:B.Fw.Ns mainGlobals B.mg
 nb:B.Fw.Ns builtinsNs B.mb
 glob:∀ x v,K.glob x=some v->∃ y,VR [] v y/\(B.mg x=some y\/(B.mg x=none/\B.mb x=some y))
theorem Ns.stays {h h':Heap} {a:Addr} {m:Str->Option Value} (n:h.Ns a m) (k:h.StaysIn h'):h'.Ns a m:=by
 (refine eE n fun o es ep ζ6=>?_;clear n;obtain⟨g,r⟩:=ζ6)
 exact⟨o,es,ep,k _ _ g,r⟩
theorem VRo.some {φ:List Addr} {v:V} {y:Option Value} (r:VRo φ (some v) y):∃ z,y=some z/\VR φ v z:=by
 induction y with
 | none=>exact r.elim
 | some z=>exact aW z rfl r
theorem pI (bo:jm C.B K) {x:Str} (hx:(x == ("__classdict__" : Str))=false) (φ₀:List Addr):ae C f φ₀ (loadName f.env x) (bH K f.env.scope x) VR:=by
 intro φ own σ Q X s hp w q
 have hk:=w.eok.kind
 unfold bH at q
 induction hl:f.env.scope.names.lookup x with
 | none=>rw [hl] at q;exact q.elim
 | some kd =>
  rw [hl] at q
  have hko:f.env.kindOf x=some kd:=hl
  induction kd with
  | «local» =>
   refine ao q fun v hv q=>?_
   refine ao (w.fr.ns) fun ml hn hm=>?_
   refine ao (hm x hko v hv) fun z hz rz=>?_
   exact wpAny_loadName_local hk hko hn hz (QP.same w (b:=v) rz q s.toks)
  | cell =>
   refine ao q fun v hv q=>?_
   refine fh (w.fr.cell x (.inl hko)) fun c y hc hi r=>?_
   (refine ao (r v hv) fun z ζ7 rz=>?_;obtain rfl:=ζ7)
   exact wpAny_loadName_cell hk hko hc hi (QP.same w (b:=v) rz q s.toks)
  | free =>
   refine ao q fun v hv q=>?_
   refine fh (w.fr.cell x (.inr hko)) fun c y hc hi r=>?_
   (refine ao (r v hv) fun z ζ8 rz=>?_;obtain rfl:=ζ8)
   exact wpAny_loadName_free hk hko hc hi (QP.same w (b:=v) rz q s.toks) hx
  | globalImplicit =>
   refine ao q fun v hv q=>?_
   refine ao (bo.glob x v hv) fun y ry h=>?_
   have ry:VR φ v y:=ry.mono (List.nil_prefix)
   have hg:s.heap.Ns f.env.globals C.B.mg:=by refine rwE w.eok.globals ?_;exact Ns.stays bo.ng w.stays
   have hb:s.heap.Ns f.env.builtins C.B.mb:=by refine rwE w.eok.builtins ?_;exact Ns.stays bo.nb w.stays
   refine PySem.W.ks_loadName_global hk hko ?_
   rcases h with h | ⟨h1,h2⟩
   .exact Calls.loadGlobal_global hg h (QP.same w (b:=v) ry q s.toks)
   .exact Calls.loadGlobal_builtin hg h1 hb h2 (QP.same w (b:=v) ry q s.toks)
  | _=>exact q.elim
theorem zm (bo:jm C.B K) {x:Str} {pos:Pos} (hx:(x == ("__classdict__" : Str))=false) (hd:(x == ("__debug__" : Str))=false):aV C K f (.Name x pos):=by
 intro φ₀
 refine rwE xZ ?_
 refine ae.at ?_
 refine rwE hd ?_
 exact pI bo hx φ₀
end
end Mine
namespace Mine
open PySem
theorem fO {h h' base:Heap} {c:Addr} {l:List Env} (hl:h.FunFrames base l) (hs:Heap.SameBut c h h') (hd:∃ o,h'.get? c=some o/\∀ v,o.data≠.fields v):h'.FunFrames base l:=by
 induction l with
 | nil=>trivial
 | cons env rest ih =>
  (refine aJ hl fun hk ζ1 hr=>?_;clear hl;obtain⟨L,o,hf,hn,ho,hd0⟩:=ζ1)
  refine⟨hk,?_,ih hr⟩
  by_cases hL:L=c
  .subst hL
   (refine ao hd fun o' h1 h2=>?_;clear hd)
   exact D5 L o' hf hn h1 h2
  .exact D5 L o hf hn (by refine (hs.2 L hL).trans ?_;exact ho) hd0
theorem W.store {B:Base} {fs:List Env} {f:Fm} {φ:List Addr} {own:Addr->Option Nat} {H:List O} {m m':Str->Option V} {s:Shared} (w:W B fs f φ own H m s) {h':Heap} {c:Addr}
  (hs:Heap.SameBut c s.heap h') (hc:Cur f c) (hfr:FR φ f.env m' h') (hd:∃ o,h'.get? c=some o/\∀ v,o.data≠.fields v) (tk:Nat) :
  W B fs f φ own H m' { s with heap:=h',toks:=tk }:=by
 have hcn:B.Fw.get? c=none:=by
  rcases hc with e | ⟨n,_,e,_⟩
  .refine rwE e ?_;exact w.eok.locNew
  .exact w.eok.cellNew n c e
 have hco:own c=none:=by
  rcases hc with e | ⟨n,_,e,_⟩
  .refine rwE e ?_;exact w.ownLoc
  .exact (w.ownCell n c e).1
 refine⟨w.eok,w.len,fun i o a e1 e2=>(w.obj i o a e1 e2).keep (GZ _) (fun _ x=>x) (fun b ob x e=>?_),fun b o e=>?_,fun b i x=>?_,w.ownFr,w.ownLoc,fun x b hb=>?_,?_,hfr,w.gens,w.os,w.fas⟩
 .refine (hs.2 b (by intro e;subst e;rw [hco] at x;exact nS x)).trans ?_;exact e
 .refine (hs.2 b (by intro e';subst e';rw [hcn] at e;exact nS e)).trans ?_;exact w.stays b o e
 .refine aJ (w.ownNew b i x) fun x1 x2 x3=>?_
  obtain⟨o,e⟩:=x2
  exact⟨x1,⟨o,(hs.2 b (by intro e';subst e';rw [hco] at x;exact nS x)).trans e⟩,x3⟩
 .obtain⟨x1,o,e⟩:=w.ownCell x b hb
  refine⟨x1,?_⟩
  by_cases hbc:b=c
  .subst hbc;(refine ao hd fun o' e' _=>?_;clear hd);exact⟨o',e'⟩
  .exact⟨o,(hs.2 b hbc).trans e⟩
 .exact fO w.frames hs hd
theorem kW {f:Fm} {φ:List Addr} {own:Addr->Option Nat} {h h':Heap} {c:Addr} (hs:Heap.SameBut c h h') (hc:Cur f c) (hl:∃ o,h'.get? c=some o):Kp f φ own h φ own h':=
 ⟨GZ _,fun _ _ _=>rfl,fun b o e=>aM (P:=fun _=>True) hs hl b o trivial e,fun b o e _ hn=>⟨o.slots,by refine (hs.2 b (by intro e';subst e';exact hn hc)).trans ?_;exact e⟩,fun b o e _ hn _=>by refine (hs.2 b (by intro e';subst e';exact hn hc)).trans ?_;exact e⟩
section
variable {C:Ctx} {f:Fm} {K:Cfg} {d:Nat}
theorem ja {x:Str} {v:V} {z:Value} {φ₀:List Addr} (rv:VR φ₀ v z):ae C f φ₀ (storeName f.env x z) (bI f.env.scope f.ro x v) (fun _ _ _=>True):=by
 intro φ own σ Q X s hp w q
 refine aJ q fun hx hk q=>?_
 have rv:=rv.mono hp
 have hkind:=w.eok.kind
 refine ao (w.fr.ns) fun ml hn hm=>?_
 rcases hk with hk | hk
 .have hko:f.env.kindOf x=some .local:=hk
  refine wpAny_storeName_local hko hn (fun h' hn' hs=>?_) (by refine rwE hkind ?_;rfl)
  refine⟨φ,own,σ.put x v,(),kW hs (.inl rfl) (let ⟨o,_,_,e,_⟩:=hn';⟨o,e⟩),w.store hs (.inl rfl) ⟨⟨_,hn',fun y hy=>?_⟩,fun y hy=>?_⟩ ?_ _,trivial,q⟩
  .refine (?_:VRp φ (if y=x then some v else σ.m y) (if y=x then some z else ml y))
   by_cases hyx:y=x
   .simp only [hyx,if_true];exact VRo.vrp (x:=some v) (y:=some z) rv
   .simp only [if_neg hyx];exact hm y hy
  ·(refine fh (w.fr.cell y hy) fun c u hc ζ3 r=>?_;obtain⟨o,ho,hd⟩:=ζ3)
   refine jk c u hc ⟨o,by refine (hs.2 c (w.eok.cellNe y c hc)).trans ?_;exact ho,hd⟩ ?_
   refine (?_:VRp φ (if y=x then some v else σ.m y) u)
   refine rwE (if_neg (by intro e;subst e;rw [hko] at hy;rcases hy with hy | hy<;>contradiction)) ?_
   exact r
  ·(refine eE hn' fun o' es ep ζ4=>?_;clear hn';refine aJ ζ4 fun ho' hd' _=>?_;clear ζ4)
   exact aW o' ho' (fun v e=>by rw [hd'] at e;exact Data.noConfusion e)
 .have hko:f.env.kindOf x=some .cell:=hk
  refine fh (w.fr.cell x (.inl hko)) fun c u hc hi r=>?_
  have hcur:Cur f c:=.inr ⟨x,hx,hc,hko⟩
  refine wpAny_storeName_cell hkind hko hc hi fun h' hi' hs=>?_
  refine⟨φ,own,σ.put x v,(),kW hs hcur (let ⟨o,e,_⟩:=hi';⟨o,e⟩),w.store hs hcur ⟨⟨ml,?_,fun y hy=>?_⟩,fun y hy=>?_⟩ ?_ s.toks,trivial,q⟩
  .exact hn.sameBut hs (Ne.symm (w.eok.cellNe x c hc))
  .refine (?_:VRp φ (if y=x then some v else σ.m y) (ml y))
   refine rwE (if_neg (by intro e;subst e;rw [hko] at hy;contradiction)) ?_;exact hm y hy
  .refine (?_:∃ c' v',_/\_/\VRp φ (if y=x then some v else σ.m y) v')
   by_cases hyx:y=x
   .subst hyx
    exact jk c (some z) hc hi' (by simp only [if_true];exact VRo.vrp (x:=some v) (y:=some z) rv)
   ·(refine fh (w.fr.cell y hy) fun c2 u2 hc2 ζ5 r2=>?_;obtain⟨o,ho,hd⟩:=ζ5)
    refine jk c2 u2 hc2 ⟨o,by refine (hs.2 c2 (by intro e;subst e;exact hyx (w.eok.apart y x _ hc2 hc))).trans ?_;exact ho,hd⟩ ?_
    refine rwE (if_neg hyx) ?_;exact r2
  ·(refine ao hi' fun o' ho' hd'=>?_;clear hi')
   exact aW o' ho' (fun v e=>by rw [hd'] at e;exact Data.noConfusion e)
theorem bT {x:Str} {p:Pos} {v:V} {z:Value} {φ₀:List Addr} (rv:VR φ₀ v z):ae C f φ₀ (assign (.Name x p) f.env z) (bI f.env.scope f.ro x v) (fun _ _ _=>True):=by
 refine rwE xD ?_
 refine ae.at ?_
 intro φ own σ Q X s hp w q
 exact wpAny_bindName (ja rv φ own σ Q X s hp w q)
theorem nX {xs:List V} {vs:List Value} {φ₀:List Addr} (r:VRs φ₀ xs vs):ae C f φ₀ (PySem.newList vs) (Tr.lift (newList xs)) VR:=by
 refine ae.of fun φ own H m Q X s hp w q=>?_
 exact wpAny_newList (QP.fF w (vs:=vs.toArray) q.1 (r.mono hp) q.2 s.toks) (by refine rwS r.length ?_;exact GS q.1 cG)
theorem mF {xs:List V} {vs:List Value} {φ₀:List Addr} (r:VRs φ₀ xs vs):ae C f φ₀ (PySem.newTuple vs) (Tr.lift (newTuple xs)) VR:=by
 refine ae.of fun φ own H m Q X s hp w q=>?_
 exact wpAny_newTuple (QP.iX w (vs:=vs.toArray) q.1 (r.mono hp) q.2 s.toks) (by refine rwS r.length ?_;exact GS q.1 cG)
noncomputable def pS (C:Ctx) (K:Cfg) (f:Fm) (es:List Expr):Prop:=∀ φ₀ pos,ae C f φ₀ (spliced (backTo pos (starEach es f.env))) (mY K es f.env.scope f.ro) VRs
theorem zp:pS C K f []:=fun φ₀ pos=>ae.pure fun φ hp=>trivial
theorem v9 {e:Expr} {es:List Expr} (he:aV C K f e) (hs:pS C K f es):pS C K f (e::es):=by
 intro φ₀ pos
 refine rwE (show mY K (e::es) f.env.scope f.ro=if isStar e then fun _ _ _=>False else (awE K e f.env.scope f.ro).bind fun v=>(mY K es f.env.scope f.ro).bind fun vs=>Tr.pure (v::vs) from rfl) ?_
 by_cases hst:isStar e=true
 .refine rwE (if_pos hst) ?_;exact ae.false
 .refine rwE (if_neg hst) ?_
  have e1:starEach (e::es) f.env=(false,eval e f.env)::starEach es f.env:=by
   cases e<;>first | rfl | exact absurd rfl hst
  refine rwE e1 ?_
  refine (?_:ae C f φ₀ (spliced ((false,eval e f.env)::backTo pos (starEach es f.env))) _ _)
  rw [spliced]
  refine ae.bind (he φ₀) fun φ v b hp r=>?_
  dsimp only [Bool.false_eq_true,if_false]
  refine ae.bindL (t:=pure [v]) [v] (fun Q E s q=>wpAny_pure q) ?_
  exact ae.bind (ae.holding (hs φ pos)) fun φ' vs bs hp' rs=>ae.pure fun F9 hp''=>⟨(r.mono hp').mono hp'',rs.mono hp''⟩
theorem zl {es:List Expr} {pos:Pos} (h:pS C K f es):aV C K f (.List es pos):=by
 intro φ₀
 refine rwE xY ?_
 exact ae.at (ae.bind (h φ₀ pos) fun φ vs xs hp r=>nX r)
theorem v7 {es:List Expr} {k:Nat} {pos:Pos} (h:pS C K f es):aV C K f (.Tuple es k pos):=by
 intro φ₀
 refine rwE uU ?_
 exact ae.at (ae.bind (h φ₀ pos) fun φ vs xs hp r=>mF r)
end
end Mine
namespace Mine
open PySem
section
variable {C:Ctx} {f:Fm} {K:Cfg} {d:Nat}
theorem kj {φ:List Addr} {own:Addr->Option Nat} {H:List O} {m:Str->Option V} {s:Shared} {B:Base} {fs:List Env} (w:W B fs f φ own H m s) {o i:V} {vo:Value} (r:VR φ o vo) {Q X}
  (q:ba o i H Q X):∃ T id,typeLookup (.type T) "__getitem__" = pure (some (.builtin id))/\s.TypeIs vo T:=by
 induction o with
 | ref x =>
  induction i with
  | int k =>
   have q:H[x]?.elim False (giO k Q H):=q
   induction ho:H[x]? with
   | none=>rw [ho] at q;exact q.elim
   | some ob =>
    rw [ho] at q
    (refine ao (w.at ho r) fun al ζ1 ζ2=>?_;obtain rfl:=ζ1;obtain⟨g,ro⟩:=ζ2)
    induction ob with
    | list xs=>(refine aJ ro fun o1 hz ζ3=>?_;clear ro;refine bq ζ3 fun vs n g1 r1=>?_;clear ζ3);exact wV ("list") _ slot_list_getitem.lookup ⟨_,g1,rfl⟩
    | dict es n=>(refine aJ ro fun o1 o2 ζ4=>?_;clear ro;refine ao ζ4 fun kvs hD hK=>?_;clear ζ4);exact wV ("dict") _ slot_dict_getitem.lookup hD.dictOf.typeIs
    | _=>exact q.elim
  | _=>exact q.elim
 | _=>exact q.elim
theorem mu {value slice:Expr} {pos:Pos} (hn:aF slice=false) (hv:aV C K f value) (hi:aV C K f slice) :
  ∀ φ₀,ae C f φ₀ (eval (.Subscript value slice pos) f.env) ((awE K value f.env.scope f.ro).bind fun ov=>(awE K slice f.env.scope f.ro).bind fun iv=>Tr.lift (ba ov iv)) VR:=by
 intro φ₀
 refine rwE (eval_Subscript ..) ?_
 refine ae.bind (hv φ₀) fun φ vo o hp ro=>ae.bind (ae.holding (hi φ)) fun φ' vi i hp' ri=>ae.at ?_
 intro φ1 own σ Q X s hp1 w q
 refine bq (kj w ((ro.mono hp').mono hp1) q) fun T id hl hT=>?_
 refine rwE (getitemInPython_of_ne hT.not_modules) ?_
 refine wpAny_bind (wpAny_bind (wpAny_specialOf hT hl (wpAny_pure ?_)))
 have e:subscripted slice false vo vi=operate [vo,vi] (getItem vo vi):=by
  cases slice<;>first | rfl | (exfalso;exact Bool.noConfusion hn)
 refine rwE e ?_
 refine wpAny_bind (wpAny_operating (wpAny_mono (i7 (ro.mono hp') ri φ1 own σ Q X s hp1 w q) ?_ fun _ _ x=>x))
 intro r s2 h2
 exact wpAny_bind (wpAny_letTemporaryGo (wpAny_pure h2))
noncomputable def xu (C:Ctx) (K:Cfg) (f:Fm) (e:Option Expr):Prop:=∀ φ₀,ae C f φ₀ (evalPart e f.env) (awO K e f.env.scope f.ro) VR
theorem zr:xu C K f none:=fun φ₀=>ae.pure fun φ hp=>trivial
theorem zt {e:Expr} (h:aV C K f e):xu C K f (some e):=h
theorem part_of {φ:List Addr} {a:V} {va:Value} {l:Option Int} (r:VR φ a va) (h:l0 a=some l):IsPart va l:=by
 induction a<;>first | (first | cases h | exact nS h) | skip
 .refine rwE r.none ?_;exact .none
 .obtain⟨t,rfl⟩:=r.int;exact .int _ t
theorem bY {C:Ctx} {f:Fm} {φ:List Addr} {own:Addr->Option Nat} {h h':Heap} (q:Quiet own C.B.Fw h h'):Kp f φ own h φ own h':=q.kp (B:=C.B)
theorem n9 {φ:List Addr} {own:Addr->Option Nat} {H:List O} {m:Str->Option V} {s:Shared} {B:Base} {fs:List Env} (w:W B fs f φ own H m s) {i:Nat} {vo:Value} {xs:List V} (r:VR φ (.ref i) vo)
  (h:H[i]?=some (.list xs)\/H[i]?=some (.frozen xs)):∃ a vs,vo=.ref a/\s.heap.IsList a vs/\VRs φ xs vs.toList:=by
 rcases h with h | h
 ·(refine ao (w.at h r) fun al ζ5 ζ6=>?_;obtain rfl:=ζ5;obtain⟨g,ζ7⟩:=ζ6;refine aJ ζ7 fun o1 hz ζ8=>?_;clear ζ7;refine bq ζ8 fun vs n g1 r1=>?_;clear ζ8)
  exact jk al vs rfl (aH g1) r1
 ·(refine ao (w.at h r) fun al ζ9 Ft=>?_;obtain rfl:=ζ9;obtain⟨g,Fp⟩:=Ft;refine ao Fp fun vs g1 r1=>?_;clear Fp)
  (refine ao g1 fun o g2 g3=>?_;clear g1)
  exact jk al vs rfl ⟨o,w.stays _ _ g2,g3⟩ r1
theorem v5 {value:Expr} {lower upper:Option Expr} {p pos:Pos} (hv:aV C K f value) (hl:xu C K f lower) (hu:xu C K f upper) :
  ∀ φ₀,ae C f φ₀ (eval (.Subscript value (.Slice lower upper none p) pos) f.env) ((awE K value f.env.scope f.ro).bind fun ov=>(awO K lower f.env.scope f.ro).bind fun l=>(awO K upper f.env.scope f.ro).bind fun h=>Tr.lift (pK ov l h)) VR:=by
 intro φ₀ φ own σ Q X s hp w q
 refine rwE (eval_Subscript ..) ?_
 refine wpAny_bind (wpAny_mono (hv φ φ own σ _ X s (GZ _) w q) ?_ fun _ _ x=>x)
 rintro vo s1 ⟨φ1,own1,σ1,o,k1,w1,r1,q1⟩
 refine wpAny_bind (wpAny_holding (wpAny_Slice ?_))
 refine wpAny_mono (hl φ1 φ1 own1 σ1 _ X s1 (GZ _) w1 q1) ?_ fun _ _ x=>EP.after k1 x
 rintro vl s2 ⟨φ2,own2,σ2,l,k2,w2,r2,q2⟩
 refine wpAny_mono (hu φ2 φ2 own2 σ2 _ X s2 (GZ _) w2 q2) ?_ fun _ _ x=>EP.after (k1.trans k2) x
 rintro vh s3 ⟨φ3,own3,σ3,h,k3,w3,r3,q3⟩
 have k:=k1.trans (k2.trans k3)
 refine wpAny_pure (wpAny_bind (wpAny_standAt ?_))
 (refine gP q3 fun i xs lo hi Fx=>?_;clear q3;obtain⟨Fy,Fz⟩:=Fx;obtain rfl:=Fy;refine lg Fz fun hobj hz hlo hhi hb1 hb2 q3=>?_;clear Fz)
 (refine bq (n9 w3 ((r1.mono k2.pre).mono k3.pre) hobj) fun a vs FD FE=>?_;obtain rfl:=FD;obtain⟨hL,hr⟩:=FE)
 have hq:Quiet own3 C.B.Fw s3.heap (s3.heap.push { cls:=.type "slice",data:=.fields #[vl,vh,.none] }):=Quiet.push w3.stays _
 have w4:=w3.quiet hq s3.toks
 have hL':(s3.heap.push { cls:=.type "slice",data:=.fields #[vl,vh,.none] }).IsList a vs:=by
  (refine ao hL fun ob g r=>?_;clear hL);exact⟨ob,Heap.get?_push_of_some _ g,r⟩
 have hT:Shared.TypeIs { s3 with heap:=s3.heap.push { cls:=.type "slice",data:=.fields #[vl,vh,.none] } } (.ref a) "list" :=by
  (refine d8 hL' fun ob g r _=>?_;clear hL');exact⟨ob,g,r⟩
 refine rwE (getitemInPython_of_ne hT.not_modules) ?_
 refine wpAny_bind (wpAny_bind (wpAny_specialOf hT slot_list_getitem.lookup (wpAny_pure ?_)))
 refine (?_:wpAny _ _ (operate [_,Value.ref a] (getItem (.ref a) _) >>= _) _ _ _)
 refine wpAny_bind (wpAny_operating (wpAny_getItem_list_slice hL' (Heap.IsSliceOf.new _ vl vh .none) (part_of (r2.mono k3.pre) hlo) (part_of r3 hhi) .none (by trivial) ?_ (by refine rwE hr.size ?_;exact GS hz cG)))
 refine wpAny_bind (wpAny_letTemporaryGo (wpAny_pure ?_))
 refine QP.after (k.trans (bY hq)) (QP.fF w4 (xs:=sliceOf xs lo hi) q3.1 ?_ q3.2 s3.toks)
 refine rwE (slicePick_plain ..) ?_
 have hsz:=hr.size
 refine (?_:VRs φ3 (sliceOf xs lo hi) _)
 unfold sliceOf
 refine rwE hsz ?_
 exact (hr.drop _).take _
end
end Mine
namespace Mine
open PySem PyProof.Rows
theorem str_beq (a b:Str):(a == b)=decide (b=a):=by
 by_cases h:b=a
 .subst h;refine rwE (decide_eq_true rfl) ?_;exact beq_self_eq_true _
 .refine rwE (decide_eq_false h) ?_;exact beq_eq_false_iff_ne.mpr (fun e=>h e.symm)
theorem gE {name:Str} {hh:Int} {tk:Tok} {v:Value} {c:Value} {d:Option Addr} {es:Array DictEntry} {n:Nat} {sl:Array (Option Value)} (hk:StrKeys es) (hu:UniqKeys es) :
  ∃ es' n',Obj.putName name hh (.str name tk) v ⟨c,d,.dict es n,sl⟩=⟨c,d,.dict es' n',sl⟩/\StrKeys es'/\UniqKeys es'/\es'.size<=es.size+1/\∀ x,nsFind es' x=if x=name then some v else nsFind es x:=by
 refine rwE Obj.putName_eq ?_
 unfold Obj.putNameByArray
 dsimp only
 induction hi:es.findIdx? (·.key.isStr name) with
 | some i=>exact zT _ n rfl (hk.modify i v) (hu.modify i v) (by refine rwE Array.size_modify ?_;exact Nat.le.step Nat.le.refl) (fun x=>findBy_modify (fun n v=>v.isStr n) Value.isStr_inj es name x v i hi)
 | none=>exact zT _ (n+1) rfl (hk.push _ _ _ _) (hu.push _ _ _ _ hi) (by refine rwE (Array.size_push ..) ?_;exact Nat.lt_succ_self _) (fun x=>findBy_push (fun n v=>v.isStr n) es name x _ _ v (fun y=>str_beq name y) hi)
theorem lV {name:Str} {o:Obj} {es:Array DictEntry} {n:Nat} (hd:o.data=.dict es n) (hk:StrKeys es):PySem.W.lookIn name o=some (nsFind es name):=by
 unfold PySem.W.lookIn
 refine rwE hd ?_
 dsimp only
 delta nsFind findBy
 refine rwS (Array.find?_toList) ?_
 induction hf:es.toList.find? (·.key.isStr name) with
 | some e=>simp
 | none =>
  have:es.toList.any (·.refKey)=false:=by
   refine Iff.mpr List.any_eq_false ?_;intro e he
   refine pZ (hk e (Array.mem_toList_iff.mp he)) fun k t h=>?_
   simp [DictEntry.refKey,h]
  simp [this]
theorem qH {es:Array DictEntry} {l:List Str} (hk:StrKeys es) (hu:UniqKeys es) (h:∀ x,nsFind es x≠none->x∈l):es.size<=l.length:=by
 have h1:=length_le_of_nodup_of_subset (es.toList.map DictEntry.name) l (names_nodup hk hu) fun a ha=>by
  (refine ao (List.mem_map.mp ha) fun e he ζ1=>?_;obtain rfl:=ζ1)
  refine h _ ?_
  refine pZ (hk e (Array.mem_toList_iff.mp he)) fun n t hn=>?_
  have:DictEntry.name e=n:=by unfold DictEntry.name;exact rwE hn rfl
  refine rwE this ?_
  delta nsFind findBy
  intro hc
  rw [Option.map_eq_none_iff,Array.find?_eq_none] at hc
  exact hc e (Array.mem_toList_iff.mp he) (by refine rwE hn ?_;exact beq_self_eq_true n)
 simpa using h1
inductive qO (K:PySem.W.Frag) (c:Addr) (name:Str) (at':List Str):Option (List Str)->Prop
 | dict (cd:ClassData):PySem.W.clsIn K c=some cd->cd.hasDict=true->PySem.W.findIn K (.ref c) name=some none->PySem.W.takerIn K c name=some none->name∈at'->qO K c name at' none
 | slot (names:List Str) (p:Addr) (i:Nat):PySem.W.findIn K (.ref c) name=some (some (.ref p))->(∀ od,PySem.W.findObj K c od name=some (.bind (.builtin "member_descriptor.__get__") (.ref p))) ->
   PySem.W.slotIn K p c=some i->names[i]?=some name->names.Nodup->PySem.W.takerIn K c name=some (some (.ref p))->PySem.W.typeIn K (.ref p)=some (.type "member_descriptor")->qO K c name at' (some names)
structure bB (B:Base) (K:Cfg):Prop where
 count:∀ c k,B.cls c=some k->k.attrs.length<=100
 inH:B.K.In B.Fw
 attr:∀ c name,K.attr c name=true->∃ k,B.cls c=some k/\qO B.K c name k.attrs k.slots /\
  PySem.W.findIn B.K (.ref c) "__getattribute__" = some (some (.builtin "object.__getattribute__"))/\PySem.W.findIn B.K (.ref c) "__getattr__" = some none /\
  PySem.W.findIn B.K (.ref c) "__setattr__" = some (some (.builtin "object.__setattr__"))/\PySem.W.plainOver B.K c=true
theorem In.stays {K:PySem.W.Frag} {h h':Heap} (x:K.In h) (k:h.StaysIn h'):K.In h':=fun p o e=>k _ _ (x p o e)
theorem lM {φ:List Addr} {v:V} {y:Value} (r:VR φ v y) (h:BA v=true):PySem.W.handedIn y=true:=by
 induction v<;>induction y<;>first | exact r.elim | rfl | exact Bool.noConfusion h
section
variable {C:Ctx} {f:Fm} {K:Cfg} {d:Nat}
theorem nW (co:bB C.B K) {φ₀:List Addr} {o:V} {vo:Value} {name:Str} {ex:Bool} (ro:VR φ₀ o vo) :
  ae C f φ₀ (getAttr vo name ex) (Tr.lift fun H Q X=>∃ i c fs v,o=.ref i/\H[i]?=some (.inst c fs)/\K.attr c name=true/\fs name=some v/\BA v=true/\Q v H) VR:=by
 refine ae.of fun φ own H m Q X s hp w q=>?_
 (refine gP q fun i c fs v ζ2=>?_;clear q;obtain⟨ζ3,ζ4⟩:=ζ2;obtain rfl:=ζ3;refine rH ζ4 fun ho ha hv hb q=>?_;clear ζ4)
 (refine ao (w.at ho (ro.mono hp)) fun al ζ5 ζ6=>?_;obtain rfl:=ζ5;obtain⟨g,ζ7⟩:=ζ6;obtain⟨o1,ζ8⟩:=ζ7;refine ao ζ8 fun k hk r=>?_;clear ζ8)
 (refine bW (co.attr c name ha) fun k' hk' hA hga ζ9=>?_;refine aJ ζ9 fun hgt hsa hpo=>?_;clear ζ9)
 rw [hk] at hk';cases hk'
 have X0:=In.stays co.inH w.stays
 revert r hA
 induction hs:k.slots with
 | none =>
  intro r hA
  obtain⟨dd,es,n,od,hda,hx,hd,hst,huq,hsz,hm⟩:=r
  cases hA with
  | dict cd h1 h2 h3 h4 h5 =>
   have hvv:=hm name
   rw [hv] at hvv
   refine ao (VRo.some hvv) fun z hz rz=>?_
   have I:PySem.W.InstAt s.heap al (PySem.W.instObj c dd) c (some { cls:=.type "dict",dict:=none,data:=.dict es n,slots:=#[] }):=⟨hx,rfl,rfl,hd⟩
   refine PySem.W.get_value X0 I hga (v:=z) ?_ (lM rz hb) (QP.same w (b:=v) rz q _)
   delta PySem.W.findObj PySem.W.ownOf
   simp [h1,h2,h3,lV (name:=name) (o:={ cls:=.type "dict",dict:=none,data:=.dict es n,slots:=#[] }) rfl hst,hz]
 | some names =>
  intro r hA
  obtain⟨sl,dd,wd,hda,gd,hx,hsz,hm,hn⟩:=r
  cases hA with
  | slot _ p j h1 h2 h3 h4 h5 h6 h7 =>
   have hvv:=hm name j h4
   rw [hv] at hvv
   refine ao (VRo.some hvv) fun z hz rz=>?_
   have I:PySem.W.InstAt s.heap al { cls:=.ref c,dict:=some dd,data:=.plain,slots:=sl } c (some PySem.W.emptyDict):=⟨hx,rfl,rfl,gd⟩
   refine PySem.W.get_bind X0 I hga (h2 _) hgt ?_
   refine wpAny_call (PySem.W.slot_get (s:={ s with toks:=s.toks+1 }) X0 I h3 hz ?_)
   refine (?_:wpAny _ _ (handedOut z) _ _ _)
   refine rwE (PySem.W.handedOut_of (lM rz hb)) ?_
   exact wpAny_pure (QP.same w (b:=v) rz q _)
theorem BI {prog:Program} {w:World} {A:Around} {F:PySem.W.Frag} {c x dx:Addr} {s:Shared} {R:Result->Shared->Prop} {ox od:Obj} {name:Str} {tk:Tok} {v:Value} {es:Array DictEntry} {n:Nat} (X:F.In s.heap)
  (I:PySem.W.InstAt s.heap x ox c (some od)) (hd:ox.dict=some dx) (hp:PySem.W.plainOver F c=true) (ht:PySem.W.takerIn F c name=some none) (hh:(PySem.W.clsIn F c).any (·.hasDict)=true)
  (D:s.heap.get? dx=some od) (e:od.data=.dict es n) (hk:StrKeys es) (hu:UniqKeys es) (hz:es.size<=1000)
  (h:R (.ok (.ret .none)) { s with heap:=s.heap.update dx (Obj.putName name (PyData.keyHash w.params name) (.str name s.toks) v),toks:=s.toks+1 }) :
  codeAny (model prog w) A (.call (.builtin "object.__setattr__") ⟨[.ref x,.str name tk,v],[]⟩) R s:=by
 refine PySem.W.osa_open X I hp ht fun b=>?_
 refine ao (PySem.W.any_some hh) fun cd hc hd'=>?_
 obtain⟨hx,hcl,hn,-⟩:=I
 obtain⟨oc,odi,oda,osl⟩:=ox
 dsimp only at hcl hd
 subst hcl hd
 refine wpAny_bind (wpAny_pure (wpAny_bind (wpAny_bind (wpAny_loadPart hx (wpAny_bind ((PySem.W.looks_clsIn X hc).here ?_))))))
 refine rwE hd' ?_
 refine wpAny_pure (a:=some dx) (wpAny_bind (wpAny_pure (wpAny_bind ?_)))
 unfold nsSet
 refine wpAny_bind (wpAny_bind (wpAny_askSetting (wpAny_pure (wpAny_bind (wpAny_mkText (wpAny_bind (wpAny_loadPart D ?_)))))))
 refine rwE e ?_
 dsimp only
 have hany:es.any (·.refKey)=false:=by
  refine Iff.mpr Array.any_eq_false' ?_;intro e he;refine pZ (hk e he) fun n t h=>?_;simp [DictEntry.refKey,h]
 refine rwE (aRefKeyMayBeTheName_at ..) (rwE (hany ..) (rwE (Bool.and_false ..) ?_))
 refine wpAny_updatePart D ?_
 obtain⟨oc',odi',oda',osl'⟩:=od
 dsimp only at e
 subst e
 (refine jh (gE (name:=name) (hh:=PyData.keyHash w.params name) (tk:=s.toks) (v:=v) (c:=oc') (d:=odi') (n:=n) (sl:=osl') hk hu) fun es' n' e1 e2 e2u Ft=>?_;obtain⟨e3,e4⟩:=Ft)
 refine wpAny_bind (wpAny_lookBehind (o:=⟨oc',odi',.dict es' n',osl'⟩) ?_ (pastItsLine_dict (by refine rwE sizeLine_eq ?_;exact GS e3 (GS (Nat.succ_le_succ hz) (by decide)))) ?_)
 .refine (?_:(s.heap.update dx _).get? dx=_)
  refine rwS e1 ?_
  exact Heap.get?_update_self _ D (by refine (?_:Obj.isFreed (Obj.putName name (PyData.keyHash w.params name) _ _ _)=false);refine rwE e1 ?_;rfl)
 .exact wpAny_pure h
theorem gS (co:bB C.B K) {φ₀:List Addr} {o v:V} {vo vv:Value} {name:Str} (ro:VR φ₀ o vo) (rv:VR φ₀ v vv) :
  ae C f φ₀ (setAttr vo name vv) (Tr.lift fun H Q X=>(∀ i c fs k,o=.ref i->H[i]?=some (.inst c fs)->C.B.cls c=some k->k.slots=none)/\bZ K o name v H Q X) (fun _ _ _=>True):=by
 refine ae.of fun φ own H m Q X s hp w q=>?_
 (obtain⟨hdict,Fp⟩:=q;refine eE Fp fun i c fs Fx=>?_;clear Fp;obtain⟨Fy,Fz⟩:=Fx;obtain rfl:=Fy;refine ek Fz fun hi0 ho ha q=>?_;clear Fz)
 (refine ao (w.at ho (ro.mono hp)) fun al FD FE=>?_;obtain rfl:=FD;obtain⟨g,FH⟩:=FE;obtain⟨o1,FN⟩:=FH;refine ao FN fun k hk r=>?_;clear FN)
 (refine bW (co.attr c name ha) fun k' hk' hA hga FP=>?_;refine aJ FP fun hgt hsa hpo=>?_;clear FP)
 rw [hk] at hk';cases hk'
 have hlt:i < H.length:=(List.getElem?_eq_some_iff.mp ho).1
 have X0:=In.stays co.inH w.stays
 rw [hdict i c fs k rfl ho hk] at r hA
 obtain⟨dd,es,n,od,hda,hx,hd,hst,huq,hsz,hm⟩:=r
 cases hA with
 | dict cd h1 h2 h3 h4 h5 =>
  have I:PySem.W.InstAt s.heap al (PySem.W.instObj c dd) c (some { cls:=.type "dict",dict:=none,data:=.dict es n,slots:=#[] }):=⟨hx,rfl,rfl,hd⟩
  have hcount:es.size<=k.attrs.length:=qH hst huq fun x hx=>hsz x (by intro e;have:=hm x;rw [e] at this;induction hn:nsFind es x with | none=>exact hx hn | some z=>rw [hn] at this;exact this)
  refine PySem.W.set_plain X0 I hsa (BI (s:={ s with toks:=s.toks+1 }) X0 I rfl hpo h4 (by refine rwE h1 ?_;exact h2) hd rfl hst huq ?_ ?_)
  .exact GS hcount (GS (co.count c k hk) (by decide))
  (refine jh (gE (name:=name) (hh:=PyData.keyHash C.B.w.params name) (tk:=s.toks+1) (v:=vv) (c:=.type "dict") (d:=none) (n:=n) (sl:=#[]) hst huq) fun es' n' e1 e2 e2u F8=>?_;obtain⟨e3,e4⟩:=F8)
  refine QP.eV w (b:=()) (o':=.inst c fun x=>if x=name then some v else fs x) hlt g od (Heap.SameBut.update ..) ⟨o1,k,hk,?_⟩ trivial q _ ⟨_,Heap.get?_update_self _ hd (by show Obj.isFreed (Obj.putName name (PyData.keyHash C.B.w.params name) _ _ _)=false;refine rwE e1 ?_;rfl)⟩
  refine rwE (hdict i c fs k rfl ho hk) ?_
  refine⟨dd,es',n',od,hda,?_,?_,e2,e2u,fun x hx=>?_,fun x=>?_⟩
  .refine ((Heap.SameBut.update ..).2 al (Ne.symm hda)).trans ?_;exact hx
  .refine rwS e1 ?_;exact Heap.get?_update_self _ hd (by show Obj.isFreed (Obj.putName name (PyData.keyHash C.B.w.params name) _ _ _)=false;refine rwE e1 ?_;rfl)
  .by_cases hxn:x=name
   .subst hxn;exact h5
   .exact hsz x (by simpa [hxn] using hx)
  .refine rwE (e4 ..) ?_
   by_cases hxn:x=name
   .simp only [hxn,if_true];exact rv.mono hp
   .simp only [if_neg hxn];exact hm x
open PySem.Calls Builtin Builtin.ObjectAttr Builtin.Getset_descriptor in
theorem tT {prog:Program} {w:World} {A:Around} {F:PySem.W.Frag} {c x:Addr} {s:Shared} {R:Result->Shared->Prop} {ox:Obj} {od:Option Obj} {v:Value} {p i:Nat} (X:F.In s.heap) (I:PySem.W.InstAt s.heap x ox c od)
  (hp:PySem.W.slotIn F p c=some i) (hi:i < 1000)
  (h:R (.ok (.ret .none)) { s with heap:=s.heap.update x (fun o=>{ o with slots:=(o.slots++Array.replicate (i+1 - o.slots.size) none).setIfInBounds i (some v) }) }) :
  codeAny (model prog w) A (.call (.builtin "member_descriptor.__set__") ⟨[.ref p,.ref x,v],[]⟩) R s:=by
 (refine gP (PySem.W.slot_of X hp) fun n tn owner behind F4=>?_;refine gP F4 fun tb d sl cd F5=>?_;clear F4;refine rH F5 fun ho hc hm hb Gk=>?_;clear F5;obtain rfl:=Gk)
 obtain⟨hh,g,dr,t,os⟩:=s
 have L0:=I.type (M:=model prog w)
 have L1:=PySem.W.looks_mroIn (M:=model prog w) X hm
 have L2:PySem.W.Looks (model prog w) hh (Slots.slotNamesOf (.ref c)) cd.slotNames:=(PySem.W.looks_clsIn X hc).andThen .now
 have hx:=I.at_
 dsimp only at ho hx L0 L1
 have f0:=PySem.W.looks_field (M:=model prog w) ho 0 (v:=.str n tn) rfl
 have f1:=PySem.W.looks_field (M:=model prog w) ho 1 (v:=owner) rfl
 have f3:=PySem.W.looks_field (M:=model prog w) ho 3 (v:=.builtin "proto.slot#set") rfl
 have f4:=PySem.W.looks_field (M:=model prog w) ho 4 (v:=.int behind tb) rfl
 refine codeAny_call_builtin PySem.W.KF.slot_mset.plain PySem.W.KF.entry_mset (PySem.W.KF.slot_mset.check _ _ _ _ _ _ _ _ ⟨_,ho,rfl⟩ (PySem.W.KF.args_mset _ _ _) ?_)
 (delta Builtin.«member_descriptor.__set__» descrSet descrStoreThrough descrCheckInstance descrNameAndClass isInstance;try dsimp only)
 have f5:PySem.W.Looks (model prog w) hh (descrItself (.ref p)) [.ref p]:=((PySem.W.Looks.ld (part:=none) ho).andThen .now).andThen (PySem.W.Looks.of_pure (by kernel_rfl))
 repeat lk
 refine⟨Code.quiet_builtin _ (by decide +kernel),codeAny_builtin PySem.W.KF.entry_slotset ?_⟩
 delta Builtin.«proto.slot#set» Slots.target
 repeat lk
 rw [if_neg hb]
 refine wpAny_pure (wpAny_bind ?_)
 unfold setSlotAt
 dsimp only
 rw [if_neg (by rw [sizeLine_eq];exact Nat.not_le.2 (Nat.lt_trans hi (by decide)))]
 exact wpAny_updatePart hx (wpAny_pure h)
theorem oh {sl:Array (Option Value)} {i j:Nat} {v:Value}:(((sl++Array.replicate (i+1 - sl.size) none).setIfInBounds i (some v))[j]?).join=if j=i then some v else (sl[j]?).join:=by
 by_cases hj:j=i
 .subst hj
  refine rwE (if_pos rfl) (rwE (Array.getElem?_setIfInBounds_self_of_lt (by simp;exact Nat.sub_le_iff_le_add'.1 (Nat.le_refl _))) ?_)
  rfl
 .refine rwE (if_neg hj) (rwE (Array.getElem?_setIfInBounds_ne (Ne.symm hj)) ?_)
  by_cases h:j < sl.size
  .exact rwE (Array.getElem?_append_left h) rfl
  .refine rwE (Array.getElem?_append_right (Nat.le_of_not_lt h)) (rwE (Array.getElem?_eq_none (xs:=sl) (Nat.le_of_not_lt h)) ?_)
   by_cases h2:j - sl.size < i+1 - sl.size
   .refine rwE (Array.getElem?_replicate) (rwE (if_pos h2) ?_);rfl
   .rw [Array.getElem?_eq_none (by simpa using Nat.le_of_not_lt h2)]
theorem gU (co:bB C.B K) {φ₀:List Addr} {o v:V} {vo vv:Value} {name:Str} (ro:VR φ₀ o vo) (rv:VR φ₀ v vv) :
  ae C f φ₀ (setAttr vo name vv) (Tr.lift fun H Q X=>(∀ i c fs k,o=.ref i->H[i]?=some (.inst c fs)->C.B.cls c=some k->k.slots≠none)/\bZ K o name v H Q X) (fun _ _ _=>True):=by
 refine ae.of fun φ own H m Q X s hp w q=>?_
 (obtain⟨hns,Ga⟩:=q;refine eE Ga fun i c fs Gl=>?_;clear Ga;obtain⟨Gm,Gb⟩:=Gl;obtain rfl:=Gm;refine ek Gb fun hi0 ho ha q=>?_;clear Gb)
 (refine ao (w.at ho (ro.mono hp)) fun al Gp Gq=>?_;obtain rfl:=Gp;obtain⟨g,Gr⟩:=Gq;obtain⟨o1,Gd⟩:=Gr;refine ao Gd fun k hk r=>?_;clear Gd)
 (refine bW (co.attr c name ha) fun k' hk' hA hga Ge=>?_;refine aJ Ge fun hgt hsa hpo=>?_;clear Ge)
 rw [hk] at hk';cases hk'
 have hlt:i < H.length:=(List.getElem?_eq_some_iff.mp ho).1
 have X0:=In.stays co.inH w.stays
 have hns:=hns i c fs k rfl ho hk
 induction hs:k.slots with
 | none=>exact absurd hs hns
 | some names =>
  rw [hs] at r hA
  obtain⟨sl,dd,wd,hda,gd,hx,hsz,hm,hn⟩:=r
  cases hA with
  | slot _ p j h1 h2 h3 h4 h5 h6 h7 =>
   have I:PySem.W.InstAt s.heap al { cls:=.ref c,dict:=some dd,data:=.plain,slots:=sl } c (some PySem.W.emptyDict):=⟨hx,rfl,rfl,gd⟩
   have hj:j < names.length:=(List.getElem?_eq_some_iff.mp h4).1
   refine PySem.W.set_plain X0 I hsa (PySem.W.osa_descr (s:={ s with toks:=s.toks+1 }) PySem.W.KF.slot_mset X0 I hpo h6 h7 (tT (s:={ s with toks:=s.toks+1 }) X0 I h3 (GU hj (GS hsz (by decide))) ?_))
   refine QP.eV w (b:=()) (o':=.inst c fun x=>if x=name then some v else fs x) hlt g o1 (Heap.SameBut.update ..) ⟨o1,k,hk,?_⟩ trivial q _ ⟨_,Heap.get?_update_self _ (by assumption) rfl⟩
   refine rwE hs ?_
   refine⟨_,dd,wd,hda,((Heap.SameBut.update ..).2 dd hda).trans gd,Heap.get?_update_self _ hx rfl,hsz,fun x j' hj'=>?_,fun x hx'=>?_⟩
   .show VRo φ (if x=name then some v else fs x) _
    refine rwE oh ?_
    by_cases hxn:x=name
    .subst hxn
     have:j'=j:=(List.getElem?_inj (by exact (List.getElem?_eq_some_iff.mp hj').1) h5).mp (hj'.trans h4.symm)
     refine rwE (if_pos rfl) (rwE (if_pos this) ?_);exact rv.mono hp
    .refine rwE (if_neg hxn) (rwE (if_neg (by intro e;subst e;rw [h4] at hj';exact hxn (Option.some.inj hj').symm)) ?_)
     exact hm x j' hj'
   .show (if x=name then some v else fs x)=none
    refine (if_neg (by intro e;subst e;exact hx' (G0 h4))).trans ?_
    exact hn x hx'
theorem i8 (co:bB C.B K) {φ₀:List Addr} {o v:V} {vo vv:Value} {name:Str} (ro:VR φ₀ o vo) (rv:VR φ₀ v vv) :
  ae C f φ₀ (setAttr vo name vv) (Tr.lift (bZ K o name v)) (fun _ _ _=>True):=by
 intro φ own σ Q X s hp w q
 (refine eE (id q) fun i c fs Gf=>?_;obtain⟨Gs,Gg⟩:=Gf;obtain rfl:=Gs;refine ek Gg fun hi0 ho ha q'=>?_;clear Gg)
 refine ao (co.attr c name ha) fun k hk _=>?_
 by_cases hs:k.slots=none
 .exact gS co ro rv φ own σ Q X s hp w ⟨fun i' c' fs' k' e1 e2 e3=>by cases e1;rw [ho] at e2;cases e2;rw [hk] at e3;cases e3;exact hs,q⟩
 .exact gU co ro rv φ own σ Q X s hp w ⟨fun i' c' fs' k' e1 e2 e3=>by cases e1;rw [ho] at e2;cases e2;rw [hk] at e3;cases e3;exact hs,q⟩
end
end Mine
namespace Mine
open PySem PyProof.Rows
theorem uI {prog:Program} {w:World} {A:Around} {E:Value->Shared->Prop} {s:Shared} {Q:List Value->Shared->Prop} (it:Addr) {T:String} {o:Obj} {items:Array Value} {n:Nat} (hT:T = "list" \/ T = "tuple")
  (ho:s.heap.get? it=some o) (hc:o.cls=.type T) (hd:o.data=.seq items n)
  (hQ:Q items.toList { s with heap:=(s.heap.push { cls:=.type "list",data:=.seq ([]:List Value).toArray }).update s.heap.objs.size (Obj.mapSeq (·++items)) }) (hsz:items.size<=sizeLine) :
  wpAny (model prog w) A (collect (.ref it)) Q E s:=by
 unfold collect
 refine wpAny_bind (wpAny_runValue (codeAny_builtin PySem.F.entry_proto_collect ?_))
 refine rwE (Around.under_plainId PySem.F.plain_proto_collect _) ?_
 refine (?_:wpAny _ A.in1 (PySem.newList [] >>= fun l=>again (.builtin "list.__iadd__" ⟨[l,.ref it],[]⟩)) _ _ s)
 refine wpAny_bind (wpAny_newObj_type (wpAny_pure ⟨plainId_quiet PySem.F.plain_list_iadd _,codeAny_builtin PySem.F.entry_list_iadd ?_⟩))
 refine rwE (Around.under_plainId PySem.F.plain_list_iadd _) ?_
 refine (?_:wpAny _ A.in1 (Builtin.List.listExtendWith (.ref s.heap.objs.size) (.ref it) (.ref s.heap.objs.size)) _ _ _)
 have hS:(s.heap.push { cls:=.type "list",data:=.seq ([]:List Value).toArray }).get? s.heap.objs.size=some { cls:=.type "list",data:=.seq #[] 0 }:=Heap.get?_push_size _ rfl
 have Gv:=Heap.get?_update_self (Obj.mapSeq (·++items)) hS rfl
 have fin':wpAny (model prog w) A (match Value.ref s.heap.objs.size with
   | Value.ref a=>do
    match (<- load a).data with
     | Data.seq xs _=>pure xs.toList
     | _=>unsupported "internal:collect"
   | _=>unsupported "internal:collect") Q E { s with heap:=(s.heap.push { cls:=.type "list",data:=.seq ([]:List Value).toArray }).update s.heap.objs.size (Obj.mapSeq (·++items)) }:=by
  refine (?_:wpAny _ A (load s.heap.objs.size >>= _) _ _ _)
  refine wpAny_bind (wpAny_load Gv (wpAny_pure ?_))
  have e:((#[]:Array Value)++items).toList=items.toList:=by simp
  refine (?_:Q ((#[]:Array Value)++items).toList _)
  refine rwE e ?_
  exact hQ
 refine wpAny_mono (wpAny_extend_seq (hsz:=hsz) (A:=A) (R:=fun r s'=>r=.ok (.ret (.ref s.heap.objs.size))/\s'={ s with heap:=(s.heap.push { cls:=.type "list",data:=.seq ([]:List Value).toArray }).update s.heap.objs.size (Obj.mapSeq (·++items)) })
  (s:={ s with heap:=s.heap.push { cls:=.type "list",data:=.seq ([]:List Value).toArray } }) _ it _ 0 hT hS (Heap.get?_push_of_some _ ho) hc hd ⟨rfl,rfl⟩) (fun fin s' h=>?_) (fun e s' h=>?_)
 .induction fin with
  | done f =>
   obtain⟨e,rfl⟩:=h
   cases e
   exact fin'
  | again c'=>exact⟨h.1,codeAny_mono h.2 fun r s'' hr=>by obtain⟨rfl,rfl⟩:=hr;exact fin'⟩
 .exact absurd h.1 (by simp)
theorem Quiet.zb {own:Addr->Option Nat} {base h:Heap} (hs:base.StaysIn h) (o:Obj) (g:Obj->Obj):Quiet own base h ((h.push o).update h.objs.size g):=by
 have k:∀ b ob,h.get? b=some ob->((h.push o).update h.objs.size g).get? b=some ob:=fun b ob e=>(Heap.get?_update_other _ _ (Nat.ne_of_gt (Heap.lt_size e))).trans (Heap.get?_push_of_some _ e)
 exact⟨fun b ob e=>k _ _ (hs b ob e),fun b ob _ _ e=>k _ _ e,fun b ob _ e=>k _ _ e⟩
noncomputable def Keeps (M:Model) (A:Around) (f:Value) (s:Shared):Prop:=∃ k,∀ (Q:Keeper->Shared->Prop) (E:Value->Shared->Prop),Q k s->wpAny M A (keeperOf f) Q E s
theorem callWith_of {M:Model} {A:Around} {E:Value->Shared->Prop} {s:Shared} {pos:Pos} {f:Value} {first:List Value} {args:List (Bool × Sem Value)} {Q:Value->Shared->Prop}
  (h:wpAny M A (evalArgs f true args []) (fun x Fv=>Keeps M A f Fv/\x.kw=[]/\wpAny M A (call f (first++x.pos)) Q E Fv) E s) :
  wpAny M A (callWith pos f first args []) Q E s:=by
 unfold callWith
 refine wpAny_bind (wpAny_holding (wpAny_mono h (fun x Fv FA=>wpAny_bind (wpAny_standAt ?_)) fun _ _ x=>x))
 (refine aJ FA fun ζ1 hkw hc=>?_;clear FA;obtain⟨k,hk⟩:=ζ1)
 have tail:∀ {t:Sem Value},wpAny M A t Q E Fv->wpAny M A (t >>= fun r=>holding [r] point >>= fun _=>pure r) Q E Fv:=
  fun ht=>wpAny_bind (wpAny_mono ht (fun r FI hr=>wpAny_bind (wpAny_holding (wpAny_point (wpAny_pure hr)))) fun _ _ x=>x)
 refine rwE hkw ?_
 have marked (mk:Value):wpAny M A (callMarked mk f (first++x.pos) []) Q E Fv:=by unfold callMarked;exact Calls.wpAny_keep hc
 refine wpAny_bind (hk _ _ ?_)
 generalize (args.any (·.1) || ([]:List (Option Str × Sem Value)).any (·.1.isNone))=b
 induction k<;>induction b<;>dsimp only<;>first
  | exact tail (marked _)
  | exact tail hc
  | exact tail (wpAny_operating hc)
  | (split<;>first | exact tail hc | exact tail (marked _))
theorem bQ {M:Model} {A:Around} {f:Value} {s:Shared} (h:∀ a,f≠.ref a):Keeps M A f s:=by
 refine⟨.machine,fun Q E q=>?_⟩
 unfold keeperOf
 induction f<;>first | exact wpAny_pure q | exact absurd rfl (h _)
theorem jC {M:Model} {A:Around} {a:Addr} {o:Obj} {fd:FuncData} {s:Shared} (h:s.heap.get? a=some o) (hd:o.data=.func fd):Keeps M A (.ref a) s:=by
 refine⟨.frame,fun Q E q=>?_⟩
 unfold keeperOf
 refine wpAny_bind (wpAny_load h ?_)
 refine rwE hd ?_
 exact wpAny_pure q
section
variable {C:Ctx} {f:Fm} {K:Cfg} {d:Nat}
noncomputable def cX (C:Ctx) (K:Cfg) (f:Fm) (es:List Expr):Prop:=∀ φ₀ pos fv,ae C f φ₀ (evalArgs fv true (backTo pos (starEach es f.env)) []) (aI K es f.env.scope f.ro) (fun φ xs (a:Args)=>a.kw=[]/\VRs φ xs a.pos)
noncomputable def lq (C:Ctx) (K:Cfg) (f:Fm) (es:List Expr):Prop:=∀ φ₀ pos,ae C f φ₀ (spliced (backTo pos (starEach es f.env))) (aI K es f.env.scope f.ro) VRs
theorem pJ {φ₀:List Addr} {pos:Pos} {v:V} {vv:Value} (rv:VR φ₀ v vv):∀ φ own σ Q X s,φ₀ <+: φ->W C.B C.fs f φ own σ.H σ.m s->om K v σ Q X ->
  PySem.W.StarOf C.M C.A (EP C f φ own s.heap X) vv (QP C f φ own s.heap VRs Q) s:=by
 intro φ own σ Q X s hp w q
 obtain⟨vs,hv,hok,hz,q⟩:=q
 obtain⟨i,rfl⟩:∃ i,v=.ref i:=by induction v<;>first | exact nS hv | exact⟨_,rfl⟩
 have hv:σ.H[i]?.bind ou=some vs:=hv
 have quiet:∀ h',Quiet own C.B.Fw s.heap h'->∀ ws,VRs φ vs ws->QP C f φ own s.heap VRs Q ws { s with heap:=h' }:=fun h' hq ws hr=>QP.quiet w hq (b:=vs) hr q s.toks
 induction ho:σ.H[i]? with
 | none=>rw [ho] at hv;exact nS hv
 | some o =>
  rw [ho] at hv
  (refine ao (w.at ho (rv.mono hp)) fun al ζ2 ζ3=>?_;obtain rfl:=ζ2;obtain⟨g,ro⟩:=ζ3)
  have main:∀ {T:String} {items:Array Value} {n:Nat},T = "list" \/ T = "tuple" -> s.heap.get? al=some { cls:=.type T,dict:=none,data:=.seq items n,slots:=#[] }->VRs φ vs items.toList->items.size<=sizeLine ->
    PySem.W.StarOf C.M C.A (EP C f φ own s.heap X) (.ref al) (QP C f φ own s.heap VRs Q) s:=by
   intro T items n hT hg hr hsz
   have z:wpAny C.M C.A (collect (.ref al)) (QP C f φ own s.heap VRs Q) (EP C f φ own s.heap X) s:=by
    exact uI al hT hg rfl rfl (quiet _ (Quiet.zb w.stays _ _) _ hr) hsz
   have hT':s.TypeIs (.ref al) T:=⟨_,hg,rfl⟩
   (delta PySem.W.StarOf notIterableAtAll;try dsimp only)
   rcases hT with rfl | rfl
   .exact wpAny_bind (wpAny_specialOf hT' PySem.F.slot_list_iter.lookup (wpAny_pure ⟨rfl,z⟩))
   .exact wpAny_bind (wpAny_specialOf hT' PySem.F.slot_tuple_iter.lookup (wpAny_pure ⟨rfl,z⟩))
  induction o with
  | list xs =>
   cases hv
   (refine aJ ro fun o1 hz ζ4=>?_;clear ro;refine bq ζ4 fun ws n g1 r1=>?_;clear ζ4)
   exact main (.inl rfl) g1 r1 (by refine rwE r1.size ?_;exact GS hz cG)
  | tuple xs =>
   cases hv
   (refine aJ ro fun o1 hz ζ5=>?_;clear ro;refine bq ζ5 fun ws n g1 r1=>?_;clear ζ5)
   exact main (.inr rfl) g1 r1 (by refine rwE r1.size ?_;exact GS hz cG)
  | _=>exact nS hv
theorem zw:lq C K f []:=fun φ₀ pos=>ae.pure fun φ hp=>trivial
theorem eQ {e:Expr} {es:List Expr} {env:Env} (hst:isStar e=false):starEach (e::es) env=(false,eval e env)::starEach es env:=by
 induction e using Expr.casesOn<;>first | rfl | (exfalso;exact Bool.noConfusion hst)
theorem ly {e:Expr} {es:List Expr} {sc:Scope} {ro:List Str} (hst:isStar e=false):aI K (e::es) sc ro=(awE K e sc ro).bind fun v=>(aI K es sc ro).bind fun vs=>Tr.pure (v::vs):=by
 induction e using Expr.casesOn<;>first | rfl | (exfalso;exact Bool.noConfusion hst)
theorem wo {e:Expr} {es:List Expr} (he:aV C K f e) (hst:isStar e=false) (hs:lq C K f es):lq C K f (e::es):=by
 intro φ₀ pos
 have e1:=eQ (es:=es) (env:=f.env) hst
 refine rwE e1 (rwE (ly hst) ?_)
 refine (?_:ae C f φ₀ (spliced ((false,eval e f.env)::backTo pos (starEach es f.env))) _ _)
 rw [spliced]
 refine ae.bind (he φ₀) fun φ v b hp r=>?_
 dsimp only [Bool.false_eq_true,if_false]
 refine ae.bindL (t:=pure [v]) [v] (fun Q E s q=>wpAny_pure q) ?_
 exact ae.bind (ae.holding (hs φ pos)) fun φ' vs bs hp' rs=>ae.pure fun F9 hp''=>⟨(r.mono hp').mono hp'',rs.mono hp''⟩
theorem wu {e:Expr} {p:Pos} {es:List Expr} (he:aV C K f e) (hs:lq C K f es):lq C K f (.Starred e p::es):=by
 intro φ₀ pos φ own σ Q X s hp w q
 refine (?_:wpAny C.M C.A (spliced ((true,(do let v <- eval e f.env;standAt pos;pure v))::backTo pos (starEach es f.env))) _ _ s)
 refine PySem.W.ks_spliced (wpAny_mono (he φ φ own σ _ X s (GZ _) w q) ?_ fun _ _ x=>x)
 rintro v s1 ⟨φ1,own1,σ1,b,k1,w1,r1,q1⟩
 have h:=pJ (pos:=pos) r1 φ1 own1 σ1 _ X s1 (GZ _) w1 q1
 unfold PySem.W.StarOf at h ⊢
 refine wpAny_mono h (fun bb s2 h2=>⟨h2.1,?_⟩) fun _ _ x=>EP.after k1 x
 refine wpAny_mono h2.2 ?_ fun _ _ x=>EP.after k1 x
 rintro vs s3 ⟨φ3,own3,σ3,b3,k3,w3,r3,q3⟩
 refine wpAny_mono (hs φ3 pos φ3 own3 σ3 _ X s3 (GZ _) w3 q3) ?_ fun _ _ x=>EP.after (k1.trans k3) x
 rintro ws s4 ⟨φ4,own4,σ4,b4,k4,w4,r4,q4⟩
 exact⟨φ4,own4,σ4,b3++b4,(k1.trans k3).trans k4,w4,(r3.mono k4.pre).append r4,q4⟩
theorem BO:cX C K f []:=fun φ₀ pos fv φ own σ Q X s hp w q=>PySem.evalArgs_none ⟨φ,own,σ,[],Kp.refl ..,w,⟨rfl,trivial⟩,q⟩
theorem zg {e:Expr} {es:List Expr} (hst:isStar e=false) (hs:lq C K f (e::es)):cX C K f (e::es):=by
 intro φ₀ pos fv φ own σ Q X s hp w q
 have e1:=eQ (es:=es) (env:=f.env) hst
 have h:=hs φ₀ pos φ own σ Q X s hp w q
 rw [e1] at h ⊢
 refine Calls.evalArgs_plain (wpAny_mono h ?_ fun _ _ x=>x)
 rintro v s1 ⟨φ1,own1,σ1,b,k1,w1,r1,q1⟩
 exact⟨φ1,own1,σ1,b,k1,w1,⟨rfl,r1⟩,q1⟩
theorem zh {e:Expr} {p:Pos} (he:aV C K f e):cX C K f [.Starred e p]:=by
 intro φ₀ pos fv φ own σ Q X s hp w q
 refine (?_:wpAny C.M C.A (evalArgs fv true [(true,(do let v <- eval e f.env;standAt pos;pure v))] []) _ _ s)
 refine PySem.W.ks_lone (wpAny_mono (he φ φ own σ _ X s (GZ _) w q) ?_ fun _ _ x=>x)
 rintro v s1 ⟨φ1,own1,σ1,b,k1,w1,r1,q1⟩
 have h:=pJ (pos:=pos) r1 φ1 own1 σ1 _ X s1 (GZ _) w1 q1
 unfold PySem.W.StarOf at h ⊢
 refine wpAny_mono h (fun bb s2 h2=>⟨h2.1,?_⟩) fun _ _ x=>EP.after k1 x
 refine wpAny_mono h2.2 ?_ fun _ _ x=>EP.after k1 x
 rintro vs s3 ⟨φ3,own3,σ3,b3,k3,w3,r3,q3⟩
 exact⟨φ3,own3,σ3,b3++[],k1.trans k3,w3,⟨rfl,by simpa using r3⟩,q3⟩
end
end Mine
namespace Mine
open PySem PyProof.Rows
theorem nB {n:Str} {id:String} (h:dE n=some id):Slot "list" n id/\typeOf (.builtin id)=pure (.type "method_descriptor"):=by
 unfold dE at h
 repeat' split at h
 all_goals (first | cases h | exact nS h)
 all_goals (rename_i e;subst e)
 .exact⟨PySem.F.slot_list_append,PySem.F.type_list_append⟩
 .exact⟨PySem.F.slot_list_pop,PySem.F.type_list_pop⟩
 .exact⟨PySem.F.slot_list_clear,PySem.F.type_list_clear⟩
 .exact⟨PySem.F.slot_list_sort,PySem.F.type_list_sort⟩
theorem nj {n:Str} {id:String} (h:fg n=some id):Slot "dict" n id/\typeOf (.builtin id)=pure (.type "method_descriptor"):=by
 unfold fg at h
 repeat' split at h
 all_goals (first | cases h | exact nS h)
 all_goals (rename_i e;subst e)
 .exact⟨PySem.F.slot_dict_get,PySem.F.type_dict_get⟩
 .exact⟨PySem.F.slot_dict_values,PySem.F.type_dict_values⟩
theorem qA {n:Str} {id:String} (h:mC n=some id):Slot "set" n id/\typeOf (.builtin id)=pure (.type "method_descriptor"):=by
 unfold mC at h
 repeat' split at h
 all_goals (first | cases h | exact nS h)
 all_goals (rename_i e;subst e)
 .exact⟨PySem.F.slot_set_add,PySem.F.type_set_add⟩
theorem lN {g:Str->Option String} {n:Str} {id id':String} (h:g n=some id) (e:g n=some id'):id=id':=Option.some.inj (h.symm.trans e)
theorem VRs.one {φ:List Addr} {v:V} {vs:List Value} (r:VRs φ [v] vs):∃ y,vs=[y]/\VR φ v y:=by
 induction vs using List.casesOn with
 | nil=>exact r.elim
 | cons a b=>induction b using List.casesOn with
  | nil=>exact aW a rfl r.1
  | cons c d=>exact r.2.elim
theorem VRs.two {φ:List Addr} {u v:V} {vs:List Value} (r:VRs φ [u,v] vs):∃ x y,vs=[x,y]/\VR φ u x/\VR φ v y:=by
 induction vs using List.casesOn with
 | nil=>exact r.elim
 | cons a b=>(refine ao (VRs.one r.2) fun y ζ1 h=>?_;obtain rfl:=ζ1);exact jk a y rfl r.1 h
theorem VRs.zero {φ:List Addr} {vs:List Value} (r:VRs φ [] vs):vs=[]:=by
 induction vs using List.casesOn with
 | nil=>rfl
 | cons a b=>exact r.elim
theorem fz:∀ {xs:List V} {ks:List Int},intsOf xs=some ks->ks.length=xs.length
 | [],ks,h=>by cases h;rfl
 | x::r,ks,h=>by
  induction x<;>first | exact nS h | skip
  rename_i i
  unfold intsOf at h
  (refine ao (Option.map_eq_some_iff.mp h) fun l h1 ζ2=>?_;obtain rfl:=ζ2)
  simp [fz h1]
theorem intsAre_of {φ:List Addr}:∀ {xs:List V} {ks:List Int} {vs:List Value},intsOf xs=some ks->VRs φ xs vs->IntsAre vs ks
 | [],ks,vs,h,r=>by cases h;cases r.zero;exact .nil
 | x::r,ks,vs,h,rr=>by
  induction x<;>first | exact nS h | skip
  rename_i i
  unfold intsOf at h
  (refine ao (Option.map_eq_some_iff.mp h) fun l h1 ζ3=>?_;obtain rfl:=ζ3)
  induction vs using List.casesOn with
  | nil=>exact rr.elim
  | cons y ys =>
   obtain⟨t,rfl⟩:=rr.1.int
   exact .cons _ _ (intsAre_of h1 rr.2)
theorem VRs.ints {φ:List Addr}:∀ {vs:List Value} {ks:List Int},IntsAre vs ks->VRs φ (ks.map .int) vs
 | _,_,.nil=>trivial
 | _,_,.cons n t h=>⟨rfl,VRs.ints h⟩
section
variable {C:Ctx} {f:Fm} {K:Cfg} {d:Nat}
theorem kT (ok:a9 C K d) {φ₀:List Addr} {n:Str} {id:String} (hid:dE n=some id) {i:Nat} {a:Addr} {args:List V} {vs:List Value} (ra:φ₀[i]?=some a) (rs:VRs φ₀ args vs) :
  ae C f φ₀ (call (.builtin id) (.ref a::vs)) (Tr.lift (fun H Q X=>∃ xs,H[i]?=some (.list xs)/\bf i xs n args H Q X)) VR:=by
 refine ae.of fun φ own H m Q X s hp w q=>?_
 (refine ao q fun xs ho ζ4=>?_;clear q;refine aJ ζ4 fun hi0 hz q=>?_;clear ζ4)
 (refine ao (w.look ho) fun al g ζ5=>?_;refine aJ ζ5 fun o1 hz0 ζ6=>?_;clear ζ5;refine bq ζ6 fun its ep g1 r1=>?_;clear ζ6)
 rw [ah hp ra] at g;cases g
 have ga:=ah hp ra
 have hlt:i < H.length:=(List.getElem?_eq_some_iff.mp ho).1
 have rs:=rs.mono hp
 have hsz:=r1.size
 have hsl:its.size<=sizeLine:=by refine rwE hsz ?_;exact GS (G5 hz) cG
 have hT:s.TypeIs (.ref a) "list" := ⟨_,g1,rfl⟩
 rcases q with ⟨rfl,v,rfl,q⟩ | ⟨rfl,rfl,v,hv,q⟩ | ⟨rfl,rfl,q⟩ | ⟨rfl,k,j,v,rfl,hpl,hk0,hk1,hv,q⟩ | ⟨rfl,rfl,ks,hks,h64,q⟩
 .cases lN hid (by decide:dE (Str.ofString "append")=some "list.append")
  (refine ao (rs.one) fun y ζ7 ry=>?_;obtain rfl:=ζ7)
  refine call_meets PySem.F.slot_list_append hT PySem.F.entry_list_append (PySem.F.args_list_append_2 _ _) (AutoListH.list_append_list_val_0 a its ep y hsl) ⟨g1,?_⟩
  exact QP.eV w (b:=V.none) (o':=.list (xs++[v])) hlt ga o1 (Heap.SameBut.update ..) ⟨o1,by refine rwE GY ?_;exact hz,_,_,Heap.get?_update_self _ g1 rfl,by refine rwE Array.toList_push ?_;exact r1.append ⟨ry,trivial⟩⟩ trivial q _ ⟨_,Heap.get?_update_self _ (by assumption) rfl⟩
 .cases lN hid (by decide:dE (Str.ofString "pop")=some "list.pop")
  cases rs.zero
  have hne:xs≠[]:=by rintro rfl;exact nS hv
  have hv':xs[xs.length - 1]?=some v:=by refine rwS (List.getLast?_eq_getElem?) ?_;exact hv
  refine ao (r1.get hv') fun y e1 e2=>?_
  refine call_meets PySem.F.slot_list_pop hT PySem.F.entry_list_pop (PySem.F.args_list_pop_1 _) (MeetsSeq.list_pop_last a its ep y (by refine rwE hsz ?_;simpa using e1) hsl) ⟨g1,?_⟩
  refine QP.eV w (b:=v) (o':=.list xs.dropLast) hlt ga o1 (Heap.SameBut.update ..) ⟨o1,by simp;exact Nat.le.step hz0,_,_,Heap.get?_update_self _ g1 rfl,?_⟩ e2 q s.toks ⟨_,Heap.get?_update_self _ (by assumption) rfl⟩
  refine rwE hsz ?_
  have:=r1.eraseIdx (xs.length - 1)
  have e3:xs.dropLast=xs.eraseIdx (xs.length - 1):=by refine rwE (List.dropLast_eq_take ..) (rwE (List.eraseIdx_eq_take_drop_succ ..) ?_);simp;exact Nat.sub_le_iff_le_add.1 (Nat.le_refl _)
  refine rwE e3 ?_
  simpa using this
 .cases lN hid (by decide:dE (Str.ofString "clear")=some "list.clear")
  cases rs.zero
  refine call_meets PySem.F.slot_list_clear hT PySem.F.entry_list_clear (PySem.F.args_list_clear_1 _) (AutoSeq1.list_clear_list_0 a its ep hsl) ⟨g1,?_⟩
  exact QP.eV w (b:=V.none) (o':=.list []) hlt ga o1 (Heap.SameBut.update ..) ⟨o1,by exact Nat.zero_le _,#[],_,Heap.get?_update_self _ g1 rfl,trivial⟩ trivial q _ ⟨_,Heap.get?_update_self _ (by assumption) rfl⟩
 .cases lN hid (by decide:dE (Str.ofString "pop")=some "list.pop")
  (refine ao (rs.one) fun y Fx ry=>?_;obtain rfl:=Fx)
  obtain⟨t,rfl⟩:=ry.int
  refine ao (r1.get hv) fun y e1 e2=>?_
  obtain⟨hj,hkj⟩:=iW hpl
  refine call_meets PySem.F.slot_list_pop hT PySem.F.entry_list_pop (PySem.F.args_list_pop_2 _ _) (MeetsSeq.list_pop_at a its ep k t j y (DX hk0 hk1) ?_ (by simpa using e1) hsl) ⟨g1,?_⟩
  .exact Eg hsz hj hkj
  .refine QP.eV w (b:=v) (o':=.list (xs.eraseIdx j)) hlt ga o1 (Heap.SameBut.update ..) ⟨o1,by have:=List.length_eraseIdx_le xs j;exact GS this hz0,_,_,Heap.get?_update_self _ g1 rfl,?_⟩ e2 q s.toks ⟨_,Heap.get?_update_self _ (by assumption) rfl⟩
   have:=r1.eraseIdx j
   simpa using this
 .cases lN hid (by decide:dE (Str.ofString "sort")=some "list.sort")
  cases rs.zero
  have hI:=intsAre_of hks r1
  have hlen:ks.length=its.size:=by refine rwE hsz ?_;exact fz hks
  have hob:s.heap.get? a=some (seqObj "list" its.toList.toArray ep):=by refine rwE Array.toArray_toList ?_;exact g1
  refine wpAny_call_entry PyProof.Rows.slot_list_sort ⟨_,g1,rfl⟩ PyProof.Rows.entry_list_sort (list_sort_tree (n:=ep) (vs:=its.toList) hob hI (by simp;exact lt_of_eq_of_lt (id (Eq.symm hlen)) h64) fun out ns' hI' hp' hP=>⟨.none,rfl,?_⟩) (PyProof.Rows.args_list_sort _)
  have g2:(s.heap.update a (Obj.mapSeq fun _=>#[])).get? a=some (Obj.mapSeq (fun _=>#[]) { cls:=.type "list",dict:=none,data:=.seq its ep,slots:=#[] }):=Heap.get?_update_self _ g1 rfl
  have w1:=w.upd (o':=.list []) hlt ga (fun b hb=>(Heap.SameBut.update ..).2 b fun e=>hb (e ▸ o1)) (aM (Heap.SameBut.update ..) ⟨_,g2⟩)
   ⟨o1,Nat.zero_le _,#[],_,g2,trivial⟩ s.toks
  have q1:=Quiet.push (own:=own) w1.stays (seqObj "tuple" its.toList.toArray 0)
  have w2:=w1.quiet q1 s.toks
  have q2:=Quiet.push (own:=own) w2.stays (seqObj "list" #[] 0)
  have w3:=w2.quiet q2 s.toks
  have k1:Kp f φ own s.heap φ own (s.heap.update a (Obj.mapSeq fun _=>#[])):=mQ (i:=i) (fun b hb=>(Heap.SameBut.update ..).2 b fun e=>hb (e ▸ o1)) (aM (Heap.SameBut.update ..) ⟨_,g2⟩)
  have g3:=Heap.get?_push_of_some (seqObj "list" #[] 0) (Heap.get?_push_of_some (seqObj "tuple" its.toList.toArray 0) g2)
  have hset:H.set i (.list (ns'.map .int))=(H.set i (.list [])).set i (.list (ns'.map .int)):=by exact rwE (List.set_set ..) rfl
  have qq:=q ns' hp' hP
  rw [hset] at qq
  refine QP.after (k1.trans ((bY q1).trans (bY q2))) ?_
  refine QP.eV w3 (b:=V.none) (o':=.list (ns'.map .int)) (by refine rwE List.length_set ?_;exact hlt) ga o1 (Heap.SameBut.update ..) ⟨o1,?_,out,_,Heap.get?_update_self _ g3 rfl,?_⟩ trivial qq s.toks ⟨_,Heap.get?_update_self _ (by assumption) rfl⟩
  .exact GS (Nat.le_of_eq ((GX ..).trans hp'.length_eq)) (GS (G5 h64) (by decide))
  .exact VRs.ints hI'
end
end Mine
namespace Mine
open PySem PyProof.Rows
structure oA (B:Base) (K:Cfg):Prop where
 meth:∀ c name g,K.meth c name=some g->∃ k,B.cls c=some k/\k.slots=none/\name∉k.attrs/\PySem.W.hasDictIn B.K c=true /\
  PySem.W.findIn B.K (.ref c) name=some (some (.ref g))/\PySem.W.typeIn B.K (.ref g)=some (.type "function")/\PySem.W.specialIn B.K (.ref g) "__get__" = some (some (.builtin "function.__get__")) /\
  PySem.W.takesIn B.K (.ref g)=some false/\PySem.W.copiedNames.contains name=false /\
  PySem.W.findIn B.K (.ref c) "__getattribute__" = some (some (.builtin "object.__getattribute__"))/\PySem.W.findIn B.K (.ref c) "__getattr__" = some none /\
  ∃ o fd,B.K.lookup g=some o/\o.data=.func fd
section
variable {C:Ctx} {f:Fm} {K:Cfg} {d:Nat}
theorem kQ (ok:a9 C K d) {φ₀:List Addr} {n:Str} {id:String} (hid:fg n=some id) {i:Nat} {a:Addr} {args:List V} {vs:List Value} (ra:φ₀[i]?=some a) (rs:VRs φ₀ args vs) :
  ae C f φ₀ (call (.builtin id) (.ref a::vs)) (Tr.lift (fun H Q X=>∃ es nn,H[i]?=some (.dict es nn)/\bX i es n args H Q X)) VR:=by
 refine ae.of fun φ own H m Q X s hp w q=>?_
 obtain⟨es,nn,ho,q⟩:=q
 obtain⟨al,g,o1,o2,kvs,hD,hK⟩:=w.look ho
 rw [ah hp ra] at g;cases g
 have ga:=ah hp ra
 have rs:=rs.mono hp
 have hT:=hD.dictOf.typeIs
 rcases q with ⟨rfl,k,rfl,q⟩ | ⟨rfl,rfl,q⟩
 .cases lN hid (by decide:fg (Str.ofString "get")=some "dict.get")
  obtain⟨y,rfl,ry⟩:=rs.one
  obtain⟨t,rfl⟩:=ry.int
  refine call_meetsIn F.slot_dict_get hT F.entry_dict_get (F.args_dict_get_2 _ _) (meets_dict_get (k:=k) (intKind C.B.prog C.B.w) a isInt_self o2) ⟨_,hD.dictOf.mapOf,?_⟩
  refine QP.same w (b:=(dF es k).getD .none) ?_ q _
  have hv:=hK.at k
  induction h1:dF es k with
  | none =>
   rw [h1] at hv
   induction h2:valueAt kvs k with
   | none=>exact trivial
   | some z=>rw [h2] at hv;exact hv.elim
  | some x =>
   rw [h1] at hv
   obtain⟨z,hz,rz⟩:=VRo.some hv
   refine rwE hz ?_
   exact rz
 .cases lN hid (by decide:fg (Str.ofString "values")=some "dict.values")
  cases rs.zero
  refine call_meetsIn F.slot_dict_values hT F.entry_dict_values (F.args_dict_values_1 _) (meets_dict_values (intKind C.B.prog C.B.w) a o2) ⟨⟨_,hD.dictOf⟩,?_⟩
  exact QP.kK (o':=.dvals i) w rfl (fun h' own' gg o hp'=>⟨o,a,ah hp' ga,gg⟩) (VR.last w _) q s.toks
theorem mH (ok:a9 C K d) {φ₀:List Addr} {n:Str} {id:String} (hid:mC n=some id) {i:Nat} {a:Addr} {args:List V} {vs:List Value} (ra:φ₀[i]?=some a) (rs:VRs φ₀ args vs) :
  ae C f φ₀ (call (.builtin id) (.ref a::vs)) (Tr.lift (fun H Q X=>∃ ks,H[i]?=some (.set ks)/\fS i ks n args H Q X)) VR:=by
 refine ae.of fun φ own H m Q X s hp w q=>?_
 obtain⟨ks,ho,q⟩:=q
 obtain⟨al,g,o1,S,nn,hS,hm,hn,hz⟩:=w.look ho
 rw [ah hp ra] at g;cases g
 have ga:=ah hp ra
 have hlt:i < H.length:=(List.getElem?_eq_some_iff.mp ho).1
 have rs:=rs.mono hp
 obtain⟨rfl,hi0,hlen,k,rfl,q⟩:=q
 cases lN hid (by decide:mC (Str.ofString "add")=some "set.add")
 obtain⟨y,rfl,ry⟩:=rs.one
 obtain⟨t,rfl⟩:=ry.int
 refine call_set_add (knd:=intKind C.B.prog C.B.w) (k:=k) isInt_self rfl hS ?_ fun h' hs hS'=>?_
 .exact GV (Nat.succ_le_succ (GS hn (G5 hlen))) (by decide:1001 < scanBound)
 .refine QP.eV w (b:=V.none) (o':=.set (if k∈ks then ks else k::ks)) hlt ga o1 hs ⟨o1,_,_,hS',fun k'=>?_,?_,?_⟩ trivial q _ (let ⟨o,_,_,_,e,_⟩:=hS';⟨o,e⟩)
  .have h1:=hm k'
   by_cases hk:k∈ks
   .refine rwE (if_pos hk) ?_
    by_cases e:k'=k
    .subst e;simp [hk]
    .simp [e,h1]
   .refine rwE (if_neg hk) ?_
    by_cases e:k'=k
    .subst e;simp
    .simp [e,h1]
  .have h1:=hm k
   by_cases hk:k∈ks
   .refine rwE (if_pos hk) (rwE (if_pos (h1.mpr hk)) ?_);exact hn
   .refine rwE (if_neg hk) (rwE (if_neg (fun e=>hk (h1.mp e))) ?_);simp;exact hn
  ·(refine gP hS' fun ob _ _ _ Fp=>?_;clear hS';obtain⟨gg,_⟩:=Fp)
   refine rwE gg ?_;exact Option.some_ne_none ob
theorem lX {prog:Program} {w:World} {A:Around} {R:Result->Shared->Prop} {s:Shared} {p:Addr} {f self:Value} {sl:Array (Option Value)} {pos:List Value} {kw:List (Str × Value)} (ho:s.heap.get? p=some { PySem.W.methodObj f self with slots:=sl })
  (h:codeAny (model prog w) A (.call f ⟨self::pos,kw⟩) R s):codeAny (model prog w) A (.call (.ref p) ⟨pos,kw⟩) R s:=by
 obtain⟨hh,g,dr,t,os⟩:=s
 refine codeAny_of_tree ?_
 refine (?_:wpAny _ _ (callAny (.ref p) _) _ _ _)
 dsimp only at ho
 refine PySem.W.nd_load ho ?_
 induction f<;>exact wpAny_pure ⟨rfl,h⟩
theorem lQ {M:Model} {A:Around} {p g:Addr} {self:Value} {sl:Array (Option Value)} {o:Obj} {fd:FuncData} {s:Shared} (ho:s.heap.get? p=some { PySem.W.methodObj (.ref g) self with slots:=sl }) (h:s.heap.get? g=some o) (hd:o.data=.func fd) :
  Keeps M A (.ref p) s:=by
 refine⟨.boundFrame,fun Q E q=>?_⟩
 unfold keeperOf
 refine wpAny_bind (wpAny_load ho ?_)
 dsimp only
 refine rwE (if_neg (by decide)) ?_
 refine (?_:wpAny M A (load g >>= _) _ _ _)
 refine wpAny_bind (wpAny_load h ?_)
 refine rwE hd ?_
 exact wpAny_pure q
noncomputable def dg (C:Ctx) (K:Cfg) (f:Fm):Prop:=∀ a args vs φ own σ Q X s,VRs φ args vs->W C.B C.fs f φ own σ.H σ.m s->Tr.lift (K.call a args) σ Q X ->
 codeAny C.M C.A (.call (.ref a) ⟨vs,[]⟩) (fun r s'=>match r with | .ok (.ret v)=>QP C f φ own s.heap VR Q v s' | .ok _=>False | .error e=>EP C f φ own s.heap X e s') s
theorem dg.wp (h:dg C K f) {φ₀:List Addr} {a:Addr} {args:List V} {vs:List Value} (r:VRs φ₀ args vs):ae C f φ₀ (call (.ref a) vs) (Tr.lift (K.call a args)) VR:=
 fun φ own σ Q X s hp w q=>wpAny_call (h a args vs φ own σ Q X s (r.mono hp) w q)
theorem p9 {args:List Expr} {env:Env} {pos:Pos}:methodCallForm (args.length+([]:List Keyword).length) (backTo pos (starEach args env)) (backToKw pos (keywordEach [] env))=c8 args:=by
 (delta methodCallForm c8;try dsimp only)
 have h1:∀ l:List Expr,(backTo pos (starEach l env)).all (fun x=>!x.1)=l.all fun e=>!isStar e:=by
  intro l
  induction l with
  | nil=>rfl
  | cons e r ih =>
   induction e using Expr.casesOn<;>first
    | (refine (?_:(!false && (backTo pos (starEach r env)).all (fun x=>!x.1))=(!false && r.all fun e=>!isStar e));exact ih)
    | (refine (?_:(!true && (backTo pos (starEach r env)).all (fun x=>!x.1))=(!true && r.all fun e=>!isStar e));rfl)
 refine rwE (h1 ..) ?_
 refine (?_:(_ && true && _)=_)
 simp only [Bool.and_true,List.length_nil,Nat.add_zero]
 rfl
theorem rg {name:Str} {env:Env} {t:Sem Value} {o:Expr}:baseOk o=true->attributeBase o name env t=t:=by
 induction o using Expr.casesOn
 case Call f args kws p =>
  induction f using Expr.casesOn
  case Name=>induction args using List.casesOn<;>induction kws using List.casesOn<;>first | exact fun _=>rfl | exact fun h=>nomatch h
  all_goals exact fun _=>rfl
 all_goals exact fun _=>rfl
end
end Mine
namespace Mine
open PySem PyProof.Rows
section
variable {C:Ctx} {f:Fm} {K:Cfg} {d:Nat}
theorem nQ {φ:List Addr} {k:Cls} {es:Array DictEntry} {n:Nat} {fs:Str->Option V} {name:Str} (hst:StrKeys es) (hsz:∀ x,fs x≠none->x∈k.attrs) (hm:∀ x,VRo φ (fs x) (nsFind es x)) (hn:name∉k.attrs) :
  PySem.W.lookIn name { cls:=.type "dict",dict:=none,data:=.dict es n,slots:=#[] }=some none:=by
 refine (lV rfl hst).trans ?_
 have h1:fs name=none:=by
  induction h:fs name with
  | none=>rfl
  | some v=>exact absurd (hsz name (by refine rwE h ?_;exact Option.some_ne_none v)) hn
 have h2:=hm name
 rw [h1] at h2
 induction h3:nsFind es name with
 | none=>rfl
 | some z=>rw [h3] at h2;exact h2.elim
theorem nJ (ok:a9 C K d) (co:bB C.B K) (mo:oA C.B K) (hcall:dg C K f) {o:Expr} {name:Str} {apos pos:Pos} {args:List Expr} (ho:aV C K f o) (ha:cX C K f args) :
  ∀ φ₀,ae C f φ₀ (eval (.Call (.Attribute o name apos) args [] pos) f.env) (fun σ Q X=>(baseOk o=true/\(apos.endLine == pos.line)=true) /\
   ((awE K o f.env.scope f.ro).bind fun ov=>(eB K (c8 args) ov name).bind fun c=>(aI K args f.env.scope f.ro).bind fun vs=>Tr.lift (methP K c ov name vs)) σ Q X) VR:=by
 intro φ₀
 refine ae.guard fun hg=>?_
 have e0:eval (.Call (.Attribute o name apos) args [] pos) f.env=(do
  let ov <- attributeBase o name f.env (eval o f.env)
  standAt apos.atName
  methodCall o name apos pos f.env ov (args.length+([]:List Keyword).length) (backTo pos (starEach args f.env)) (backToKw pos (keywordEach [] f.env))):=rfl
 refine rwE e0 (rwE (rg hg.1) ?_)
 refine ae.bind (ho φ₀) fun FT vo ov hp1 ro=>ae.at ?_
 intro φ own σ Q X s hp w q
 obtain⟨H,m⟩:=σ
 refine ao q fun c hc q=>?_
 have ro:=ro.mono hp
 (delta methodCall;try dsimp only)
 refine rwE p9 ?_
 have hpos:methodCallPos (c8 args) o f.env apos pos=pure pos:=by unfold methodCallPos;simp [hg.2]
 refine rwE hpos ?_
 -- the rest,once the callee is known
 have rest:∀ (fv:Value) (first:List Value) (φ':List Addr) (own':Addr->Option Nat) (s':Shared),Kp f φ own s.heap φ' own' s'.heap->W C.B C.fs f φ' own' H m s' ->
   (∀ φ2 own2 σ2 s2 vs xs,Kp f φ' own' s'.heap φ2 own2 s2.heap->W C.B C.fs f φ2 own2 σ2.H σ2.m s2->VRs φ2 xs vs->Tr.lift (methP K c ov name xs) σ2 Q X ->
    Keeps C.M C.A fv s2/\wpAny C.M C.A (call fv (first++vs)) (QP C f φ2 own2 s2.heap VR Q) (EP C f φ2 own2 s2.heap X) s2) ->
   wpAny C.M C.A (pure pos >>= fun callPos=>callWith callPos fv first (backTo pos (starEach args f.env)) (backToKw pos (keywordEach [] f.env))) (QP C f φ own s.heap VR Q) (EP C f φ own s.heap X) s':=by
  intro fv first φ' own' s' k' w' h
  refine wpAny_bind (wpAny_pure (callWith_of ?_))
  refine wpAny_mono (ha φ' pos fv φ' own' ⟨H,m⟩ _ X s' (GZ _) w' q) ?_ fun _ _ x=>EP.after k' x
  rintro a s2 ⟨φ2,own2,σ2,xs,k2,w2,⟨hkw,rxs⟩,q2⟩
  obtain⟨h1,h2⟩:=h φ2 own2 σ2 s2 a.pos xs k2 w2 rxs q2
  exact⟨h1,hkw,wpAny_mono h2 (fun _ _ x=>QP.after (k'.trans k2) x) fun _ _ x=>EP.after (k'.trans k2) x⟩
 unfold jW at hc
 obtain⟨i,rfl⟩:∃ i,ov=.ref i:=by induction ov<;>first | exact nS hc | exact⟨_,rfl⟩
 dsimp only at hc
 induction hob:H[i]? with
 | none=>rw [hob] at hc;exact nS hc
 | some ob =>
  rw [hob] at hc
  (refine ao (w.at hob ro) fun al ζ1 ζ2=>?_;obtain rfl:=ζ1;obtain⟨g,rob⟩:=ζ2)
  -- a method of a built-in type
  have built:∀ {T id:String},c8 args=true->s.TypeIs (.ref al) T->PlainAttrs T->Slot T name id->typeOf (.builtin id)=pure (.type "method_descriptor")->(∃ oo,s.heap.get? al=some oo/\oo.dict=none) ->
    (∀ φ2 own2 σ2 s2 vs xs,φ <+: φ2->W C.B C.fs f φ2 own2 σ2.H σ2.m s2->VRs φ2 xs vs->Tr.lift (methP K c (.ref i) name xs) σ2 Q X->wpAny C.M C.A (call (.builtin id) (.ref al::vs)) (QP C f φ2 own2 s2.heap VR Q) (EP C f φ2 own2 s2.heap X) s2) ->
    wpAny C.M C.A (holding [Value.ref al] (calleeOf (c8 args) o f.env (.ref al) name) >>= fun p=>match p with | (fv,first)=>pure pos >>= fun callPos=>callWith callPos fv first (backTo pos (starEach args f.env)) (backToKw pos (keywordEach [] f.env))) (QP C f φ own s.heap VR Q) (EP C f φ own s.heap X) s:=by
   intro T id hfew hT pa sl ty hd h
   refine rwE hfew ?_
   refine wpAny_bind (wpAny_holding ?_)
   refine (?_:wpAny _ _ (getMethod _ _ _) _ _ _)
   refine getMethod_builtin hT pa sl ty (fun b e=>by cases e;exact hd) ?_
   exact rest _ _ φ own s (Kp.refl ..) w fun φ2 own2 σ2 s2 vs xs k2 w2 rs q2=>⟨bQ (by intro b;simp),h φ2 own2 σ2 s2 vs xs k2.pre w2 rs q2⟩
  induction ob with
  | list xs =>
   by_cases hfew:c8 args=true
   .rw [hfew] at hc
    dsimp only [if_true] at hc
    (refine ao (Option.map_eq_some_iff.mp hc) fun id hid ζ3=>?_;obtain rfl:=ζ3)
    (refine aJ rob fun o1 hz ζ4=>?_;clear rob;refine bq ζ4 fun ws n g1 r1=>?_;clear ζ4)
    obtain⟨sl,ty⟩:=nB hid
    refine built hfew ⟨_,g1,rfl⟩ PySem.F.plainAttrs_list sl ty ⟨_,g1,rfl⟩ fun φ2 own2 σ2 s2 vs zs hp2 w2 rs q2=>?_
    refine fh q2 fun i' ys e hy q2=>?_
    cases e
    exact kT ok hid (ah hp2 g) rs φ2 own2 σ2 Q X s2 (GZ _) w2 ⟨ys,hy,q2⟩
   .simp only [if_neg hfew] at hc;exact nS hc
  | dict es nn =>
   by_cases hfew:c8 args=true
   .rw [hfew] at hc
    dsimp only [if_true] at hc
    (refine ao (Option.map_eq_some_iff.mp hc) fun id hid ζ5=>?_;obtain rfl:=ζ5)
    (refine aJ rob fun o1 o2 ζ6=>?_;clear rob;refine ao ζ6 fun kvs hD hK=>?_;clear ζ6)
    obtain⟨sl,ty⟩:=nj hid
    refine built hfew hD.dictOf.typeIs PySem.F.plainAttrs_dict sl ty ?_ fun φ2 own2 σ2 s2 vs zs hp2 w2 rs q2=>?_
    ·(refine fh hD fun oo ds g1 g2 _=>?_;clear hD);exact aW oo g1 g2.2.1
    ·(refine eE q2 fun i' ys n' ζ7=>?_;clear q2;refine aJ ζ7 fun e hy q2=>?_;clear ζ7)
     cases e
     exact kQ ok hid (ah hp2 g) rs φ2 own2 σ2 Q X s2 (GZ _) w2 ⟨ys,n',hy,q2⟩
   .simp only [if_neg hfew] at hc;exact nS hc
  | set ks =>
   by_cases hfew:c8 args=true
   .rw [hfew] at hc
    dsimp only [if_true] at hc
    (refine ao (Option.map_eq_some_iff.mp hc) fun id hid ζ8=>?_;obtain rfl:=ζ8)
    (obtain⟨o1,ζ9⟩:=rob;refine jh ζ9 fun S nn hS hm hn hz=>?_;clear ζ9)
    obtain⟨sl,ty⟩:=qA hid
    refine built hfew hS.typeIs PySem.F.plainAttrs_set sl ty (hS.noDict al rfl) fun φ2 own2 σ2 s2 vs zs hp2 w2 rs q2=>?_
    refine fh q2 fun i' ys e hy q2=>?_
    cases e
    exact mH ok hid (ah hp2 g) rs φ2 own2 σ2 Q X s2 (GZ _) w2 ⟨ys,hy,q2⟩
   .simp only [if_neg hfew] at hc;exact nS hc
  | inst cl fs =>
   (refine ao (Option.map_eq_some_iff.mp hc) fun gf hgf Ft=>?_;obtain rfl:=Ft)
   (refine bW (mo.meth cl name gf hgf) fun k hk hks hna Fp=>?_;refine lg Fp fun hhd hfi hty hget htk hcop Fx=>?_;clear Fp;refine aJ Fx fun hga hgt Fy=>?_;clear Fx;refine bq Fy fun fo fd hlk hfd=>?_;clear Fy)
   (obtain⟨o1,Fz⟩:=rob;refine ao Fz fun k' hk' r=>?_;clear Fz)
   rw [hk] at hk';cases hk'
   rw [hks] at r
   obtain⟨dd,es,n,od,hda,hx,hd,hst,huq,hsz,hm⟩:=r
   have X0:=In.stays co.inH w.stays
   have hl:=nQ (n:=n) hst hsz hm hna
   have I:PySem.W.InstAt s.heap al (PySem.W.instObj cl dd) cl (some { cls:=.type "dict",dict:=none,data:=.dict es n,slots:=#[] }):=⟨hx,rfl,rfl,hd⟩
   refine wpAny_bind (wpAny_holding ?_)
   induction hfew:c8 args with
   | true =>
    refine (?_:wpAny _ _ (getMethod _ _ _) _ _ _)
    refine PySem.W.method_fn X0 I hga hgt hfi hty (by refine (?_:(PySem.W.lookIn name _).map _=_);refine rwE hl ?_;rfl) ?_
    refine rest _ _ φ own s (Kp.refl ..) w fun φ2 own2 σ2 s2 vs xs k2 w2 rs q2=>?_
    have X2:=In.stays co.inH w2.stays
    exact⟨jC (X2 _ _ hlk) hfd,wpAny_call (hcall gf (.ref i::xs) (.ref al::vs) φ2 own2 σ2 Q X s2 ⟨ah k2.pre g,rs⟩ w2 q2)⟩
   | false =>
    refine (?_:wpAny _ _ (getAttr _ _ _ >>= _) _ _ _)
    refine wpAny_bind (PySem.W.get_bind X0 I hga (PySem.W.findObj_fn hhd hfi hget htk hcop hl) hgt
     (wpAny_call (PySem.W.fn_get (s:={ s with toks:=s.toks+1 }) X0 hty (PySem.W.handed_on rfl (wpAny_pure ?_)))))
    have hq:Quiet own C.B.Fw s.heap (s.heap.push (PySem.W.methodObj (.ref gf) (.ref al))):=Quiet.push w.stays _
    refine rest (.ref s.heap.objs.size) [] φ own { s with heap:=s.heap.push (PySem.W.methodObj (.ref gf) (.ref al)),toks:=s.toks+1 } (bY hq) (w.quiet hq _) fun φ2 own2 σ2 s2 vs xs k2 w2 rs q2=>?_
    have X2:=In.stays co.inH w2.stays
    have gq:(s.heap.push (PySem.W.methodObj (.ref gf) (.ref al))).get? s.heap.objs.size=some (PySem.W.methodObj (.ref gf) (.ref al)):=Heap.get?_push_size _ rfl
    have hown:own s.heap.objs.size=none:=by
     induction h:own s.heap.objs.size with
     | none=>rfl
     | some j=>obtain⟨o,e⟩:=(w.ownNew _ _ h).2.1;exact absurd (Heap.lt_size e) (Nat.lt_irrefl _)
    have hcur:¬ Cur f s.heap.objs.size:=by
     rintro (e | ⟨x,_,e,_⟩)
     .refine ao (w.fr.ns) fun ml hns _=>?_
      have:=hns.lt;rw [<- e] at this;exact Nat.lt_irrefl _ this
     .obtain⟨o,e'⟩:=(w.ownCell x _ e).2;exact absurd (Heap.lt_size e') (Nat.lt_irrefl _)
    obtain⟨sl,gq2⟩:=k2.keep _ _ gq hown hcur
    refine⟨lQ gq2 (X2 _ _ hlk) hfd,?_⟩
    refine wpAny_call (lX gq2 ?_)
    exact hcall gf (.ref i::xs) (.ref al::vs) φ2 own2 σ2 Q X s2 ⟨ah k2.pre g,rs⟩ w2 q2
  | _=>exact nS hc
end
end Mine
namespace Mine
open PySem PyProof.Rows
theorem set_same {α:Type} {H:List α} {i:Nat} {o:α} (he:H[i]?=some o):H.set i o=H:=by
 apply List.ext_getElem?;intro j
 refine (List.getElem?_set).trans ?_
 by_cases hj:i=j
 .subst hj;exact rwE (if_pos rfl) (rwE (if_pos (List.getElem?_eq_some_iff.mp he).1) (rwE he rfl))
 .exact if_neg hj
section
variable {B:Base} {fs:List Env} {f:Fm} {φ:List Addr} {own:Addr->Option Nat} {H:List O} {m:Str->Option V} {s:Shared}
theorem W.gen (x:W B fs f φ own H m s) {h':Heap} {i:Nat} {a:Addr} {o:O} {own':Addr->Option Nat} (hi:H[i]?=some o) (ha:φ[i]?=some a)
  (hold:∀ b,b < s.heap.objs.size->own' b=own b) (hnew:∀ b,s.heap.objs.size<=b->own' b=none\/(own' b=some i/\∃ o,h'.get? b=some o))
  (ow:∀ b ob j,own b=some j->j≠i->s.heap.get? b=some ob->h'.get? b=some ob)
  (un:∀ b ob,own b=none->s.heap.get? b=some ob->∃ sl,h'.get? b=some { ob with slots:=sl })
  (stays:B.Fw.StaysIn h') (hz:∀ b ob,own b=some i->s.heap.get? b=some ob->∃ o',h'.get? b=some o') (r:OR B φ own' h' i a o) (tk:Nat):W B fs f φ own' H m { s with heap:=h',toks:=tk } where
 eok:=x.eok
 len:=x.len
 obj:=fun j oj b e1 e2=>by
  by_cases hij:j=i
  .subst hij
   rw [hi] at e1;cases e1
   rw [ha] at e2;cases e2
   exact r
  .exact (x.obj j oj b e1 e2).keep (GZ _) (fun c w=>by obtain⟨o,e⟩:=(x.ownNew c j w).2.1;refine (hold c (Heap.lt_size e)).trans ?_;exact w) fun c ob w e=>ow c ob j w hij e
 stays:=stays
 ownNew:=fun b j w=>by
  by_cases hb:b < s.heap.objs.size
  .rw [hold b hb] at w
   refine aJ (x.ownNew b j w) fun w1 w2 w3=>?_
   obtain⟨o,e⟩:=w2
   refine⟨w1,?_,w3⟩
   by_cases hj:j=i
   .subst hj;exact hz b o w e
   .exact⟨o,ow b o j w hj e⟩
  .rcases hnew b (Nat.le_of_not_lt hb) with e | ⟨e,hb'⟩
   .rw [e] at w;exact nS w
   .rw [e] at w;cases w
    refine⟨?_,hb',(List.getElem?_eq_some_iff.mp hi).1⟩
    induction hq:B.Fw.get? b with
    | none=>rfl
    | some o=>exact absurd (Heap.lt_size (x.stays b o hq)) hb
 ownFr:=fun g hf L hL=>by
  have hlt:L < s.heap.objs.size:=by
   (obtain⟨_,ζ1⟩:=x.frames.mem (b:=L) (List.mem_filterMap.mpr ⟨g,hf,hL⟩);refine ao ζ1 fun o e _=>?_;clear ζ1)
   exact Heap.lt_size e
  refine rwE (hold L hlt) ?_;exact x.ownFr g hf L hL
 ownLoc:=by
  refine ao (x.fr.ns) fun ml hns _=>?_
  refine (hold _ hns.lt).trans ?_;exact x.ownLoc
 ownCell:=fun y c hc=>by
  obtain⟨w1,o,e⟩:=x.ownCell y c hc
  obtain⟨sl,e'⟩:=un c o w1 e
  exact⟨(hold c (Heap.lt_size e)).trans w1,_,e'⟩
 frames:=bh x.frames fun g hf L o hL e=>un L o (x.ownFr g hf L hL) e
 fr:=x.fr.keep (GZ _) (fun o e=>un _ o x.ownLoc e) fun y c o hc e=>un c o (x.ownCell y c hc).1 e
 gens:=x.gens
 os:=x.os
 fas:=x.fas
end
section
variable {M:Model} {A:Around} {E:Value->Shared->Prop} {B:Base} {f:Fm} {fs:List Env} {φ:List Addr} {own:Addr->Option Nat} {H:List O} {m:Str->Option V} {s:Shared}
noncomputable def Traced (h:Heap) (e:Addr):Prop:=∃ oe vs T,h.get? e=some oe/\oe.data=.fields vs/\vs[1]?=some (Value.ref T)
theorem cQ (w:W B fs f φ own H m s) {i:Nat} {c:V} {args:List V} {e:Addr} (he:H[i]?=some (.exc c args)) (ge:φ[i]?=some e) {fr:Option Addr} {Q:Unit->Shared->Prop}
  (h:∀ h',W B fs f φ own H m { s with heap:=h' }->Kp f φ own s.heap φ own h'->Q () { s with heap:=h' }):wpAny M A (setFlight (.ref e) fr) Q E s:=by
 obtain⟨we,vc,oe,vs,t,ts,n,hc,g,gc,gd,g0,wt,hte,gt,hv,htb⟩:=w.obj i _ e he ge
 unfold setFlight
 rcases htb with e1 | ⟨T,oT,tvs,e1,wT,hTa,hTt,gT,gTd,hsz⟩
 .refine wpAny_bind (wpAny_field g gd e1 ?_)
  refine rwE (if_neg (by decide)) ?_
  exact wpAny_pure (h s.heap w (Kp.refl ..))
 .refine wpAny_bind (wpAny_field g gd e1 ?_)
  refine rwE (if_pos (show (Value.ref T != Value.none)=true from by rfl)) ?_
  refine wpAny_setField gT gTd hsz ?_
  have hs:Heap.SameBut T s.heap (s.heap.update T (Obj.mapFields fun x=>x.setIfInBounds 3 (fr.elim Value.none fun f=>rawInt f))):=Heap.SameBut.update ..
  have hs':∀ b,own b≠some i->(s.heap.update T (Obj.mapFields fun x=>x.setIfInBounds 3 (fr.elim Value.none fun f=>rawInt f))).get? b=s.heap.get? b:=fun b hb=>hs.2 b fun q=>hb (q ▸ wT)
  have hd3:=Obj.data_mapFields gTd (fun x=>x.setIfInBounds 3 (fr.elim Value.none fun f=>rawInt f))
  have r:=w.upd (h':=s.heap.update T (Obj.mapFields fun x=>x.setIfInBounds 3 (fr.elim Value.none fun f=>rawInt f))) (i:=i) (o':=.exc c args) (List.getElem?_eq_some_iff.mp he).1 ge hs' (aM hs ⟨_,Heap.get?_update_self _ gT (Obj.isFreed_of_fields hd3)⟩)
   ⟨we,vc,oe,vs,t,ts,n,hc,(hs.2 e (Ne.symm hTa)).trans g,gc,gd,g0,wt,hte,(hs.2 t (Ne.symm hTt)).trans gt,hv,.inr ⟨T,_,_,e1,wT,hTa,hTt,Heap.get?_update_self _ gT (Obj.isFreed_of_fields hd3),hd3,by simpa using hsz⟩⟩ s.toks
  have hH:H.set i (.exc c args)=H:=set_same he
  rw [hH] at r
  exact h _ r (mQ hs' (aM hs ⟨_,Heap.get?_update_self _ gT (Obj.isFreed_of_fields hd3)⟩))
theorem eW (w:W B fs f φ own H m s) (hA:A.frames=some fs) {env:Env} {outer:List Env} (hfs:fs=env::outer) {L:Addr} (hf:env.frame=some L) {i:Nat} {c:V} {args:List V} {e:Addr} (he:H[i]?=some (.exc c args)) (ge:φ[i]?=some e) {Q:Unit->Shared->Prop}
  (h:∀ h' own',W B fs f φ own' H m { s with heap:=h' }->Kp f φ own s.heap φ own' h'->Traced h' e->Q () { s with heap:=h' }):wpAny M A (noteFrame (.ref e) env) Q E s:=by
 -- the new entry,behind whatever stood
 have entry:∀ (s:Shared) (w:W B fs f φ own H m s) (head:Value) (hadNext:Bool) (Q:Unit->Shared->Prop),
   (∀ h' own',W B fs f φ own' H m { s with heap:=h' }->Kp f φ own s.heap φ own' h'->Traced h' e->Q () { s with heap:=h' }) ->
   wpAny M A (do let a <- frameOf env;let pl <- entryPlaceOf L hadNext;let b <- EntryCells.newEntry head a .none (rawInt L) .none pl;setField (.ref e) 1 b) Q E s:=by
  intro s w head hadNext Q h
  obtain⟨we,vc,oe,vs,t,ts,n,hc,g,gc,gd,g0,wt,hte,gt,hv,htb⟩:=w.obj i _ e he ge
  have hsz1:1 < vs.size:=by
   rcases htb with e1 | ⟨T,oT,tvs,e1,_⟩<;>exact (Array.getElem?_eq_some_iff.mp e1).1
  have hl:s.heap.FunFrames B.Fw (env::outer):=hfs ▸ w.frames
  refine wpAny_bind (wpAny_frameOf_fun (hfs ▸ hA) hl hf fun FA FJ=>?_)
  refine wpAny_bind (wpAny_entryPlaceOf fun pl hpl=>?_)
  (delta EntryCells.newEntry newFields;try dsimp only)
  refine wpAny_bind (wpAny_newObj_type ?_ (hpl.sizeOk5 _ _ _ _ _))
  have fnone:∀ b,b∈(env::outer).filterMap (·.frame)->own b=none:=fun b hb=>by
   refine ao (List.mem_filterMap.mp hb) fun g' hg' hb'=>?_
   exact w.ownFr g' (hfs ▸ hg') b hb'
  have fbase:∀ b,b∈(env::outer).filterMap (·.frame)->B.Fw.get? b=none:=fun b hb=>(hl.mem hb).1
  have ow1:∀ b j,own b=some j->FA.get? b=s.heap.get? b:=fun b j hb=>FJ.2.1 b fun hm=>by rw [fnone b hm] at hb;exact nS hb
  have Gi:FA.get? e=some oe:=(ow1 e i we).trans g
  have F3:FA.objs.size=s.heap.objs.size:=FJ.1
  have FY:=Heap.get?_push_of_some (h:=FA) { cls:=.type "traceback",dict:=none,data:=.fields ([head,.ref L,.none,rawInt L,.none]++(if pl.isEmpty then List.replicate 6 Value.none else pl)).toArray } Gi
  refine wpAny_setField FY gd hsz1 ?_
  have hTe:FA.objs.size≠e:=Nat.ne_of_gt (Heap.lt_size Gi)
  have F6:=Obj.data_mapFields gd (·.setIfInBounds 1 (Value.ref FA.objs.size))
  have FZ:=Heap.get?_update_self (Obj.mapFields (·.setIfInBounds 1 (Value.ref FA.objs.size))) FY (Obj.isFreed_of_fields F6)
  have keep:∀ b ob,b≠e->FA.get? b=some ob->((FA.push { cls:=.type "traceback",dict:=none,data:=.fields ([head,.ref L,.none,rawInt L,.none]++(if pl.isEmpty then List.replicate 6 Value.none else pl)).toArray }).update e (Obj.mapFields (·.setIfInBounds 1 (Value.ref FA.objs.size)))).get? b=some ob:=
   fun b ob hb hg=>(Heap.get?_update_other _ _ (Ne.symm hb)).trans (Heap.get?_push_of_some _ hg)
  have Gh:=(Heap.get?_update_other (FA.push { cls:=.type "traceback",dict:=none,data:=.fields ([head,.ref L,.none,rawInt L,.none]++(if pl.isEmpty then List.replicate 6 Value.none else pl)).toArray })
   (Obj.mapFields (·.setIfInBounds 1 (Value.ref FA.objs.size))) (Ne.symm hTe)).trans (Heap.get?_push_size FA rfl)
  have hsize:((FA.push { cls:=.type "traceback",dict:=none,data:=.fields ([head,.ref L,.none,rawInt L,.none]++(if pl.isEmpty then List.replicate 6 Value.none else pl)).toArray }).update e (Obj.mapFields (·.setIfInBounds 1 (Value.ref FA.objs.size)))).objs.size=s.heap.objs.size+1:=by
   rw [(Heap.SameBut.update ..).1,Heap.size_push,F3]
  refine h _ (ownAt own s.heap.objs.size i [s.heap.objs.size]) ?_ ?_ ⟨_,_,_,FZ,F6,by simp [hsz1];rfl⟩
  .refine w.gen (i:=i) he ge (fun b hb=>df hb) (fun b hb=>?_) (fun b ob j hb hj hg=>?_) (fun b ob hb hg=>?_) (fun b ob hb=>?_) (fun b ob hb hg=>?_) ?_ s.toks
   .unfold ownAt
    refine rwE (if_neg (Nat.not_lt.mpr hb)) ?_
    by_cases e1:b=s.heap.objs.size
    .right;subst e1;refine rwE (if_pos (by exact List.mem_singleton_self _)) ?_;exact⟨rfl,_,by rw [<- F3];exact Gh⟩
    .left;exact if_neg (by simpa using e1)
   .exact keep b ob (fun q=>by subst q;rw [we] at hb;cases hb;exact hj rfl) ((ow1 b j hb).trans hg)
   .obtain⟨sl,hg1⟩:=FJ.2.2 b ob hg
    exact⟨sl,keep b _ (fun q=>by subst q;rw [we] at hb;exact sN hb) hg1⟩
   .refine keep b ob (fun q=>by subst q;rw [(w.ownNew _ _ we).1] at hb;exact nS hb) ((FJ.2.1 b fun hm=>?_).trans (w.stays b ob hb))
    rw [fbase b hm] at hb;exact nS hb
   .by_cases hbe:b=e
    .subst hbe;exact⟨_,FZ⟩
    .exact⟨_,keep b ob hbe ((ow1 b i hb).trans hg)⟩
   .have hle:e < s.heap.objs.size:=Heap.lt_size g
    have hlt:t < s.heap.objs.size:=Heap.lt_size gt
    refine⟨(df hle).trans we,vc,_,_,t,ts,n,hc,FZ,(Obj.cls_mapFields _ _).trans gc,F6,?_,(df hlt).trans wt,hte,keep t _ hte ((ow1 t i wt).trans gt),hv,.inr ⟨FA.objs.size,_,_,?_,?_,hTe,?_,Gh,rfl,?_⟩⟩
    .refine (Array.getElem?_setIfInBounds_ne (by decide)).trans ?_;exact g0
    .exact Array.getElem?_setIfInBounds_self_of_lt hsz1
    .refine rwE F3 ?_;exact bR (Nat.le_refl _) (by exact List.mem_singleton_self _)
    .refine rwE F3 ?_;exact Nat.ne_of_gt hlt
    .simp only [List.size_toArray,GY,List.length_cons,List.length_nil];exact G5   (Nat.succ_le_of_lt     (Nat.le_add_right (Nat.succ (3+1))       (List.length (if List.isEmpty pl=true then List.replicate 6 Value.none else pl))))
  .refine⟨GZ _,fun b o hb=>df (Heap.lt_size hb),fun b o hg=>?_,fun b ob hg hb _=>?_,fun b ob hg hb _ hn=>?_⟩
   .by_cases hbe:b=e
    .subst hbe;exact⟨_,FZ⟩
    .obtain⟨sl,hg1⟩:=FJ.2.2 b o hg
     exact⟨_,keep b _ hbe hg1⟩
   .obtain⟨sl,hg1⟩:=FJ.2.2 b ob hg
    exact⟨sl,keep b _ (fun q=>by subst q;rw [we] at hb;exact sN hb) hg1⟩
   .exact keep b _ (fun q=>by subst q;rw [we] at hb;exact sN hb) ((FJ.2.1 b fun hm=>hn ((w.fas b).mp (by refine rwE hfs ?_;exact hm))).trans hg)
 obtain⟨we,vc,oe,vs,t,ts,n,hc,g,gc,gd,g0,wt,hte,gt,hv,htb⟩:=w.obj i _ e he ge
 (delta noteFrame;try dsimp only)
 simp only [hf]
 rcases htb with e1 | ⟨T,oT,tvs,e1,wT,hTa,hTt,gT,gTd,hsz⟩
 .refine wpAny_bind (wpAny_field g gd e1 ?_)
  refine rwE (if_neg (by decide)) ?_
  exact entry s w _ _ Q h
 .refine wpAny_bind (wpAny_field g gd e1 ?_)
  refine rwE (if_pos (show (Value.ref T != Value.none)=true from by rfl)) ?_
  refine wpAny_bind (wpAny_field gT gTd (x:=tvs[3]) (by simp) ?_)
  by_cases hb:(tvs[3] == rawInt L)=true
  .refine rwE (if_pos hb) ?_;exact wpAny_pure (h s.heap own w (Kp.refl ..) ⟨oe,vs,T,g,gd,e1⟩)
  .refine rwE (if_neg hb) ?_
   refine wpAny_bind (wpAny_setField gT gTd hsz ?_)
   have hs:Heap.SameBut T s.heap (s.heap.update T (Obj.mapFields fun x=>x.setIfInBounds 3 Value.none)):=Heap.SameBut.update ..
   have hs':∀ b,own b≠some i->(s.heap.update T (Obj.mapFields fun x=>x.setIfInBounds 3 Value.none)).get? b=s.heap.get? b:=fun b hb=>hs.2 b fun q=>hb (q ▸ wT)
   have hd3:=Obj.data_mapFields gTd (fun x=>x.setIfInBounds 3 Value.none)
   have r:=w.upd (h':=s.heap.update T (Obj.mapFields fun x=>x.setIfInBounds 3 Value.none)) (i:=i) (o':=.exc c args) (List.getElem?_eq_some_iff.mp he).1 ge hs' (aM hs ⟨_,Heap.get?_update_self _ gT (Obj.isFreed_of_fields hd3)⟩)
    ⟨we,vc,oe,vs,t,ts,n,hc,(hs.2 e (Ne.symm hTa)).trans g,gc,gd,g0,wt,hte,(hs.2 t (Ne.symm hTt)).trans gt,hv,.inr ⟨T,_,_,e1,wT,hTa,hTt,Heap.get?_update_self _ gT (Obj.isFreed_of_fields hd3),hd3,by simpa using hsz⟩⟩ s.toks
   have hH:H.set i (.exc c args)=H:=set_same he
   rw [hH] at r
   refine entry _ r _ _ Q fun h' own' w' k' tr=>h h' own' w' ?_ tr
   exact (mQ (i:=i) hs' (aM hs ⟨_,Heap.get?_update_self _ gT (Obj.isFreed_of_fields hd3)⟩)).trans k'
theorem t6 (w:W B fs f φ own H m s) (hA:A.frames=some fs) {env:Env} {outer:List Env} (hfs:fs=env::outer) {L:Addr} (hf:env.frame=some L) {i:Nat} {c:V} {args:List V} {e:Addr} (he:H[i]?=some (.exc c args)) (ge:φ[i]?=some e) {Q:Unit->Shared->Prop}
  (h:∀ h' own',W B fs f φ own' H m { s with heap:=h' }->Kp f φ own s.heap φ own' h'->Q () { s with heap:=h' }):wpAny M A (leaving env (.ref e)) Q E s:=by
 unfold leaving
 refine wpAny_bind (eW w hA hfs hf he ge fun h' own' w' k' _=>?_)
 exact cQ w' he ge fun h'' w'' k''=>h h'' own' w'' (k'.trans k'')
end
end Mine
namespace Mine
open PySem PyProof.Rows
noncomputable def FlR (φ:List Addr):Fl->Flow->Prop
 | .next,.next=>True
 | .brk,.brk=>True
 | .cont,.cont=>True
 | .ret v,.ret y=>VR φ v y
 | _,_=>False
theorem lookup_mem {α:Type}:∀ {l:List (Str × α)} {x:Str} {v:α},l.lookup x=some v->(x,v)∈l
 | [],_,_,h=>by exact nS h
 | (y,u)::r,x,v,h=>by
  rw [List.lookup] at h
  induction hq:x == y with
  | true=>rw [hq] at h;cases h;refine rwE (beq_iff_eq.mp hq) ?_;exact .head _
  | false=>rw [hq] at h;exact .tail _ (lookup_mem h)
theorem jV {kindOf:Str->Option NameKind}:∀ (binds:List (Str × Value)) (m:Str->Option Value) (x:Str),kindOf x=some .local->(binds.map (·.1)).Nodup ->
  PySem.bindL kindOf binds m x=(match binds.lookup x with | some v=>some v | none=>m x)
 | [],m,x,hk,hn=>rfl
 | (n,v)::r,m,x,hk,hn=>by
  obtain⟨h1,h2⟩:=List.nodup_cons.mp (by simpa using hn:(n::r.map (·.1)).Nodup)
  refine (?_:PySem.bindL kindOf r (if kindOf n=some .local then fun y=>if y=n then some v else m y else m) x=_)
  refine (jV r _ x hk h2).trans ?_
  by_cases hx:x=n
  .subst hx
   have h3:r.lookup x=none:=by
    induction h:r.lookup x with
    | none=>rfl
    | some y=>exact absurd (List.mem_map.mpr ⟨(x,y),lookup_mem h,rfl⟩) h1
   simp [List.lookup,h3,hk]
  .have:(x == n)=false:=beq_eq_false_iff_ne.mpr hx
   simp only [List.lookup,this]
   induction r.lookup x with
   | some y=>rfl
   | none =>
    simp only
    split
    .exact if_neg (by assumption)
    .rfl
theorem jU {kindOf:Str->Option NameKind}:∀ (binds:List (Str × Value)) (m:Str->Option Value) (x:Str),kindOf x=some .cell->(binds.map (·.1)).Nodup ->
  PySem.bindC kindOf binds m x=(match binds.lookup x with | some v=>some v | none=>m x)
 | [],m,x,hk,hn=>rfl
 | (n,v)::r,m,x,hk,hn=>by
  obtain⟨h1,h2⟩:=List.nodup_cons.mp (by simpa using hn:(n::r.map (·.1)).Nodup)
  refine (?_:PySem.bindC kindOf r (if kindOf n=some .local then m else fun y=>if y=n then some v else m y) x=_)
  refine (jU r _ x hk h2).trans ?_
  by_cases hx:x=n
  .subst hx
   have h3:r.lookup x=none:=by
    induction h:r.lookup x with
    | none=>rfl
    | some y=>exact absurd (List.mem_map.mpr ⟨(x,y),lookup_mem h,rfl⟩) h1
   simp [List.lookup,h3,hk]
  .have:(x == n)=false:=beq_eq_false_iff_ne.mpr hx
   simp only [List.lookup,this]
   induction r.lookup x with
   | some y=>rfl
   | none =>
    simp only
    split
    .rfl
    .exact if_neg (by assumption)
theorem VRs.fV {φ:List Addr} (x:Str):∀ (ps:List Str) {xs:List V} {vs:List Value},VRs φ xs vs->VRo φ ((ps.zip xs).lookup x) ((ps.zip vs).lookup x)
 | [],_,_,_=>by simp [VRo]
 | _::_,[],[],_=>by trivial
 | p::ps,a::xs,b::vs,⟨h1,h2⟩=>by
  dsimp only [List.zip_cons_cons,List.lookup]
  induction x == p with
  | true=>exact h1
  | false=>exact VRs.fV x ps h2
theorem fJ:∀ (ps:List Str) (vs:List Value),((ps.zip vs).map (·.1)) <+: ps
 | [],_=>by simp
 | _::_,[]=>by simp
 | p::ps,v::vs=>by simpa using fJ ps vs
theorem dO {α:Type} {a b:List α} (h:a <+: b) (hb:b.Nodup):a.Nodup:=by
 obtain⟨t,rfl⟩:=h
 exact (List.nodup_append.mp hb).1
structure qP (B:Base) (a:Addr) (fn:Fn):Prop where
 obj:∃ o fd,B.K.lookup a=some o/\o.data=.func fd/\fd.scope=fn.scope/\fd.body=.stmts fn.body/\fd.closure=[]/\fd.globals=mainGlobals/\fd.builtins=builtinsNs/\PySem.W.codeIn B.K fd.code fd.qualname=true /\
  ∀ (M:Model) (A:Around) (E:Value->Shared->Prop) (Q:List (Str × Value)->Shared->Prop) (s:Shared) (vs:List Value),B.K.In s.heap->match fn.vararg with
   | none=>fn.params.length<=vs.length+fn.defaults.length->vs.length<=fn.params.length->∃ ds,VRs [] (fn.defaults.drop (fn.defaults.length - (fn.params.length - vs.length))) ds/\(Q (fn.params.zip (vs++ds)) s->wpAny M A (bindArgs fd ⟨vs,[]⟩) Q E s)
   | some va=>fn.defaults=[]/\(fn.params.length<=vs.length->wpAny M A (PySem.newTuple (vs.drop fn.params.length)) (fun t s'=>Q (fn.params.zip vs++[(va,t)]) s') E s->wpAny M A (bindArgs fd ⟨vs,[]⟩) Q E s)
 co:fn.scope.isCoroutine=false
 gen:fn.scope.isGenerator=false
 kind:fn.scope.kind=.function
 cells:((PySem.cellsFrom 0 fn.scope.names []).map (·.1)).Nodup
 cellIn:∀ x,fn.scope.names.lookup x=some .cell->x∈(PySem.cellsFrom 0 fn.scope.names []).map (·.1)
 noFree:∀ x,fn.scope.names.lookup x≠some .free
 nm:∀ x k,fn.scope.names.lookup x=some k->fE x=true
 names:(fn.params++fn.vararg.toList).Nodup
 bound:∀ x∈fn.params++fn.vararg.toList,fn.scope.names.lookup x=some .local\/fn.scope.names.lookup x=some .cell
theorem dh {n:Nat} {l:List (Str × Addr)} {x:Str} {names:List (Str × NameKind)} (h:x∈(PySem.cellsFrom 0 names []).map (·.1)):((PySem.cellsFrom n names []).lookup x).isSome=true:=by
 rw [PyProof.Rows.cellsFrom_names names 0 n [] [] rfl] at h
 (refine ao (List.mem_map.mp h) fun p hp ζ1=>?_;obtain rfl:=ζ1)
 generalize PySem.cellsFrom n names []=l at hp
 induction l with
 | nil=>cases hp
 | cons q r ih =>
  obtain⟨q1,q2⟩:=q
  rw [List.lookup]
  induction hq:p.1 == q1 with
  | true=>rfl
  | false =>
   rcases List.mem_cons.mp hp with e | hp
   .rw [e,beq_self_eq_true] at hq;exact Bool.noConfusion hq
   .exact ih hp
noncomputable def Ctx.deep (C:Ctx) (env:Env):Ctx:=⟨C.B,env::C.fs,C.A.deeper env⟩
section
variable {C:Ctx} {f:Fm} {K:Cfg} {d:Nat}
theorem pF {fn:Fn} {a:Addr} (hco:fn.scope.isCoroutine=false) (fk:qP C.B a fn) (hfr:C.A.frames=some C.fs) (hlim:C.B.Fw.NoLimit) {qual:Str} {code:Value} (hcd:∃ q,PySem.W.codeIn C.B.K code q=true) {binds:List (Str × Value)} {mB:Str->Option V} {Hb:List O}
  (hbody:∀ env fas φ₀,env.scope=fn.scope->env.frame≠none->ae (C.deep env) ⟨env,[],fas⟩ φ₀ (execs fn.body env) (a7 K fn.body fn.scope []) FlR)
  (hn:(binds.map (·.1)).Nodup) (hb:∀ x∈binds,fn.scope.names.lookup x.1=some .local\/fn.scope.names.lookup x.1=some .cell)
  {φ:List Addr} {own:Addr->Option Nat} {m:Str->Option V} {s:Shared} (w:W C.B C.fs f φ own Hb m s) (hmB:∀ x,VRo φ (mB x) (binds.lookup x)) {R:Result->Shared->Prop} {Q:V->List O->Prop} {X:V->List O->Prop} {E:Value->Shared->Prop}
  (hq:a7 K fn.body fn.scope [] ⟨Hb,mB⟩ (fun fl σ=>Q (match fl with | .ret v=>v | _=>.none) σ.H) (fun e σ=>X e σ.H))
  (hR:∀ v s',QP C f φ own s.heap VR (fun v σ=>Q v σ.H/\σ.m=m) v s'->R (.ok (.ret v)) s') (hE:∀ e s',EP C f φ own s.heap (fun v σ=>X v σ.H/\σ.m=m) e s'->R (.error e) s') :
  wpAny C.M C.A.in1 (newFunctionEnv fn.scope mainGlobals [] binds qual (some a) code none builtinsNs) (fun env FI=>FI.heap.NoLimit/\codeAny C.M C.A (.func fn.body env) R FI) E s:=by
 refine wpAny_newFunctionEnv_cells fk.kind (fun x hx=>?_) fun env he Fv x=>?_
 .rcases hb x hx with h | h
  .exact .inl h
  .exact .inr ⟨h,dh (l:=[]) (fk.cellIn _ h)⟩
 have hsc:env.scope=fn.scope:=by refine rwE he ?_;rfl
 have hL:env.locals=s.heap.objs.size:=by refine rwE he ?_;rfl
 have hcl:env.cells=PySem.cellsFrom (s.heap.objs.size+1) fn.scope.names []:=by refine rwE he ?_;rfl
 have hfrm:env.frame=some s.heap.objs.size:=by refine rwE he ?_;rfl
 have hgl:env.globals=mainGlobals:=by refine rwE he ?_;rfl
 have hbl:env.builtins=builtinsNs:=by refine rwE he ?_;rfl
 (refine bq (x.done) fun FA tk ζ2 FL=>?_;obtain rfl:=ζ2)
 have hsize:s.heap.objs.size < FA.objs.size:=by have:=x.toInCall.ns.lt;rw [hL] at this;exact this
 have hcellmem:∀ n c,env.cells.lookup n=some c->(n,c)∈env.cells:=fun n c h=>lookup_mem h
 have habove:∀ n c,env.cells.lookup n=some c->s.heap.objs.size < c:=fun n c h=>by have:=x.above n c (hcellmem n c h);rw [hL] at this;exact this
 have hfresh:∀ b,s.heap.objs.size<=b->own b=none:=fun b hb'=>by
  induction h:own b with
  | none=>rfl
  | some j=>obtain⟨o,e⟩:=(w.ownNew _ _ h).2.1;exact absurd (Heap.lt_size e) (Nat.not_lt.mpr hb')
 have hbase:∀ b,s.heap.objs.size<=b->C.B.Fw.get? b=none:=fun b hb'=>by
  induction h:C.B.Fw.get? b with
  | none=>rfl
  | some o=>exact absurd (Heap.lt_size (w.stays b o h)) (Nat.not_lt.mpr hb')
 have hstay:C.B.Fw.StaysIn FA:=fun b o e=>FL b o (w.stays b o e)
 refine⟨by (refine ao hlim fun mc h1 h2=>?_;clear hlim);exact⟨mc,Ns.stays h1 hstay,h2⟩,codeAny_func ?_⟩
 have w1:W C.B (env::C.fs) ⟨env,[],s.heap.objs.size::f.fas⟩ φ own Hb mB { s with heap:=FA,toks:=tk }:=by
  refine⟨⟨by refine rwE hsc ?_;exact fk.kind,hgl,hbl,⟨env,C.fs,_,rfl,hfrm,hfrm⟩,fun y z c h1 h2=>?_,fun y c h1=>?_,?_,fun y c h1=>hbase c (G5 (habove y c h1)),by refine rwE he ?_;exact hcd⟩,w.len,fun i o b e1 e2=>(w.obj i o b e1 e2).keep (GZ _) (fun _ h=>h) (fun c ob _ e=>FL c ob e),hstay,
   fun b i h=>⟨(w.ownNew b i h).1,let ⟨o,e⟩:=(w.ownNew b i h).2.1;⟨o,FL b o e⟩,(w.ownNew b i h).2.2⟩,fun g hg L hL'=>?_,?_,fun y c h1=>⟨hfresh c (G5 (habove y c h1)),?_⟩,?_,⟨⟨_,x.toInCall.ns,fun y hy=>?_⟩,fun y hy=>?_⟩,w.gens,w.os,fun b=>?_⟩
  .have p:=x.apart
   have m1:=hcellmem y c h1
   have m2:=hcellmem z c h2
   by_cases e:y=z
   .exact e
   .refine pZ (List.getElem_of_mem m1) fun i hi e1=>?_
    refine pZ (List.getElem_of_mem m2) fun j hj e2=>?_
    rcases Nat.lt_trichotomy i j with h | h | h
    .have:=List.pairwise_iff_getElem.mp p i j hi hj h
     exact absurd rfl (by rw [e1,e2] at this;exact this)
    .subst h;replace e2:=((e1).symm.trans e2);cases e2;rfl
    .have:=List.pairwise_iff_getElem.mp p j i hj hi h
     exact absurd rfl (by rw [e1,e2] at this;exact this)
  .refine (?_:c≠env.locals);refine rwE hL ?_;exact Nat.ne_of_gt (habove y c h1)
  .refine (?_:C.B.Fw.get? env.locals=none);refine rwE hL ?_;exact hbase _ (Nat.le_refl _)
  .rcases List.mem_cons.mp hg with rfl | hg
   .rw [hfrm] at hL';cases hL';exact hfresh _ (Nat.le_refl _)
   .exact w.ownFr g hg L hL'
  .refine (?_:own env.locals=none);refine rwE hL ?_;exact hfresh _ (Nat.le_refl _)
  .refine ao (x.cell y c h1) fun o e _=>?_;exact⟨o,e⟩
  .exact .cons (by refine rwE hsc (rwE fk.kind ?_);decide) (by exact rwE hfrm (rwS hL rfl)) x.toInCall.ns (by refine rwE hL ?_;exact hbase _ (Nat.le_refl _)) (w.frames.of_keeps fun b o e _=>⟨o,FL b o e,rfl⟩)
  .have hy':env.kindOf y=some .local:=hy
   refine rwE (jV _ _ _ hy' hn) ?_
   have:=hmB y
   induction hl:binds.lookup y with
   | some v=>rw [hl] at this;exact this.vrp
   | none=>rw [hl] at this;exact this.vrp
  .have hy':env.kindOf y=some .cell:=by
    rcases hy with h | h
    .exact h
    .exact absurd (by have:env.scope.names.lookup y=some .free:=h;rw [hsc] at this;exact this) (fk.noFree y)
   have hs:(env.cells.lookup y).isSome=true:=by
    refine rwE hcl ?_
    refine dh (l:=[]) (fk.cellIn _ ?_)
    have:env.scope.names.lookup y=some .cell:=hy'
    rw [hsc] at this;exact this
   obtain⟨c,hc⟩:=Option.isSome_iff_exists.mp hs
   refine jk c _ hc (x.cell y c hc) ?_
   refine rwE (jU _ _ _ hy' hn) ?_
   have:=hmB y
   induction hl:binds.lookup y with
   | some v=>rw [hl] at this;exact this.vrp
   | none=>rw [hl] at this;exact this.vrp
  .refine rwE List.filterMap_cons (rwE hfrm ?_)
   constructor
   .intro hb'
    rcases List.mem_cons.mp hb' with e | hb'
    .refine rwE e ?_;exact .head _
    .exact .tail _ ((w.fas b).mp hb')
   .intro hb'
    rcases List.mem_cons.mp hb' with e | hb'
    .refine rwE e ?_;exact .head _
    .exact .tail _ ((w.fas b).mpr hb')
 -- back in the caller
 have hcurN:∀ b,b < s.heap.objs.size->¬ Cur ⟨env,[],s.heap.objs.size::f.fas⟩ b:=fun b hb'=>by
  rintro (e | ⟨y,_,e,_⟩)
  .have e:b=env.locals:=e
   replace e:=(e.trans (hL));exact Nat.ne_of_lt hb' e
  .exact absurd (habove y b e) (by exact Nat.not_lt_of_ge (G5 hb'))
 have back:∀ {φ2 own2 H2 m2 s2},Kp ⟨env,[],s.heap.objs.size::f.fas⟩ φ own FA φ2 own2 s2.heap->W C.B (env::C.fs) ⟨env,[],s.heap.objs.size::f.fas⟩ φ2 own2 H2 m2 s2->Kp f φ own s.heap φ2 own2 s2.heap/\W C.B C.fs f φ2 own2 H2 m s2:=by
  intro φ2 own2 H2 m2 s2 k2 w2
  have keep:∀ b o,s.heap.get? b=some o->own b=none->∃ sl,s2.heap.get? b=some { o with slots:=sl }:=fun b o e ho=>k2.keep b o (FL b o e) ho (hcurN b (Heap.lt_size e))
  have old:∀ b o,s.heap.get? b=some o->own2 b=own b:=fun b o e=>k2.ownOld b o (FL b o e)
  (refine ao (w.fr.ns) fun ml ζ3 _=>?_;obtain⟨oL,_,_,hLe,_⟩:=ζ3)
  refine⟨⟨k2.pre,old,fun b o e=>k2.alive b o (FL b o e),fun b o e ho _=>keep b o e ho,fun b o e ho _ hn=>k2.ex b o (FL b o e) ho (hcurN b (Heap.lt_size e)) fun hm=>?_⟩,⟨w.eok,w2.len,w2.obj,w2.stays,w2.ownNew,fun g hg=>w2.ownFr g (.tail _ hg),(old _ oL hLe).trans w.ownLoc,fun y c hc=>?_,w2.frames.2.2,?_,w2.gens,w2.os,w.fas⟩⟩
  .rcases List.mem_cons.mp hm with e1 | hm
   .exact absurd (Heap.lt_size e) (by refine rwE e1 ?_;exact Nat.lt_irrefl _)
   .exact hn hm
  .obtain⟨w1',o,e⟩:=w.ownCell y c hc
   exact⟨(old c o e).trans w1',k2.alive c o (FL c o e)⟩
  .exact w.fr.keep k2.pre (fun o e=>keep _ o e w.ownLoc) fun y c o hc e=>keep c o e (w.ownCell y c hc).1
 refine wpAny_mono (hbody env _ φ hsc (by refine rwE hfrm ?_;exact Option.some_ne_none (Array.size (Heap.objs (Shared.heap s)))) φ own ⟨Hb,mB⟩ (fun fl σ=>Q (match fl with | .ret v=>v | _=>.none) σ.H) (fun e σ=>X e σ.H) _ (GZ _) w1 hq) ?_ ?_
 .rintro fl s2 ⟨φ2,own2,σ2,b,k2,w2,r2,q2⟩
  obtain⟨k3,w3⟩:=back k2 w2
  refine hR _ _ ⟨φ2,own2,⟨σ2.H,m⟩,_,k3,w3,?_,q2,rfl⟩
  induction b<;>induction fl<;>first | exact r2.elim | exact r2 | exact trivial
 .rintro e s2 ⟨φ2,own2,σ2,i,a',k2,w2,rfl,ga,⟨c,args,hex⟩,q2⟩
  refine t6 w2 (Around.frames_deeper hfr) rfl hfrm hex ga fun h' own' w' k'=>?_
  obtain⟨k3,w3⟩:=back (k2.trans k') w'
  exact hE _ _ ⟨φ2,own',⟨σ2.H,m⟩,i,a',k3,w3,rfl,ga,⟨c,args,hex⟩,q2,rfl⟩
end
end Mine
namespace Mine
open PySem PyProof.Rows
noncomputable def Back (C:Ctx) (f:Fm) (φ:List Addr) (own:Addr->Option Nat) (h:Heap) (Q:V->St->Prop) (X:V->St->Prop):Result->Shared->Prop:=
 fun r s'=>match r with | .ok (.ret v)=>QP C f φ own h VR Q v s' | .ok _=>False | .error e=>EP C f φ own h X e s'
theorem VRs.pM {ps:List Str} {α:Type}:∀ (ps:List Str) (xs:List α),ps.zip (xs.take ps.length)=ps.zip xs
 | [],_=>by rfl
 | _::_,[]=>by rfl
 | p::ps,x::xs=>by simp [VRs.pM (ps:=ps) ps xs]
section
variable {C:Ctx} {f:Fm} {K:Cfg} {d:Nat}
theorem rm {fn:Fn} {a:Addr} (co:bB C.B K) (fk:qP C.B a fn) (hfr:C.A.frames=some C.fs) (hroom:C.A.depth < recursionLimit) (hlim:C.B.Fw.NoLimit)
  (hbody:∀ env fas φ₀,env.scope=fn.scope->env.frame≠none->ae (C.deep env) ⟨env,[],fas⟩ φ₀ (execs fn.body env) (a7 K fn.body fn.scope []) FlR)
  {args:List V} {vs:List Value} {φ:List Addr} {own:Addr->Option Nat} {H:List O} {m:Str->Option V} {Q X:V->St->Prop} {s:Shared} (rs:VRs φ args vs) (w:W C.B C.fs f φ own H m s)
  (q:eN K fn args H (fun v H'=>Q v ⟨H',m⟩) (fun e H'=>X e ⟨H',m⟩)):codeAny C.M C.A (.call (.ref a) ⟨vs,[]⟩) (Back C f φ own s.heap Q X) s:=by
 (refine jh (fk.obj) fun o fd hlk hd hsc ζ1=>?_;refine nk ζ1 fun hbd hcl hgl hbl hcode hbind=>?_;clear ζ1)
 have X0:=In.stays co.inH w.stays
 have ho:=X0 _ _ hlk
 unfold eN jq at q
 obtain⟨hn,q⟩:=q
 have hlen:=rs.length
 refine codeAny_call_function hroom ho hd (by refine rwE hsc ?_;exact fk.co) (by refine rwE hsc ?_;exact fk.gen) hbd (PySem.W.codeRec_of X0 hcode) ?_
 refine rwE hsc (rwE hgl (rwE hcl (rwE hbl ?_)))
 have hb:=hbind C.M C.A.in1 (fun e s'=>Back C f φ own s.heap Q X (.error e) s') (fun binds Fv=>wpAny C.M C.A.in1 (newFunctionEnv fn.scope mainGlobals [] binds (fd.qualname++Str.ofString ".<locals>.") (some a) fd.code none builtinsNs) (fun env FI=>FI.heap.NoLimit/\codeAny C.M C.A (.func fn.body env) (Back C f φ own s.heap Q X) FI) (fun e s'=>Back C f φ own s.heap Q X (.error e) s') Fv) s vs X0
 have hnd:=fk.names
 induction hva:fn.vararg with
 | none =>
  rw [hva] at q hb hnd
  simp only [Option.toList_none,List.append_nil] at hnd
  obtain⟨hle,q⟩:=q
  have htk:args.take fn.params.length=args:=List.take_of_length_le hle
  rw [htk] at hn q
  refine ao (hb (by exact le_of_le_of_eq hn (congrFun (congrArg HAdd.hAdd hlen) (List.length (Fn.defaults fn)))) (by simp_all)) fun ds hds hb=>?_
  refine hb ?_
  have hds':VRs φ (fn.defaults.drop (fn.defaults.length - (fn.params.length - args.length))) ds:=by refine rwE hlen ?_;exact hds.mono List.nil_prefix
  refine pF (Q:=fun v H'=>Q v ⟨H',m⟩) (X:=fun e H'=>X e ⟨H',m⟩) fk.co fk hfr hlim ⟨_,hcode⟩ hbody (dO (fJ _ _) hnd) (fun x hx=>?_) w (mB:=fun x=>(fn.params.zip (args++fn.defaults.drop (fn.defaults.length - (fn.params.length - args.length)))).lookup x) (fun x=>VRs.fV x _ (rs.append hds')) q (fun v s' hq=>?_) fun e s' hq=>?_
  .exact fk.bound x.1 (List.mem_append_left _ (List.of_mem_zip hx).1)
  .obtain⟨φ2,own2,σ2,b,k2,w2,r2,q2,hm⟩:=hq
   exact⟨φ2,own2,σ2,b,k2,w2,r2,by obtain⟨H2,m2⟩:=σ2;subst hm;exact q2⟩
  .obtain⟨φ2,own2,σ2,i,a',k2,w2,e1,ga,hex,q2,hm⟩:=hq
   exact⟨φ2,own2,σ2,i,a',k2,w2,e1,ga,hex,by obtain⟨H2,m2⟩:=σ2;subst hm;exact q2⟩
 | some va =>
  rw [hva] at q hb hnd
  obtain⟨hdf,hb⟩:=hb
  simp only [Option.toList_some] at hnd
  obtain⟨hbig,q⟩:=q
  rw [hdf] at hn q
  simp only [List.length_nil,Nat.add_zero,List.length_take,List.drop_nil,List.append_nil] at hn q
  refine hb (GS hn (GS (Nat.min_le_right ..) (Nat.le_of_eq hlen))) ?_
  refine wpAny_newTuple ?_ (by refine rwE List.length_drop (rwS hlen (rwS List.length_drop ?_));exact GS hbig cG)
  have hq:=QP.iX (C:=C) (f:=f) (Q:=fun v σ=>v=.ref H.length/\σ=⟨H++[.tuple (args.drop fn.params.length)],m⟩) w (xs:=args.drop fn.params.length) (vs:=(vs.drop fn.params.length).toArray) (n:=0) hbig (by simpa using rs.drop fn.params.length) ⟨rfl,rfl⟩ s.toks
  obtain⟨φ1,own1,σ1,b1,k1,w1,r1,rfl,rfl⟩:=hq
  rw [VRs.pM (ps:=[]) fn.params args] at q
  refine pF (Q:=fun v H'=>Q v ⟨H',m⟩) (X:=fun e H'=>X e ⟨H',m⟩) fk.co fk hfr hlim ⟨_,hcode⟩ hbody ?_ (fun x hx=>?_) w1 (mB:=fun x=>if x=va then some (.ref H.length) else (fn.params.zip args).lookup x) (fun x=>?_) q (fun v s' hq=>?_) fun e s' hq=>?_
  .refine rwE List.map_append ?_
   refine aJ (List.nodup_append.mp hnd) fun h1 h2 h3=>?_
   refine List.nodup_append.mpr ⟨dO (fJ _ _) h1,by trivial,fun y hy z hz=>?_⟩
   refine h3 y ((fJ _ _).subset hy) z ?_
   simpa using hz
  .rcases List.mem_append.mp hx with hx | hx
   .exact fk.bound x.1 (List.mem_append_left _ (List.of_mem_zip hx).1)
   .refine fk.bound x.1 (List.mem_append_right _ ?_)
    refine rwE hva ?_
    rw [List.mem_singleton] at hx
    refine rwE hx ?_;exact List.mem_singleton_self _
  .have hz:=VRs.fV x fn.params (rs.mono k1.pre)
   have hva':va∉fn.params:=fun h=>by
    refine aJ (List.nodup_append.mp hnd) fun h1 h2 h3=>?_
    exact h3 va h va (by exact List.mem_singleton_self _) rfl
   refine rwE List.lookup_append ?_
   by_cases hx:x=va
   .subst hx
    have hno:(fn.params.zip vs).lookup x=none:=by
     induction h:(fn.params.zip vs).lookup x with
     | none=>rfl
     | some y=>exact absurd (List.of_mem_zip (lookup_mem h)).1 hva'
    refine rwE hno (rwE (if_pos rfl) ?_)
    simp [List.lookup]
    exact r1
   .refine rwE (if_neg hx) ?_
    have:(x == va)=false:=beq_eq_false_iff_ne.mpr hx
    simp only [List.lookup,this]
    simpa using hz
  .obtain⟨φ2,own2,σ2,b,k2,w2,r2,q2,hm⟩:=hq
   exact⟨φ2,own2,σ2,b,k1.trans k2,w2,r2,by obtain⟨H2,m2⟩:=σ2;cases hm;exact q2⟩
  .obtain⟨φ2,own2,σ2,i,a',k2,w2,e1,ga,hex,q2,hm⟩:=hq
   exact⟨φ2,own2,σ2,i,a',k1.trans k2,w2,e1,ga,hex,by obtain⟨H2,m2⟩:=σ2;cases hm;exact q2⟩
structure oz (B:Base) (c ini:Addr):Prop where
 makes:PySem.W.makesIn B.K c=true
 init:PySem.W.findIn B.K (.ref c) "__init__" = some (some (.ref ini))
 type:PySem.W.typeIn B.K (.ref ini)=some (.type "function")
 cls:∃ k,B.cls c=some k/\∀ names,k.slots=some names->names.length<=100
theorem sO {fn:Fn} {c ini:Addr} (co:bB C.B K) (mk:oz C.B c ini) (fk:qP C.B ini fn) (hfr:C.A.frames=some C.fs) (hroom:C.A.depth+1 < recursionLimit) (hlim:C.B.Fw.NoLimit)
  (hbody:∀ A' env fas φ₀,A'.handled=C.A.handled->A'.frames=C.A.frames->A'.depth=C.A.depth+1->A'.units=C.A.units+1->env.scope=fn.scope->env.frame≠none->ae (Ctx.deep ⟨C.B,C.fs,A'⟩ env) ⟨env,[],fas⟩ φ₀ (execs fn.body env) (a7 K fn.body fn.scope []) FlR)
  {args:List V} {vs:List Value} {φ:List Addr} {own:Addr->Option Nat} {H:List O} {m:Str->Option V} {Q X:V->St->Prop} {s:Shared} (rs:VRs φ args vs) (w:W C.B C.fs f φ own H m s)
  (q:eN K fn (.ref H.length::args) (H++[.inst c fun _=>none]) (fun v H'=>v=.none/\Q (.ref H.length) ⟨H',m⟩) (fun e H'=>X e ⟨H',m⟩)):codeAny C.M C.A (.call (.ref c) ⟨vs,[]⟩) (Back C f φ own s.heap Q X) s:=by
 have X0:=In.stays co.inH w.stays
 refine ao (mk.cls) fun k hk hks=>?_
 have hz:s.heap.objs.size < ((s.heap.push PySem.W.emptyDict).push (PySem.W.instObj c s.heap.objs.size)).objs.size:=by refine rwE (Heap.size_push ..) (rwE (Heap.size_push ..) ?_);exact Nat.le.step Nat.le.refl
 have hz2:((s.heap.push PySem.W.emptyDict).push (PySem.W.instObj c s.heap.objs.size)).objs.size=s.heap.objs.size+2:=by exact rwE (Heap.size_push ..) (rwE (Heap.size_push ..) rfl)
 have keep:∀ b o,s.heap.get? b=some o->((s.heap.push PySem.W.emptyDict).push (PySem.W.instObj c s.heap.objs.size)).get? b=some o:=fun b o e=>Heap.get?_push_of_some _ (Heap.get?_push_of_some _ e)
 have hgd:((s.heap.push PySem.W.emptyDict).push (PySem.W.instObj c s.heap.objs.size)).get? s.heap.objs.size=some PySem.W.emptyDict:=Heap.get?_push_of_some _ (Heap.get?_push_size _ rfl)
 have hgx:((s.heap.push PySem.W.emptyDict).push (PySem.W.instObj c s.heap.objs.size)).get? (s.heap.objs.size+1)=some (PySem.W.instObj c s.heap.objs.size):=by
  have:=Heap.get?_push_size (s.heap.push PySem.W.emptyDict) (o:=PySem.W.instObj c s.heap.objs.size) rfl
  rwa [Heap.size_push] at this
 have hq:QP C f φ own s.heap VR (fun v σ=>v=.ref H.length/\σ=⟨H++[.inst c fun _=>none],m⟩) (.ref (s.heap.objs.size+1)) { s with heap:=(s.heap.push PySem.W.emptyDict).push (PySem.W.instObj c s.heap.objs.size),toks:=s.toks }:=by
  refine QP.new w (a:=s.heap.objs.size+1) (o':=.inst c fun _=>none) [s.heap.objs.size,s.heap.objs.size+1] (fun b hb=>?_) keep ?_ (VR.last w _) ⟨rfl,rfl⟩ s.toks
  .rcases List.mem_cons.mp hb with rfl | hb
   .exact⟨Nat.le_refl _,_,hgd⟩
   .rw [List.mem_singleton] at hb;subst hb;exact⟨Nat.le_succ _,_,hgx⟩
  .refine⟨bR (Nat.le_succ _) (by exact .tail _ (.head _)),k,hk,?_⟩
   induction hs:k.slots with
   | none =>
    exact⟨s.heap.objs.size,#[],0,bR (Nat.le_refl _) (by exact .head _),Nat.ne_of_lt (Nat.lt_succ_self _),hgx,hgd,fun e he=>absurd he (by exact Array.not_mem_empty e),by simp [UniqKeys],fun x hx=>absurd rfl hx,fun x=>by trivial⟩
   | some names =>
    exact⟨#[],s.heap.objs.size,bR (Nat.le_refl _) (by exact .head _),Nat.ne_of_lt (Nat.lt_succ_self _),hgd,hgx,hks names hs,fun x j _=>by trivial,fun _ _=>rfl⟩
 obtain⟨φ1,own1,σ1,b1,k1,w1,r1,rfl,rfl⟩:=hq
 obtain⟨hh,g,dr,t,os⟩:=s
 refine PySem.W.make_core (PySem.W.makes_of X0 mk.makes) (PySem.W.looks_findIn X0 mk.init) (fun self=>PySem.W.bind_fn X0 self mk.type) (.inl rfl) ?_
 have hA':(C.A.under (.builtin "type.__call__" ⟨.ref c::vs,[]⟩)).depth=C.A.depth+1:=rfl
 refine codeAny_mono (rm (C:=⟨C.B,C.fs,C.A.under (.builtin "type.__call__" ⟨.ref c::vs,[]⟩)⟩) (f:=f) (K:=K) (args:=.ref H.length::args) (Q:=fun v σ=>v=.none/\Q (.ref H.length) σ) (X:=X) co fk hfr (by refine rwE hA' ?_;exact hroom) hlim
  (fun env fas φ₀ h1 h2=>hbody _ env fas φ₀ rfl rfl rfl rfl h1 h2) ⟨r1,rs.mono k1.pre⟩ w1 q) fun r s' hr=>?_
 rcases r with e | fl
 .obtain⟨φ2,own2,σ2,i,a',k2,w2,e1,ga,hex,q2⟩:=hr
  exact⟨φ2,own2,σ2,i,a',k1.trans k2,w2,e1,ga,hex,q2⟩
 .induction fl with
  | ret v =>
   obtain⟨φ2,own2,σ2,b,k2,w2,r2,rfl,q2⟩:=hr
   refine⟨r2.none,φ2,own2,σ2,.ref H.length,k1.trans k2,w2,?_,q2⟩
   exact r1.mono k2.pre
  | _=>exact hr.elim
end
end Mine
namespace Mine
open PySem PyProof.Rows
theorem Quiet.keeps {own:Addr->Option Nat} {base h h':Heap} (hs:base.StaysIn h) (hk:∀ b o,h.get? b=some o->h'.get? b=some o):Quiet own base h h':=
 ⟨fun b o e=>hk b o (hs b o e),fun b o _ _ e=>hk b o e,fun b o _ e=>hk b o e⟩
section
variable {C:Ctx} {f:Fm} {K:Cfg} {d:Nat}
theorem qG {φ₀:List Addr} (ok:a9 C K d) {args:List V} {vs:List Value} (rs:VRs φ₀ args vs):ae C f φ₀ (call (.type "list") vs) (Tr.lift (xq args)) VR:=by
 refine ae.of fun φ own H m Q X s hp w q=>?_
 have rs:=rs.mono hp
 replace q:=qX q;obtain⟨v,rfl,q⟩:=q
 ·-- list
  (refine ao q fun xs hv ζ1=>?_;clear q;obtain⟨hz,q⟩:=ζ1)
  (refine ao (rs.one) fun y ζ2 ry=>?_;obtain rfl:=ζ2)
  obtain⟨i,rfl⟩:∃ i,v=V.ref i:=by induction v<;>first | exact nS hv | exact⟨_,rfl⟩
  have hv:H[i]?.bind ou=some xs:=hv
  have main:∀ {al:Addr} {T:String} {items:Array Value} {nn:Nat},T = "list" \/ T = "tuple" -> y=.ref al->s.heap.get? al=some { cls:=.type T,dict:=none,data:=.seq items nn,slots:=#[] }->VRs φ xs items.toList ->
    wpAny C.M C.A (call (.type "list") [y]) (QP C f φ own s.heap VR Q) (EP C f φ own s.heap X) s:=by
   rintro al T items nn hT rfl g r
   refine call_list_seq al hT g rfl rfl (fun h' c' hk hn=>?_) (by refine rwE r.size ?_;exact GS hz cG)
   refine QP.new w (a:=s.heap.objs.size) (o':=.list xs) [s.heap.objs.size] (fun b hb=>?_) hk ⟨bR (Nat.le_refl _) (by exact List.mem_singleton_self _),hz,items,c',hn,r.mono (List.prefix_append _ _)⟩ (VR.last w _) q s.toks
   rw [List.mem_singleton] at hb;subst hb;exact⟨Nat.le_refl _,_,hn⟩
  induction ho:H[i]? with
  | none=>rw [ho] at hv;exact nS hv
  | some o =>
   rw [ho] at hv
   (refine ao (w.at ho ry) fun al ζ3 ζ4=>?_;obtain rfl:=ζ3;obtain⟨g,ro⟩:=ζ4)
   induction o with
   | list zs=>cases hv;(refine aJ ro fun o1 hz' ζ5=>?_;clear ro;refine bq ζ5 fun ws nn g1 r1=>?_;clear ζ5);exact main (.inl rfl) rfl g1 r1
   | tuple zs=>cases hv;(refine aJ ro fun o1 hz' ζ6=>?_;clear ro;refine bq ζ6 fun ws nn g1 r1=>?_;clear ζ6);exact main (.inr rfl) rfl g1 r1
   | _=>exact nS hv
theorem nZ {φ₀:List Addr} (ok:a9 C K d) {args:List V} {vs:List Value} (rs:VRs φ₀ args vs):ae C f φ₀ (call (.type "tuple") vs) (Tr.lift (tZ args)) VR:=by
 refine ae.of fun φ own H m Q X s hp w q=>?_
 have rs:=rs.mono hp
 replace q:=qX q;obtain⟨v,rfl,q⟩:=q
 replace q:=zd q;obtain⟨i,rfl,q⟩:=q
 ·-- tuple
  (refine ao q fun xs ho ζ7=>?_;clear q;obtain⟨hz,q⟩:=ζ7)
  (refine ao (rs.one) fun y ζ8 ry=>?_;obtain rfl:=ζ8)
  (refine ao (w.at ho ry) fun al ζ9 Ft=>?_;obtain rfl:=ζ9;obtain⟨g,Fp⟩:=Ft;refine aJ Fp fun o1 hz' Fx=>?_;clear Fp;refine bq Fx fun ws nn g1 r1=>?_;clear Fx)
  refine call_tuple_list (aH g1) (fun h' hk=>?_) (by refine rwE r1.size ?_;exact GS hz cG)
  have hq:=Quiet.keeps (own:=own) w.stays hk
  exact QP.after (bY hq) (QP.iX (w.quiet hq s.toks) hz r1 q s.toks)
theorem tR {φ₀:List Addr} (ok:a9 C K d) {args:List V} {vs:List Value} (rs:VRs φ₀ args vs):ae C f φ₀ (call (.type "set") vs) (Tr.lift (Ck args)) VR:=by
 refine ae.of fun φ own H m Q X s hp w q=>?_
 have rs:=rs.mono hp
 replace q:=Cy q;obtain⟨rfl,q⟩:=q
 ·-- set
  obtain⟨hz,q⟩:=q
  cases rs.zero
  refine call_set_0 fun led=>?_
  refine QP.kK (o':=.set []) w rfl (fun h' own' gg o hp'=>⟨o,fun _=>false,0,(setObjOf_fresh (knd:=intKind C.B.prog C.B.w) led).setOf gg (by decide),by simp,by exact Nat.zero_le _,by refine rwE gg ?_;simp⟩) (VR.last w _) q s.toks
theorem nY {φ₀:List Addr} (ok:a9 C K d) {args:List V} {vs:List Value} (rs:VRs φ₀ args vs):ae C f φ₀ (call (.type "range") vs) (Tr.lift (tY args)) VR:=by
 refine ae.of fun φ own H m Q X s hp w q=>?_
 have rs:=rs.mono hp
 replace q:=z3 q;rcases q with ⟨v,rfl,q⟩ | ⟨v,w1,rfl,q⟩
 ·-- range,one
  replace q:=ya q;obtain⟨k,rfl,hs,q⟩:=q
  (refine ao (rs.one) fun y Fy ry=>?_;obtain rfl:=Fy)
  obtain⟨t,rfl⟩:=ry.int
  refine callType_new F.called_range (by decide) (F.typeCall_range_1 _) (F.newCall_range_1 _) (fun obj=>F.args_object_init_2 obj _) F.entry_range_new (AutoRange.range___new___type_int_0 _ t (by refine (isSubtype_type ..).trans ?_;kernel_rfl)) ⟨⟨_,Heap.get?_push_size _ rfl,rfl⟩,?_⟩
  exact QP.kK (o':=.range 0 _) w rfl (fun h' own' gg o hp'=>⟨o,by unfold small;decide,hs,_,_,_,gg⟩) (VR.last w _) q _
 .replace q:=ya q;obtain⟨j,rfl,q⟩:=q
  replace q:=ya q;obtain⟨k,rfl,q⟩:=q
  refine aJ q fun hs hs2 q=>?_
  (refine bq (rs.two) fun x y Fz FD=>?_;obtain rfl:=Fz;obtain⟨rx,ry⟩:=FD)
  obtain⟨t,rfl⟩:=rx.int
  obtain⟨u,rfl⟩:=ry.int
  refine callType_new F.called_range (by decide) (by kernel_rfl) (by kernel_rfl) (fun obj=>F.args_object_init_3 obj _ _) F.entry_range_new (AutoRange.range___new___type_int_int_0 _ _ t u (by refine (isSubtype_type ..).trans ?_;kernel_rfl)) ⟨⟨_,Heap.get?_push_size _ rfl,rfl⟩,?_⟩
  exact QP.kK (o':=.range _ _) w rfl (fun h' own' gg o hp'=>⟨o,hs,hs2,_,_,_,gg⟩) (VR.last w _) q _
theorem tS {φ₀:List Addr} (ok:a9 C K d) {args:List V} {vs:List Value} (rs:VRs φ₀ args vs):ae C f φ₀ (call (.type "str") vs) (Tr.lift (Cm args)) VR:=by
 refine ae.of fun φ own H m Q X s hp w q=>?_
 have rs:=rs.mono hp
 replace q:=qX q;obtain⟨v,rfl,q⟩:=q
 replace q:=zd q;obtain⟨i,rfl,q⟩:=q
 ·-- str of a RuntimeError
  refine ao q fun st ho q=>?_
  (refine ao (rs.one) fun y FE ry=>?_;obtain rfl:=FE)
  (refine ao (w.at ho ry) fun al FH FN=>?_;obtain rfl:=FH;obtain⟨g,FP⟩:=FN;obtain⟨we,vc,oe,ws,t,ts,nn,hc,ge,gc,gd,g0,wt,hte,gt,hv,htb⟩:=FP)
  rw [hc.ty] at gc
  have hu:=ok.units
  refine ao (hv.one) fun z hz1 hz2=>?_
  obtain⟨tk,rfl⟩:=hz2.str
  refine P.str_of_exc_one F.excStr_RuntimeError (ulc 2 (by decide) hu) (m:=st) (tk:=tk) ⟨oe,ws,ge,gc,gd,g0⟩ ⟨_,nn,gt,rfl,?_⟩ (QP.same w (b:=V.str st) rfl q s.toks)
  refine (?_:Data.seq ts nn=Data.seq _ nn)
  exact rwS hz1 rfl
theorem qF {φ₀:List Addr} (ok:a9 C K d) {n:String} {args:List V} {vs:List Value} (rs:VRs φ₀ args vs):ae C f φ₀ (call (.type n) vs) (Tr.lift (ee n args)) VR:=by
 unfold ee
 split;· rename_i h;subst h;exact qG ok rs
 split;· rename_i h;subst h;exact nZ ok rs
 split;· rename_i h;subst h;exact tR ok rs
 split;· rename_i h;subst h;exact nY ok rs
 split;· rename_i h;subst h;exact tS ok rs
 exact fun φ own σ Q X s hp w q=>q.elim
end
end Mine
namespace Mine
open PySem PyProof.Rows
section
variable {C:Ctx} {f:Fm} {K:Cfg} {d:Nat}
theorem tM {φ₀:List Addr} (ok:a9 C K d) {args:List V} {vs:List Value} (rs:VRs φ₀ args vs):ae C f φ₀ (call (.builtin "len") vs) (Tr.lift (Af args)) VR:=by
 refine ae.of fun φ own H m Q X s hp w q=>?_
 have rs:=rs.mono hp
 replace q:=qX q;obtain⟨v,rfl,q⟩:=q
 ·-- len
  obtain⟨k,hl,hk,q⟩:=q
  obtain⟨y,rfl,ry⟩:=rs.one
  obtain⟨i,rfl⟩:∃ i,v=V.ref i:=by induction v<;>first | exact nS hl | exact⟨_,rfl⟩
  have hl:H[i]?.bind zX=some k:=hl
  have hk63:(k:Int) < 2 ^ 63:=uz hk
  induction ho:H[i]? with
  | none=>rw [ho] at hl;exact nS hl
  | some o =>
   rw [ho] at hl
   (refine ao (w.at ho ry) fun al ζ2 ζ3=>?_;obtain rfl:=ζ2;obtain⟨g,ro⟩:=ζ3)
   induction o with
   | list zs =>
    cases hl
    (refine aJ ro fun o1 hz' ζ4=>?_;clear ro;refine bq ζ4 fun ws nn g1 r1=>?_;clear ζ4)
    refine Calls.call_len_list (aH g1) (by refine rwE r1.size ?_;exact hk63) ?_
    refine rwE r1.size ?_
    exact QP.same w (b:=V.int zs.length) rfl q _
   | tuple zs =>
    cases hl
    (refine aJ ro fun o1 hz' ζ5=>?_;clear ro;refine bq ζ5 fun ws nn g1 r1=>?_;clear ζ5)
    refine len_tuple (items:=ws) ⟨_,g1,rfl,nn,rfl⟩ (by refine rwE r1.size ?_;exact hk63) ?_
    refine rwE r1.size ?_
    exact QP.same w (b:=V.int zs.length) rfl q _
   | dict es nn =>
    cases hl
    (refine aJ ro fun o1 o2 ζ6=>?_;clear ro;refine ao ζ6 fun kvs hD hK=>?_;clear ζ6)
    refine call_len_dict o2 hD.dictOf (by refine rwS hK.length ?_;exact hk63) ?_
    refine rwS hK.length ?_
    exact QP.same w (b:=V.int es.length) rfl q _
   | _=>exact nS hl
theorem qB {φ₀:List Addr} (ok:a9 C K d) {args:List V} {vs:List Value} (rs:VRs φ₀ args vs):ae C f φ₀ (call (.builtin "iter") vs) (Tr.lift (wQ args)) VR:=by
 refine ae.of fun φ own H m Q X s hp w q=>?_
 have rs:=rs.mono hp
 replace q:=qX q;obtain⟨v,rfl,q⟩:=q
 replace q:=zd q;obtain⟨i,rfl,q⟩:=q
 ·-- iter
  obtain⟨⟨xs,ho⟩,q⟩:=q
  (refine ao (rs.one) fun y FD ry=>?_;obtain rfl:=FD)
  (refine ao (w.at ho ry) fun al FE FH=>?_;obtain rfl:=FE;obtain⟨g,FN⟩:=FH;refine aJ FN fun o1 hz FP=>?_;clear FN;refine bq FP fun ws nn g1 r1=>?_;clear FP)
  refine Calls.call_function_entry (by decide +kernel) (by decide +kernel) PySem.W.kdk_entry_iter (PySem.W.kdk_args_iter _) ?_
  unfold Builtin.«iter»
  refine wpAny_bind (m:=someArgs "iter" 1 2 _) (wpAny_of_eq (a:=[Value.ref al]) (by rfl) ?_)
  refine (?_:wpAny _ _ (pyIter (.ref al) >>= _) _ _ _)
  refine wpAny_bind (wpAny_pyIter_list (aH g1) (wpAny_pure ⟨_,rfl,?_⟩))
  exact QP.kK (o':=.liter _ 0) w rfl (fun h' own' gg o hp'=>⟨o,al,ah hp' g,gg⟩) (VR.last w _) q s.toks
theorem qE {φ₀:List Addr} (ok:a9 C K d) {n:String} {args:List V} {vs:List Value} (rs:VRs φ₀ args vs):ae C f φ₀ (call (.builtin n) vs) (Tr.lift (jr K.ok n args)) VR:=by
 unfold jr
 split;· rename_i h;subst h;exact tM ok rs
 split;· rename_i h;subst h;exact qB ok rs
 exact fun φ own σ Q X s hp w q=>q.elim
end
end Mine
namespace Mine
open PySem PyProof.Rows
namespace LI
theorem ga:Slot "list_iterator" "__getattribute__" "object.__getattribute__":=
 .of (owner := "object") (n := "__getattribute__") (by refine rwE (typeLookup_type ..) (rwE (builtinLookup_eq_fast ..) ?_);kernel_rfl) (by decide +kernel) (by decide +kernel) (by decide +kernel)
  (by first | exact .inl (by decide +kernel) | exact .inr (by decide +kernel)) (by refine (isSubtype_type ..).trans ?_;kernel_rfl)
theorem lk:typeLookup (.type "list_iterator") "__next__" = pure (some (.builtin "list_iterator.__next__")):=by refine rwE (typeLookup_type ..) (rwE (builtinLookup_eq_fast ..) ?_);kernel_rfl
theorem ty:typeOf (.builtin "list_iterator.__next__")=pure (.type "wrapper_descriptor"):=by kernel_rfl
theorem DW:Slot "wrapper_descriptor" "__get__" "wrapper_descriptor.__get__":=
 .of (owner := "wrapper_descriptor") (n := "__get__") (by refine rwE (typeLookup_type ..) (rwE (builtinLookup_eq_fast ..) ?_);kernel_rfl) (by decide +kernel) (by decide +kernel) (by decide +kernel)
  (by first | exact .inl (by decide +kernel) | exact .inr (by decide +kernel)) (by refine (isSubtype_type ..).trans ?_;kernel_rfl)
theorem Fe:typeLookup (.type "wrapper_descriptor") "__set__" = pure none:=by refine rwE (typeLookup_type ..) (rwE (builtinLookup_eq_fast ..) ?_);kernel_rfl
theorem Fd:typeLookup (.type "wrapper_descriptor") "__delete__" = pure none:=by refine rwE (typeLookup_type ..) (rwE (builtinLookup_eq_fast ..) ?_);kernel_rfl
theorem entry_get:entryFor table "wrapper_descriptor.__get__" = some Builtin.«wrapper_descriptor.__get__»:=entryFor_of_tree (by kernel_rfl)
theorem args_get (a b c:Value):argsOk "wrapper_descriptor.__get__" ⟨[a,b,c],[]⟩:=by unfold argsOk;kernel_rfl
theorem uP:entryFor table "object.__getattribute__" = some Builtin.«object.__getattribute__»:=entryFor_of_tree (by kernel_rfl)
theorem xC (a b:Value):argsOk "object.__getattribute__" ⟨[a,b],[]⟩:=by unfold argsOk;kernel_rfl
theorem sub:isSubtype (.type "list_iterator") (.type "list_iterator")=pure true:=by refine (isSubtype_type ..).trans ?_;kernel_rfl
theorem owner:(".".intercalate ("list_iterator.__next__".cutAt '.').dropLast) = "list_iterator" :=by
 have e0 : "list_iterator.__next__".cutAt '.'=["list_iterator", "__next__"]:=by first | rfl | decide +kernel
 refine rwE e0 ?_;decide +kernel
end LI
section
variable {prog:Program} {w:World} {A:Around} {E:Value->Shared->Prop} {h:Heap} {g:Array GenState} {d:Drawn} {t:Nat} {os:OsState} {a al:Addr} {k:Nat}
theorem Br {R:Result->Shared->Prop} (hx:h.get? a=some { cls:=.type "list_iterator",dict:=none,data:=.fields #[.ref al,.int k 0],slots:=#[] })
  (hq:R (.ok (.ret (.ref h.objs.size))) ⟨h.push { cls:=.type "method-wrapper",data:=.fields #[.builtin "list_iterator.__next__",.ref a] },g,d,t,os⟩) :
  codeAny (model prog w) A (.call (.builtin "wrapper_descriptor.__get__") ⟨[.builtin "list_iterator.__next__",.ref a,.type "list_iterator"],[]⟩) R ⟨h,g,d,t,os⟩:=by
 have hT:(⟨h,g,d,t,os⟩:Shared).TypeIs (.ref a) "list_iterator" := ⟨_,hx,rfl⟩
 have hT5:(⟨h,g,d,t,os⟩:Shared).TypeIs (.builtin "list_iterator.__next__") "wrapper_descriptor" := LI.ty
 have f8:isSubtype (.type "list_iterator") (.type (".".intercalate ("list_iterator.__next__".cutAt '.').dropLast))=pure true:=by refine rwE LI.owner ?_;exact LI.sub
 refine codeAny_call_builtin LI.DW.plain LI.entry_get (LI.DW.check _ _ _ _ _ _ _ _ hT5 (LI.args_get _ _ _) ?_)
 repeat (any_goals (first | assumption | wp_step))
theorem vH {tk:Tok} {Q:Fin->Shared->Prop} (hx:h.get? a=some { cls:=.type "list_iterator",dict:=none,data:=.fields #[.ref al,.int k 0],slots:=#[] })
  (hq:Q (.done (.ret (.ref h.objs.size))) ⟨h.push { cls:=.type "method-wrapper",data:=.fields #[.builtin "list_iterator.__next__",.ref a] },g,d,t,os⟩) :
  wpAny (model prog w) A (Builtin.«object.__getattribute__» ⟨[.ref a,.str "__next__" tk],[]⟩) Q E ⟨h,g,d,t,os⟩:=by
 have hT:(⟨h,g,d,t,os⟩:Shared).TypeIs (.ref a) "list_iterator" := ⟨_,hx,rfl⟩
 have hT5:(⟨h,g,d,t,os⟩:Shared).TypeIs (.builtin "list_iterator.__next__") "wrapper_descriptor" := LI.ty
 have f4:=LI.lk
 have f5:=LI.ty
 have f6:=LI.DW.lookup
 have f7:=LI.Fe
 have f8:=LI.Fd
 repeat (any_goals (first | assumption | wp_step))
 refine Br hx ?_
 repeat (any_goals (first | assumption | wp_step))
theorem DE {tk:Tok} {fill expr:Bool} {Q:Value->Shared->Prop} (hx:h.get? a=some { cls:=.type "list_iterator",dict:=none,data:=.fields #[.ref al,.int k 0],slots:=#[] })
  (hq:Q (.ref h.objs.size) ⟨h.push { cls:=.type "method-wrapper",data:=.fields #[.builtin "list_iterator.__next__",.ref a] },g,d,t,os⟩) :
  wpAny (model prog w) A (getAttrBy (.ref a) (.str "__next__" tk) fill expr) Q E ⟨h,g,d,t,os⟩:=by
 have hT:(⟨h,g,d,t,os⟩:Shared).TypeIs (.ref a) "list_iterator" := ⟨_,hx,rfl⟩
 have f2:=LI.ga.lookup
 have f3:=LI.ga.bind (.ref a)
 have hx0:(expr && onTheHeap (Value.builtin "object.__getattribute__"))=false:=by induction expr<;>rfl
 repeat (any_goals (first | assumption | wp_step))
 refine codeAny_call_builtin LI.ga.plain LI.uP (LI.ga.check _ _ _ _ _ _ _ _ hT (LI.xC _ _) (vH hx ?_))
 repeat (any_goals (first | assumption | wp_step))
theorem yJ {expr:Bool} {Q:Value->Shared->Prop} (hx:h.get? a=some { cls:=.type "list_iterator",dict:=none,data:=.fields #[.ref al,.int k 0],slots:=#[] })
  (hq:Q (.ref h.objs.size) ⟨h.push { cls:=.type "method-wrapper",data:=.fields #[.builtin "list_iterator.__next__",.ref a] },g,d,t+1,os⟩) :
  wpAny (model prog w) A (getAttr (.ref a) "__next__" expr) Q E ⟨h,g,d,t,os⟩:=by
 unfold getAttr
 repeat (any_goals (first | assumption | with_reducible apply DE hx | wp_step))
end
section
variable {C:Ctx} {f:Fm} {K:Cfg} {d:Nat} {φ:List Addr} {own:Addr->Option Nat} {H:List O} {m:Str->Option V} {s:Shared}
theorem W.exc (w:W C.B C.fs f φ own H m s) {cv:V} {vc:Value} {xs:List V} {ws:List Value} {vs:Array Value} {dd:Option Addr} (rc:VR φ cv vc) (rx:VRs φ xs ws) (h0:vs[0]?=some (.ref s.heap.objs.size)) (h1:vs[1]?=some .none) (tk:Nat) :
  ∃ own',Kp f φ own s.heap (φ++[s.heap.objs.size+1]) own' ((s.heap.push { cls:=.type "tuple",data:=.seq ws.toArray }).push { cls:=vc,dict:=dd,data:=.fields vs }) /\
   W C.B C.fs f (φ++[s.heap.objs.size+1]) own' (H++[.exc cv xs]) m { s with heap:=(s.heap.push { cls:=.type "tuple",data:=.seq ws.toArray }).push { cls:=vc,dict:=dd,data:=.fields vs },toks:=tk } /\
   VR (φ++[s.heap.objs.size+1]) (.ref H.length) (.ref (s.heap.objs.size+1)):=by
 have hk:∀ b o,s.heap.get? b=some o->((s.heap.push { cls:=.type "tuple",data:=.seq ws.toArray }).push { cls:=vc,dict:=dd,data:=.fields vs }).get? b=some o:=fun b o e=>Heap.get?_push_of_some _ (Heap.get?_push_of_some _ e)
 have gt:((s.heap.push { cls:=.type "tuple",data:=.seq ws.toArray }).push { cls:=vc,dict:=dd,data:=.fields vs }).get? s.heap.objs.size=some { cls:=.type "tuple",data:=.seq ws.toArray }:=Heap.get?_push_of_some _ (Heap.get?_push_size _ rfl)
 have ge:((s.heap.push { cls:=.type "tuple",data:=.seq ws.toArray }).push { cls:=vc,dict:=dd,data:=.fields vs }).get? (s.heap.objs.size+1)=some { cls:=vc,dict:=dd,data:=.fields vs }:=by
  have:=Heap.get?_push_size (s.heap.push { cls:=.type "tuple",data:=.seq ws.toArray }) (o:={ cls:=vc,dict:=dd,data:=.fields vs }) rfl
  rwa [Heap.size_push] at this
 have hq:=QP.new (C:=C) (f:=f) (α:=Value) (β:=V) (R:=VR) (Q:=fun v σ=>v=.ref H.length/\σ=⟨H++[.exc cv xs],m⟩) (v:=.ref (s.heap.objs.size+1)) (b:=.ref H.length) w (h':=(s.heap.push { cls:=.type "tuple",data:=.seq ws.toArray }).push { cls:=vc,dict:=dd,data:=.fields vs }) (a:=s.heap.objs.size+1) (o':=.exc cv xs) [s.heap.objs.size,s.heap.objs.size+1] (fun b hb=>?_) hk
  ⟨bR (Nat.le_succ _) (by exact .tail _ (.head _)),vc,_,vs,s.heap.objs.size,ws.toArray,0,rc.mono (List.prefix_append _ _),ge,rfl,rfl,h0,bR (Nat.le_refl _) (by exact .head _),Nat.ne_of_lt (Nat.lt_succ_self _),gt,by simpa using rx.mono (List.prefix_append _ _),.inl h1⟩ (VR.last w _) ⟨rfl,rfl⟩ tk
 .obtain⟨φ1,own1,σ1,b1,k1,w1,r1,rfl,rfl⟩:=hq
  have hφ:φ1=φ++[s.heap.objs.size+1]:=by
   obtain⟨t,rfl⟩:=k1.pre
   have hl:(φ++t).length=(H++[O.exc cv xs]).length:=w1.len
   have hlen:t.length=1:=by rw [GY,GY,w.len,List.length_singleton] at hl;exact Eq.symm (Nat.add_left_cancel (id (Eq.symm hl)))
   obtain⟨y,rfl⟩:=List.length_eq_one_iff.mp hlen
   have:(φ++[y])[H.length]?=some (s.heap.objs.size+1):=r1
   rw [<- w.len] at this
   simp at this
   exact rwE this rfl
  subst hφ
  exact kC own1 k1 w1 r1
 .rcases List.mem_cons.mp hb with rfl | hb
  .exact⟨Nat.le_refl _,_,gt⟩
  .rw [List.mem_singleton] at hb;subst hb;exact⟨Nat.le_succ _,_,ge⟩
theorem yI:∀ a:Value,checkBoundCall "list_iterator.__next__" ⟨[a],[]⟩=pure ():=fun a=>by kernel_rfl
theorem wG (ok:a9 C K d) {φ₀:List Addr} {i:Nat} {y:Value} (ra:VR φ₀ (.ref i) y):ae C f φ₀ (call y []) (Tr.lift (gW K i)) VR:=by
 refine ae.of fun φ own H m Q X s hp w q=>?_
 (refine gP q fun it l k xs ζ1=>?_;clear q;refine nk ζ1 fun h1 hi0 h2 h3 hz q=>?_;clear ζ1)
 (refine ao (w.at h1 (ra.mono hp)) fun aw ζ2 ζ3=>?_;obtain rfl:=ζ2;obtain⟨gw,ζ4⟩:=ζ3;obtain⟨ow,ζ5⟩:=ζ4;refine ao ζ5 fun ait gi gmw=>?_;clear ζ5)
 (refine ao (w.look h2) fun ai gi' ζ6=>?_;obtain⟨oi,ζ7⟩:=ζ6;refine ao ζ7 fun al gl git=>?_;clear ζ7)
 rw [gi] at gi';cases gi'
 (refine ao (w.look h3) fun al' gl' ζ8=>?_;refine aJ ζ8 fun ol hz' ζ9=>?_;clear ζ8;refine bq ζ9 fun its nn gL rL=>?_;clear ζ9)
 rw [gl] at gl';cases gl'
 have hlt:it < H.length:=(List.getElem?_eq_some_iff.mp h2).1
 refine wpAny_call (codeAny_of_tree ?_)
 refine (?_:wpAny _ _ (callAny (.ref aw) _) _ _ _)
 refine PySem.W.nd_load gmw ?_
 refine (?_:wpAny C.M _ (checkBoundCall "list_iterator.__next__" ⟨[.ref ait],[]⟩ >>= fun _=>again (.builtin "list_iterator.__next__" ⟨[.ref ait],[]⟩)) _ _ _)
 refine rwE (yI ..) ?_
 refine wpAny_bind (wpAny_pure (wpAny_pure ⟨Code.quiet_builtin _ (by decide +kernel),codeAny_builtin entry_listiter_next ?_⟩))
 refine (?_:wpAny _ _ (field (.ref ait) 0 >>= _) _ _ s)
 refine wpAny_bind (wpAny_field git rfl (x:=.ref al) rfl ?_)
 refine (?_:wpAny _ _ (if (Value.ref al == Value.none)=true then _ else _) _ _ s)
 refine rwE (if_neg (show ¬ ((Value.ref al == Value.none)=true) from Bool.false_ne_true)) ?_
 refine (?_:wpAny _ _ (field (.ref ait) 1 >>= _) _ _ s)
 refine wpAny_bind (wpAny_field git rfl (x:=.int k 0) rfl ?_)
 refine (?_:wpAny _ _ (seqItems? (.ref al) >>= _) _ _ s)
 refine wpAny_bind (wpAny_seqItems gL rfl ?_)
 induction hx:xs[k]? with
 | some v =>
  rw [hx] at q
  refine ao (rL.get hx) fun z e1 e2=>?_
  have e1:its[k]?=some z:=by simpa using e1
  simp only [Int.toNat_natCast,e1]
  refine wpAny_bind (wpAny_setField git rfl (by exact Nat.lt_succ_self _) (wpAny_pure ?_))
  refine QP.eV w (b:=v) (o':=.liter l (k+1)) hlt gi oi (Heap.SameBut.update ..) ⟨oi,al,gl,?_⟩ e2 q s.toks ⟨_,Heap.get?_update_self _ (by assumption) rfl⟩
  have:=Heap.get?_update_self (Obj.mapFields fun x=>x.setIfInBounds 1 (rawInt ((k:Int)+1))) git rfl
  simpa [Obj.mapFields,rawInt] using this
 | none =>
  rw [hx] at q
  obtain⟨hok,q⟩:=q
  have e1:its[k]?=none:=by have:=rL.x7 hx;simpa using this
  simp only [Int.toNat_natCast,e1]
  refine wpAny_bind (wpAny_rule (wpAny_bind (wpAny_setField git rfl (by exact Nat.le_add_right _ _) ?_)))
  have g2:=Heap.get?_update_self (Obj.mapFields fun x=>x.setIfInBounds 0 Value.none) git rfl
  have hs:Heap.SameBut ait s.heap (s.heap.update ait (Obj.mapFields fun x=>x.setIfInBounds 0 Value.none)):=Heap.SameBut.update ..
  have w1:=w.upd (o':=.dead) hlt gi (fun b hb=>hs.2 b fun e=>hb (e ▸ oi)) (aM hs ⟨_,g2⟩) trivial s.toks
  have k1:Kp f φ own s.heap φ own (s.heap.update ait (Obj.mapFields fun x=>x.setIfInBounds 0 Value.none)):=mQ (i:=it) (fun b hb=>hs.2 b fun e=>hb (e ▸ oi)) (aM hs ⟨_,g2⟩)
  refine (?_:wpAny _ _ (newExc (.type "StopIteration") [] >>= _) _ _ _)
  refine wpAny_bind ?_
  simp only [newExc,PySem.newTuple]
  refine wpAny_bind (wpAny_newObj_type ?_ (by size_fits))
  refine wpAny_bind (m:=firstArgMember _ _) (wpAny_of_eq (a:=Value.none) (by first | rfl | (simp only [firstArgMember];rfl)) ?_)
  refine wpAny_newObj_type ?_ (by size_fits)
  dsimp only [raiseNew]
  refine wpAny_bind (wpAny_handled ?_)
  have hh:C.A.handled=none:=ok.ok hok
  refine rwE (show (Around.under _ _).handled=none from hh) ?_
  refine wpAny_bind (wpAny_pure (wpAny_throw ?_))
  obtain⟨own2,k2,w2,r2⟩:=W.exc (C:=C) (f:=f) w1 (cv:=.ty "StopIteration") (vc:=.type "StopIteration") (xs:=[]) (ws:=[]) (dd:=none)
   (vs:=#[.ref (s.heap.update ait (Obj.mapFields fun x=>x.setIfInBounds 0 Value.none)).objs.size,.none,.none,.none,.bool false,.none]++ownMembersOf (.type "StopIteration") []) rfl trivial rfl rfl s.toks
  refine⟨_,own2,⟨H.set it .dead++[.exc (.ty "StopIteration") []],m⟩,H.length,(s.heap.update ait (Obj.mapFields fun x=>x.setIfInBounds 0 Value.none)).objs.size+1,k1.trans k2,w2,?_,?_,⟨.ty "StopIteration",[],?_⟩,by exact q⟩
  .show Value.ref _=Value.ref _
   exact rwE (Heap.size_push ..) rfl
  .have:=r2
   rw [List.length_set] at this
   exact this
  .simp [List.getElem?_append_right]
end
end Mine
namespace Mine
open PySem PyProof.Rows
noncomputable def jO (B:Base) (K:Cfg):Prop:=∀ a args H Q X,K.call a args H Q X->∀ (p:Program) (w:World) (A:Around) (s:Shared),B.K.In s.heap->Keeps (model p w) A (.ref a) s
section
variable {C:Ctx} {f:Fm} {K:Cfg} {d:Nat}
theorem gH (co:bB C.B K) {φ₀:List Addr} {o:V} {vo:Value} {name:Str} {ex:Bool} (ro:VR φ₀ o vo):ae C f φ₀ (getAttr vo name ex) (Tr.lift (cV K o name)) VR:=by
 intro φ own σ Q X s hp w q
 obtain⟨H,m⟩:=σ
 obtain⟨i,rfl,q⟩:=q
 induction ho:H[i]? with
 | none=>simp only [ho] at q
 | some ob =>
  simp only [ho] at q
  induction ob with
  | inst c fs =>
   refine bW q fun v h1 h2 h3 q=>?_
   exact nW co ro φ own ⟨H,m⟩ Q X s hp w ⟨i,c,fs,v,rfl,ho,h1,h2,h3,q⟩
  | liter l k =>
   obtain⟨rfl,q⟩:=q
   (refine ao (w.at ho (ro.mono hp)) fun ai ζ2 ζ3=>?_;obtain rfl:=ζ2;obtain⟨gi,ζ4⟩:=ζ3;obtain⟨oi,ζ5⟩:=ζ4;refine ao ζ5 fun al gl git=>?_;clear ζ5)
   obtain⟨hh,g,dr,t,os⟩:=s
   exact yJ git (QP.kK (s:=⟨hh,g,dr,t,os⟩) (o':=.nextof i) w rfl (fun h' own' gg o hp'=>⟨o,ai,ah hp' gi,gg⟩) (VR.last w _) q _)
  | _=>exact q.elim
theorem mn (co:bB C.B K) {o:Expr} {name:Str} {pos:Pos} (ho:aV C K f o):aV C K f (.Attribute o name pos):=by
 intro φ₀
 have e1:awE K (.Attribute o name pos) f.env.scope f.ro=fun σ Q X=>baseOk o=true/\((awE K o f.env.scope f.ro).bind fun ov=>Tr.lift (cV K ov name)) σ Q X:=rfl
 refine rwE e1 ?_
 refine ae.guard fun hb=>?_
 have e0:eval (.Attribute o name pos) f.env=(do
  let ov <- attributeBase o name f.env (eval o f.env)
  standAt pos.atName
  let r <- holding [ov] (getAttr ov name true)
  letTemporaryGo o ov r
  pure r):=rfl
 refine rwE e0 (rwE (rg hb) ?_)
 refine ae.bind (ho φ₀) fun φ vo ov hp ro=>ae.at ?_
 intro φ1 own σ Q X s hp1 w q
 refine wpAny_bind (wpAny_holding (wpAny_mono (gH co ro φ1 own σ Q X s hp1 w q) (fun v s' h=>?_) fun _ _ x=>x))
 exact wpAny_bind (wpAny_letTemporaryGo (wpAny_pure h))
theorem tN (ok:a9 C K d) (hcall:dg C K f) {φ₀:List Addr} {fv:V} {vf:Value} {args:List V} {vs:List Value} (rf:VR φ₀ fv vf) (rs:VRs φ₀ args vs) :
  ae C f φ₀ (call vf vs) (Tr.lift (iw K fv args)) VR:=by
 induction fv with
 | ty n=>refine rwE rf.ty ?_;exact qF ok rs
 | bi n=>refine rwE rf.bi ?_;exact qE ok rs
 | glob a=>refine rwE rf.glob ?_;exact hcall.wp rs
 | ref i =>
  intro φ own σ Q X s hp w q
  obtain⟨rfl,q⟩:=q
  cases rs.zero
  exact wG ok rf φ own σ Q X s hp w q
 | _=>exact ae.of fun φ own H m Q X s hp w q=>q.elim
theorem vq (co:bB C.B K) (ko:jO C.B K) {φ:List Addr} {own:Addr->Option Nat} {σ:St} {s:Shared} (w:W C.B C.fs f φ own σ.H σ.m s) {fv:V} {vf:Value} {args:List V} {Q X:V->St->Prop} (rf:VR φ fv vf)
  (q:Tr.lift (iw K fv args) σ Q X):Keeps C.M C.A vf s:=by
 induction fv with
 | ty n=>refine rwE rf.ty ?_;exact bQ (by intro b;simp)
 | bi n=>refine rwE rf.bi ?_;exact bQ (by intro b;simp)
 | glob a=>refine rwE rf.glob ?_;exact ko a args _ _ _ q _ _ _ _ (In.stays co.inH w.stays)
 | ref i =>
  obtain⟨-,it,l,k,xs,h1,-⟩:=q
  (refine ao (w.at h1 rf) fun aw ζ6 ζ7=>?_;obtain rfl:=ζ6;obtain⟨gw,ζ8⟩:=ζ7;obtain⟨ow,ζ9⟩:=ζ8;refine ao ζ9 fun ait gi gmw=>?_;clear ζ9)
  refine⟨.machine,fun Q E q=>?_⟩
  unfold keeperOf
  refine wpAny_bind (wpAny_load gmw ?_)
  exact wpAny_pure q
 | _=>exact q.elim
theorem zj (ok:a9 C K d) (co:bB C.B K) (ko:jO C.B K) (hcall:dg C K f) {fe:Expr} {args:List Expr} {pos:Pos} (hf:aV C K f fe) (ha:cX C K f args)
  (e0:eval (.Call fe args [] pos) f.env=(do callWith pos (<- eval fe f.env) [] (backTo pos (starEach args f.env)) (backToKw pos (keywordEach [] f.env)))) :
  ∀ φ₀,ae C f φ₀ (eval (.Call fe args [] pos) f.env) ((awE K fe f.env.scope f.ro).bind fun fv=>(aI K args f.env.scope f.ro).bind fun vs=>Tr.lift (iw K fv vs)) VR:=by
 intro φ₀
 refine rwE e0 ?_
 refine ae.bind (hf φ₀) fun φ vf fv hp rf=>?_
 intro φ1 own σ Q X s hp1 w q
 refine callWith_of ?_
 refine wpAny_mono (ha φ1 pos vf φ1 own σ _ X s (GZ _) w q) ?_ fun _ _ x=>x
 rintro a s2 ⟨φ2,own2,σ2,xs,k2,w2,⟨hkw,rxs⟩,q2⟩
 have rf2:=(rf.mono hp1).mono k2.pre
 refine⟨vq co ko w2 rf2 q2,hkw,?_⟩
 exact wpAny_mono (tN ok hcall rf2 rxs φ2 own2 σ2 Q X s2 (GZ _) w2 q2) (fun _ _ x=>QP.after k2 x) fun _ _ x=>EP.after k2 x
end
end Mine
namespace Mine
open PySem PyProof.Rows
section
variable {C:Ctx} {f:Fm} {K:Cfg} {d:Nat}
noncomputable def fL (C:Ctx) (K:Cfg) (f:Fm) (e:Expr):Prop:=∀ φ₀,ae C f φ₀ (isTrue e f.env (eval e f.env)) (awT K e (awE K e f.env.scope f.ro) f.env.scope f.ro) (fun _ b v=>v=b)
noncomputable def qV (C:Ctx) (K:Cfg) (f:Fm) (op:BoolOp) (es:List Expr):Prop:=∀ φ₀,ae C f φ₀ (allTrue op es f.env) (xM K op es f.env.scope f.ro) (fun _ b v=>v=b)
theorem zz {op:BoolOp}:qV C K f op []:=fun φ₀=>ae.pure fun _ _=>rfl
theorem wz {op:BoolOp} {e:Expr} {es:List Expr} (he:fL C K f e) (hs:qV C K f op es):qV C K f op (e::es):=by
 intro φ₀
 have e0:allTrue op (e::es) f.env=(do
  match op,<- isTrue e f.env (eval e f.env) with
  | .And,false=>pure false
  | .Or,true=>pure true
  | _,_=>allTrue op es f.env):=rfl
 refine rwE e0 ?_
 refine ae.bind (he φ₀) fun φ v b hp r=>?_
 subst r
 induction op<;>induction v<;>first | exact hs φ | exact ae.pure fun _ _=>rfl
theorem B3 {x:Expr} {pos:Pos} (hx:fL C K f x):fL C K f (.UnaryOp .Not x pos):=by
 intro φ₀
 exact ae.bind (hx φ₀) fun φ v b hp r=>ae.pure fun _ _=>by exact rwE r rfl
theorem zy {op:BoolOp} {es:List Expr} {pos:Pos} (hx:qV C K f op es):fL C K f (.BoolOp op es pos):=fun φ₀=>hx φ₀
theorem qy (ok:a9 C K d) {l r:Expr} {op:CmpOp} {pos:Pos} (hl:aV C K f l) (hr:aV C K f r):fL C K f (.Compare l [op] [r] pos):=by
 intro φ₀
 refine ae.guard (a:=((awE K l f.env.scope f.ro).bind fun a=>(awE K r f.env.scope f.ro).bind fun b=>Tr.lift (f9 op a b))) fun hb=>?_
 have e0:isTrue (.Compare l [op] [r] pos) f.env (eval (.Compare l [op] [r] pos) f.env)=(do testChain pos (<- eval l f.env) [op] (markedEach [op] [r] (evalEach [r] f.env))):=rfl
 refine rwE e0 ?_
 refine ae.bind (hl φ₀) fun φ va a hp ra=>?_
 have e:markedEach [op] [r] (evalEach [r] f.env)=[eval r f.env]:=by
  refine (?_:[markedBehindIn op r (eval r f.env)]=_)
  unfold markedBehindIn
  exact rwE hb rfl
 refine rwE e ?_
 show ae C f φ (do
  let rv <- holding [va] (eval r f.env)
  standAt pos
  let c <- operate [va,rv] (compareOp op va rv)
  holding [c] (truthy c)) _ _
 refine ae.bind (ae.holding (hr φ)) fun φ' vb b hp' rb=>ae.at ?_
 intro φ1 own σ Q X s hp1 w q
 refine wpAny_bind (wpAny_mono (ae.operate ((tO ok (ra.mono hp') rb).mapR (R':=fun φ v y=>∃ b:Bool,v=V.bool b/\y=.bool b) (g:=fun b=>V.bool b) fun _ _ _ e=>⟨_,rfl,e⟩) φ1 own σ (fun v σ'=>∃ b:Bool,v=.bool b/\Q b σ') X s hp1 w ?_) ?_ fun _ _ x=>x)
 .obtain⟨H,m⟩:=σ
  have hmono:∀ {p:PH Bool} {H} {Q Q':Bool->List O->Prop} {X},(p=f9 op a b)->p H Q X->(∀ r H',Q r H'->Q' r H')->p H Q' X:=by
   rintro p H Q Q' X rfl h hh
   induction op<;>dsimp only [f9] at h ⊢
   all_goals first
    | (obtain⟨r,h1,h2⟩:=h;exact aW r h1 (hh _ _ h2))
    | (obtain⟨i,j,h0,h1,h2⟩:=h;exact jk i j h0 h1 (hh _ _ h2))
    | exact⟨h.1,hh _ _ h.2⟩
  refine (?_:f9 op a b H (fun r H'=>∃ b:Bool,V.bool r=V.bool b/\Q b ⟨H',m⟩) (fun e H'=>X e ⟨H',m⟩))
  exact hmono rfl q fun r H' h=>⟨r,rfl,h⟩
 .rintro v s1 ⟨φ2,own2,σ2,bb,k2,w2,⟨b2,hb2,rfl⟩,b3,hb3,q2⟩
  rw [hb2] at hb3;cases hb3
  exact wpAny_holding (wpAny_truthy_bool ⟨φ2,own2,σ2,b2,k2,w2,rfl,q2⟩)
noncomputable def dQ (e:Expr):Bool:=!(Nat.beq e.ctorIdx 0 || Nat.beq e.ctorIdx 5 || Nat.beq e.ctorIdx 15) && if h:e.ctorIdx=3 then Expr.UnaryOp.elim (motive_1:=fun _=>Bool) e h fun op _ _=>(match op with | .Not=>false | _=>true) else true
theorem lz {e:Expr} {wh:Tr V} {sc:Scope} {ro:List Str} (hp:dQ e=true):awT K e wh sc ro=wh.bind fun v=>xn v:=by
 induction e using Expr.casesOn<;>first | rfl | (exfalso;exact Bool.noConfusion hp) | skip
 rename_i op x p
 induction op<;>first | rfl | (exfalso;exact Bool.noConfusion hp)
theorem ik {e:Expr} (hp:dQ e=true) (he:aV C K f e):fL C K f e:=by
 intro φ₀
 have e2:isTrue e f.env (eval e f.env)=(do let v <- eval e f.env;standAt e.pos;holding [v] (truthy v)):=by
  induction e using Expr.casesOn<;>first | rfl | (exfalso;exact Bool.noConfusion hp) | skip
  rename_i op x p
  induction op<;>first | rfl | (exfalso;exact Bool.noConfusion hp)
 refine rwE (lz hp) (rwE e2 ?_)
 exact ae.bind (he φ₀) fun φ v b hp r=>ae.at (ae.holding (jG r))
theorem jl {k:Int} (h:small k):(Str.ofString (toString k)).length<=100:=by
 have h1:k.natAbs.log2 < 63:=by
  unfold small at h
  by_cases hk:k.natAbs=0
  .refine rwE hk ?_;decide
  .exact (Nat.log2_lt hk).mpr (Ec h)
 have:=int_text_length_le (k:=63) (by decide) h1
 refine rwE (PySem.ofString_length ..) ?_;exact GS this (by decide)
end
end Mine
namespace Mine
open PySem PyProof.Rows
noncomputable def za (K:Cfg) (sc:Scope) (ro:List Str):Expr->Tr Unit
 | .Constant (.str s) _ _=>fun σ Q _=>s.length<=100/\Q () σ
 | .FormattedValue e cv none _=>(awE K e sc ro).bind fun v=>fun σ Q _=>cv=114/\(∃ k,v=.int k/\small k)/\Q () σ
 | _=>fun _ _ _=>False
theorem fZ {K:Cfg} {sc:Scope} {ro:List Str} {v:Expr} {r:List Expr} (σ:St) (Q:Unit->St->Prop) (X:V->St->Prop) (h:bJ K (v::r) sc ro σ Q X):((za K sc ro v).bind fun _=>bJ K r sc ro) σ Q X:=by
 induction v using Expr.casesOn with
 | Constant c k p=>induction c<;>first | exact h.elim | exact h
 | FormattedValue e cv sp p =>
  induction sp with
  | none =>
   have h':((awE K e sc ro).bind fun v=>fun σ Q X=>cv=114/\(∃ k,v=.int k/\small k)/\bJ K r sc ro σ Q X) σ Q X:=h
   exact h'
  | some x=>exact h.elim
 | _=>exact h.elim
section
variable {C:Ctx} {f:Fm} {K:Cfg} {d:Nat}
noncomputable def um (C:Ctx) (K:Cfg) (f:Fm) (v:Expr):Prop:=∀ φ₀,ae C f φ₀ (eval v f.env) (za K f.env.scope f.ro v) (fun _ _ y=>∃ z t,y=.str z t/\z.length<=100)
theorem wg {s:Str} {k:Nat} {p:Pos}:um C K f (.Constant (.str s) k p):=by
 intro φ₀ φ own σ Q X s1 hp w q
 exact wpAny_Constant_str ⟨φ,own,σ,(),Kp.refl ..,w.toks _,⟨_,_,rfl,q.1⟩,q.2⟩
theorem BU {e:Expr} {cv:Int} {p:Pos} (he:aV C K f e):um C K f (.FormattedValue e cv none p):=by
 intro φ₀ φ own σ Q X s hp w q
 by_cases hcv:cv=114
 .subst hcv
  refine wpAny_FormattedValue_repr (wpAny_mono (he φ φ own σ _ X s (GZ _) w q) ?_ fun _ _ x=>x)
  rintro v s1 ⟨φ1,own1,σ1,b,k1,w1,r1,-,⟨k,rfl,hk⟩,q1⟩
  obtain⟨t,rfl⟩:=r1.int
  have hl:=jl hk
  have hlog:k.natAbs.log2 < 1920:=by
   unfold small at hk
   by_cases h0:k.natAbs=0
   .refine rwE h0 ?_;decide
   .exact GU ((Nat.log2_lt h0).mpr (Ec hk)) (by decide)
  refine pyReprObj_int hlog ?_
  have hz:(Str.ofString (toString k)).length<=sizeLine:=GS hl (by decide)
  exact wpAny_formatField_str ⟨φ1,own1,σ1,(),k1,w1.toks _,⟨_,_,rfl,hl⟩,q1⟩ ⟨φ1,own1,σ1,(),k1,w1.toks _,⟨_,_,rfl,hl⟩,q1⟩ hz
 .have e0:eval (.FormattedValue e cv none p) f.env=(do
   let v <- eval e f.env
   standAt p
   formatted p (<- holding [v] (converted cv v)) none):=rfl
  refine rwE e0 ?_
  refine wpAny_bind (wpAny_mono (he φ φ own σ _ X s (GZ _) w q) ?_ fun _ _ x=>x)
  rintro v s1 ⟨φ1,own1,σ1,b,k1,w1,r1,hc,-⟩
  exact absurd hc hcv
theorem my:∀ (vs:List Expr),(∀ v∈vs,um C K f v)->∀ φ own σ (Q:V->St->Prop) X s acc,W C.B C.fs f φ own σ.H σ.m s->acc.length+100 * vs.length<=10000 ->
  bJ K vs f.env.scope f.ro σ (fun _ σ'=>∀ z:Str,z.length<=10000->Q (.str z) σ') X ->
  Joins C.M C.A (EP C f φ own s.heap X) (evalEach vs f.env) acc (fun out Fv=>out.length<=sizeLine/\QP C f φ own s.heap VR Q (.str out Fv.toks) { Fv with toks:=Fv.toks+1 }) s
 | [],_,φ,own,σ,Q,X,s,acc,w,hl,q=>by
  refine⟨GS (by simpa using hl) (by decide),?_⟩
  exact⟨φ,own,σ,.str acc,Kp.refl ..,w.toks _,rfl,q acc (by simpa using hl)⟩
 | v::r,hs,φ,own,σ,Q,X,s,acc,w,hl,q=>by
  have q':=fZ _ _ _ q
  refine (?_:wpAny C.M C.A (eval v f.env) _ _ s)
  refine wpAny_mono (hs v (.head _) φ φ own σ _ X s (GZ _) w q') ?_ fun _ _ x=>x
  rintro y s1 ⟨φ1,own1,σ1,b,k1,w1,⟨z,t,rfl,hz⟩,q1⟩
  have hl':(acc++z).length+100 * r.length<=10000:=by refine rwE (strLen_append ..) ?_;exact Em hl hz
  refine jk z t rfl (GS (GS (Nat.le_add_right _ _) hl') (by decide)) ?_
  have ih:=my r (fun v hv=>hs v (.tail _ hv)) φ1 own1 σ1 Q X s1 (acc++z) w1 hl' q1
  have lift:∀ (ps:List (Sem Value)) (a:Str) (s2:Shared),Joins C.M C.A (EP C f φ1 own1 s1.heap X) ps a (fun out Fv=>out.length<=sizeLine/\QP C f φ1 own1 s1.heap VR Q (.str out Fv.toks) { Fv with toks:=Fv.toks+1 }) s2 ->
    Joins C.M C.A (EP C f φ own s.heap X) ps a (fun out Fv=>out.length<=sizeLine/\QP C f φ own s.heap VR Q (.str out Fv.toks) { Fv with toks:=Fv.toks+1 }) s2:=by
   intro ps
   induction ps with
   | nil=>intro a s2 h;exact⟨h.1,QP.after k1 h.2⟩
   | cons x xs ih2 =>
    intro a s2 h
    refine wpAny_mono h ?_ fun _ _ x=>EP.after k1 x
    (intro y s3 ζ1;refine fh ζ1 fun z2 t2 e h1 h2=>?_;clear ζ1)
    exact jk z2 t2 e h1 (ih2 _ _ h2)
  exact lift _ _ _ ih
theorem tw {vs:List Expr} {pos:Pos} (hs:∀ v∈vs,um C K f v):aV C K f (.JoinedStr vs pos):=by
 intro φ₀
 have e1:awE K (.JoinedStr vs pos) f.env.scope f.ro=fun σ Q X=>vs.length<=20/\((bJ K vs f.env.scope f.ro).bind fun _=>fun σ Q _=>∀ s:Str,s.length<=10000->Q (.str s) σ) σ Q X:=rfl
 refine rwE e1 ?_
 refine ae.guard fun hlen=>?_
 intro φ own σ Q X s hp w q
 have hj:=my vs hs φ own σ Q X s Str.empty w (GS (Nat.le_of_eq (Nat.zero_add _)) (GS (Nat.mul_le_mul_left 100 hlen) (by decide))) q
 match vs,hs,hj,q with
 | [],_,hj,_ =>
  refine (?_:wpAny _ _ (joinParts Str.empty []) _ _ _)
  exact wpAny_joinPartsRec _ _ _ _ hj
 | [v],hs,_,q =>
  have q':=fZ _ _ _ q
  refine wpAny_JoinedStr_one (wpAny_mono (hs v (.head _) φ φ own σ _ X s (GZ _) w q') ?_ fun _ _ x=>x)
  rintro y s1 ⟨φ1,own1,σ1,b,k1,w1,⟨z,t,rfl,hz⟩,q1⟩
  exact⟨φ1,own1,σ1,.str z,k1,w1,rfl,q1 z (GS hz (by decide))⟩
 | GP::GQ::rest,_,hj,_=>exact wpAny_JoinedStr hj
end
end Mine
namespace Mine
open PySem PyProof.Rows
section
variable {prog:Program} {w:World} {A:Around} {E:Value->Shared->Prop} {s:Shared}
theorem lD {it l:Addr} {items:Array Value} (hne:l≠it):∀ (n i:Nat) (s:Shared) (Q:List Value->Shared->Prop),s.heap.IsListIter it l i->s.heap.IsList l items->i+n<=items.size ->
  (∀ h',h'.IsListIter it l (i+n)->Heap.SameBut it s.heap h'->Q ((items.toList.drop i).take n) { s with heap:=h' })->wpAny (model prog w) A (draw (.ref it) n) Q E s
 | 0,i,s,Q,hit,_,_,hQ=>wpAny_pure (by simpa using hQ s.heap hit (Heap.SameBut.refl ..))
 | n+1,i,s,Q,hit,ht,hle,hQ=>by
  have hlt:i < items.size:=by exact Nat.lt_of_add_right_lt hle
  refine (?_:wpAny _ _ (pyNext (.ref it) >>= _) Q E s)
  refine wpAny_bind (wpAny_pyNext_list_item hit ht (x:=items[i]) (by simp [hlt]) fun FA FW FJ=>?_)
  refine wpAny_bind (wpAny_holding (lD hne n (i+1) _ _ FW (ht.extBut FJ.extBut hne) (by simp_all +arith) fun F7 Gj Gw=>wpAny_pure ?_))
  have hd:items.toList.drop i=items[i]::items.toList.drop (i+1):=by simp [List.drop_eq_getElem_cons,hlt]
  have:=hQ F7 (by refine rwE (show i+(n+1)=i+1+n by exact Eq.symm (Nat.succ_add_eq_add_succ i n)) ?_;exact Gj) (FJ.trans Gw)
  rw [hd,List.take_succ_cons] at this
  exact this
theorem gV {t:Addr} {items:Array Value} {Q:List Value->Shared->Prop} (hh:A.handled=none) (ht:s.heap.IsList t items)
  (hQ:∀ h',Heap.ExtBut s.heap.objs.size s.heap h'->Q items.toList { s with heap:=h' }):wpAny (model prog w) A (unpackItems (.ref t) items.size none) Q E s:=by
 have hlt:t≠s.heap.objs.size:=by (refine ao ht fun o ho _=>?_;clear ht);exact Nat.ne_of_lt (Heap.lt_size ho)
 unfold unpackItems
 refine wpAny_bind ?_
 unfold notIterableAtAll
 refine wpAny_bind (wpAny_specialOf ht.typeIs F.slot_list_iter.lookup (wpAny_pure ?_))
 dsimp only [Bool.false_eq_true,if_false]
 refine wpAny_bind (wpAny_holding (wpAny_pyIter_list ht ?_))
 refine wpAny_bind (wpAny_holding (lD hlt items.size 0 _ _ ⟨_,Heap.get?_push_size _ rfl,rfl,rfl⟩ (ht.push _) (by simp) fun FA FW FJ=>?_))
 have hall:List.take items.size (List.drop 0 items.toList)=items.toList:=by refine rwE List.drop_zero ?_;exact List.take_of_length_le (by exact Nat.le_refl _)
 refine rwE hall (rwE (if_neg (by simp)) ?_)
 have Gx:FA.IsList t items:=(ht.push _).extBut FJ.extBut hlt
 refine wpAny_bind (wpAny_holding (wpAny_pyNext_list_end hh FW Gx (by simp) fun F7 FY=>?_))
 dsimp only [Option.isSome_none,Bool.false_eq_true,if_false]
 exact wpAny_pure (hQ F7 fun b o hb e=>FY b o hb (FJ.extBut b o hb (Heap.get?_push_of_some _ e)))
end
theorem lH {h h':Heap} (x:Heap.ExtBut h.objs.size h h'):∀ b o,h.get? b=some o->h'.get? b=some o:=fun b o e=>x b o (Nat.ne_of_lt (Heap.lt_size e)) e
theorem gC {e:Expr} {r:List Expr} {ns:List Str} (h:namesOf (e::r)=some ns):∃ x p l,e=.Name x p/\namesOf r=some l/\ns=x::l:=by
 by_cases hc:e.ctorIdx=23
 .obtain⟨x,p,rfl⟩:=nG hc
  refine ao (Option.map_eq_some_iff.mp h) fun l h1 h2=>⟨x,p,l,rfl,h1,h2.symm⟩
 .exact nS ((nH hc).symm.trans h)
theorem gM {env:Env} {es:List Expr}:∀ {ns:List Str},namesOf es=some ns->(assignEach es env).length=ns.length/\(assignEach es env).findIdx? (·.1)=none:=by
 induction es with
 | nil=>intro ns h;cases h;exact⟨rfl,rfl⟩
 | cons e r ih =>
  intro ns h
  obtain⟨x,p,l,rfl,h1,rfl⟩:=gC h
  obtain⟨h2,h3⟩:=ih h1
  refine⟨congrArg (·+1) h2,?_⟩
  refine (?_:List.findIdx? (·.1) ((false,assign (.Name x p) env)::assignEach r env)=none)
  refine rwE (List.findIdx?_cons) (rwE h3 ?_);rfl
section
variable {C:Ctx} {f:Fm} {K:Cfg} {d:Nat}
theorem mJ (es:List Expr):∀ {ns:List Str} {vs:List V} {ys:List Value} {φ₀:List Addr},namesOf es=some ns->VRs φ₀ vs ys ->
  ae C f φ₀ (assignInOrder ((assignEach es f.env).map (·.2)) ys) (storeAll f.env.scope f.ro ns vs) (fun _ _ _=>True):=by
 induction es with
 | nil =>
  intro ns vs ys φ₀ h r
  cases h
  induction vs using List.casesOn with
  | nil=>cases r.zero;exact ae.pure fun _ _=>trivial
  | cons=>exact ae.false
 | cons e es ih =>
  intro ns vs ys φ₀ h r
  obtain⟨x,p,l,rfl,h1,rfl⟩:=gC h
  induction vs using List.casesOn with
  | nil=>exact ae.false
  | cons v vs =>
   induction ys using List.casesOn with
   | nil=>exact r.elim
   | cons y ys =>
    refine (?_:ae C f φ₀ (do holding ys (assign (.Name x p) f.env y);assignInOrder ((assignEach es f.env).map (·.2)) ys) ((bI f.env.scope f.ro x v).bind fun _=>storeAll f.env.scope f.ro l vs) _)
    exact ae.bind (ae.holding (bT r.1)) fun φ _ _ hp _=>ih h1 (r.2.mono hp)
noncomputable def uh (φ:List Addr) (h:Heap):Item->Value->Prop
 | .one x,v=>VR φ x v
 | .pair a b,v=>∃ T va vb,v=.ref T/\h.IsTuple T #[va,vb]/\VR φ a va/\VR φ b vb
theorem kR (ok:a9 C K d) {t:Expr} {it:Item} {v:Value} {φ:List Addr} {own:Addr->Option Nat} {σ:St} {Q:Unit->St->Prop} {X:V->St->Prop} {s:Shared} (r:uh φ s.heap it v) (w:W C.B C.fs f φ own σ.H σ.m s)
  (q:cy K f.env.scope f.ro t it σ Q X):wpAny C.M C.A (assign t f.env v) (QP C f φ own s.heap (fun _ _ _=>True) Q) (EP C f φ own s.heap X) s:=by
 have unp:∀ {es:List Expr} {k:Nat} {p:Pos} {T:Addr} {items:Array Value} {ns:List Str} {vs:List V},K.ok->namesOf es=some ns->(s.heap.IsTuple T items\/s.heap.IsList T items)->VRs φ vs items.toList->storeAll f.env.scope f.ro ns vs σ Q X ->
   wpAny C.M C.A (assign (.Tuple es k p) f.env (.ref T)) (QP C f φ own s.heap (fun _ _ _=>True) Q) (EP C f φ own s.heap X) s:=by
  intro es k p T items ns vs hok hns hT hv q
  have hh:=ok.ok hok
  obtain⟨a1,a2⟩:=gM (env:=f.env) hns
  have hlen:ns.length=vs.length:=by
   have:∀ (ns:List Str) (vs:List V) (σ:St),storeAll f.env.scope f.ro ns vs σ Q X->(∀ σ Q X,storeAll f.env.scope f.ro ns vs σ Q X->ns.length=vs.length):=by
    intro ns
    induction ns with
    | nil=>intro vs σ0 h0 σ Q X h;induction vs using List.casesOn with | nil=>rfl | cons=>exact h.elim
    | cons n ns ih =>
     intro vs σ0 h0 σ Q X h
     induction vs using List.casesOn with
     | nil=>exact h.elim
     | cons v vs =>
      obtain⟨-,-,h⟩:=h
      obtain⟨-,-,h0⟩:=h0
      exact rwE List.length_cons (rwE List.length_cons (rwE (ih vs _ h0 _ _ _ h) rfl))
   exact this ns vs σ q σ Q X q
  have hsz:(assignEach es f.env).length=items.size:=by refine a1.trans (hlen.trans (hv.length.trans ?_));simp
  refine rwE (arm_assign_Tuple ..) ?_
  refine wpAny_bind (wpAny_standAt ?_)
  unfold unpack
  refine rwE hsz (rwE a2 ?_)
  have fin:∀ h',Heap.ExtBut s.heap.objs.size s.heap h'->wpAny C.M C.A (assignInOrder ((assignEach es f.env).map (·.2)) items.toList) (QP C f φ own s.heap (fun _ _ _=>True) Q) (EP C f φ own s.heap X) { s with heap:=h' }:=by
   intro h' hx
   have hq:=Quiet.keeps (own:=own) w.stays (lH hx)
   exact wpAny_mono (mJ es hns hv φ own σ Q X _ (GZ _) (w.quiet hq s.toks) q) (fun _ _ x=>QP.after (bY hq) x) fun _ _ x=>EP.after (bY hq) x
  refine wpAny_bind (wpAny_holding ?_)
  rcases hT with hT | hT
  .exact wpAny_unpackItems_tuple hh hT fin
  .exact gV hh hT fin
 by_cases ht:t.ctorIdx=25
 .obtain⟨es,k,p,rfl⟩:=DV ht
  induction it with
  | one a =>
   (obtain⟨hok,ζ4⟩:=q;refine jh ζ4 fun ns vs h1 h2 h3 q=>?_;clear ζ4)
   obtain⟨i,rfl⟩:∃ i,a=V.ref i:=by induction a<;>first | exact nS h2 | exact⟨_,rfl⟩
   have h2:σ.H[i]?.bind ou=some vs:=h2
   induction ho:σ.H[i]? with
   | none=>rw [ho] at h2;exact nS h2
   | some o =>
    rw [ho] at h2
    (refine ao (w.at ho r) fun al ζ5 ζ6=>?_;obtain rfl:=ζ5;obtain⟨g,ro⟩:=ζ6)
    induction o with
    | list zs=>cases h2;(refine aJ ro fun o1 hz' ζ7=>?_;clear ro;refine bq ζ7 fun ws nn g1 r1=>?_;clear ζ7);exact unp hok h1 (.inr (aH g1)) r1 q
    | tuple zs=>cases h2;(refine aJ ro fun o1 hz' ζ8=>?_;clear ro;refine bq ζ8 fun ws nn g1 r1=>?_;clear ζ8);exact unp hok h1 (.inl (dU g1)) r1 q
    | _=>exact nS h2
  | pair a b =>
   (obtain⟨hok,ζ9⟩:=q;refine bq ζ9 fun x y h1 q=>?_;clear ζ9)
   (refine eE r fun T va vb Ft=>?_;clear r;obtain⟨Fp,Fx⟩:=Ft;obtain rfl:=Fp;refine aJ Fx fun hT ra rb=>?_;clear Fx)
   exact unp hok h1 (.inl hT) (vs:=[_,_]) ⟨ra,rb,trivial⟩ q
 .induction it with
  | one a =>
   have q:nameV t (zN t noT _) _ σ Q X:=q
   rw [Cs ht] at q
   by_cases hn:t.ctorIdx=23
   .obtain⟨x,p,rfl⟩:=nG hn
    exact bT r φ own σ Q X s (GZ _) w q
   .rw [nH hn] at q;exact q.elim
  | pair a b =>
   have q:zN t noT _ σ Q X:=q
   rw [Cs ht] at q;exact q.elim
end
end Mine
namespace Mine
open PySem PyProof.Rows
open PySem.W (KTurns)
noncomputable def fits (t:Expr):Item->Prop
 | .one _=>True
 | .pair _ _=>∃ es k p,t=.Tuple es k p
noncomputable def Off (fp:List Addr) (h h':Heap):Prop:=∀ b o,b∉fp->h.get? b=some o->h'.get? b=some o
structure dG (C:Ctx) (t:Expr) (I:Addr) (fp:List Addr) (φ:List Addr) (items:List Item) (St:Nat->Heap->Prop) (i:Nat) (s:Shared):Prop where
 item:∀ it,items[i]?=some it->fits t it->∀ (Q:Value->Shared->Prop) (E:Value->Shared->Prop),(∀ v h' tk,uh φ h' it v->St (i+1) h'->Off fp s.heap h'->Q v { s with heap:=h',toks:=tk }) ->
  wpAny C.M C.A (pyNext (.ref I)) (fun r Fv=>∃ v,r=some v/\wpAny C.M C.A (letOwnedTupleGo t (.ref I) v) (fun _ FI=>Q v FI) E Fv) E s
 done:items.length=i->∀ (Q:Option Value->Shared->Prop) (E:Value->Shared->Prop),(∀ h' tk,Off fp s.heap h'->Q none { s with heap:=h',toks:=tk })->wpAny C.M C.A (pyNext (.ref I)) Q E s
structure c7 (C:Ctx) (t:Expr) (I:Addr) (fp:List Addr) (φ₀:List Addr) (src:Src) (Fo:List O) (items:List Item) (St:Nat->Heap->Prop):Prop where
 frame:∀ i h h',St i h->(∀ b∈fp,∀ o,h.get? b=some o->h'.get? b=some o)->St i h'
 alive:∀ i h,St i h->∀ b∈fp,∃ o,h.get? b=some o
 next:∀ i (f:Fm) (φ:List Addr) (own:Addr->Option Nat) (σ:Mine.St) (s:Shared),φ₀ <+: φ->W C.B C.fs f φ own σ.H σ.m s->kZ Fo src σ.H->(∀ b∈fp,own b=none)->St i s.heap->i<=items.length->dG C t I fp φ items St i s
 self:∀ i (s:Shared) (Q:Value->Shared->Prop) (E:Value->Shared->Prop),St i s.heap->Q (.ref I) s->wpAny C.M C.A (pyIter (.ref I)) Q E s
theorem dG.of {C:Ctx} {t:Expr} {I:Addr} {fp fp' wr:List Addr} {φ:List Addr} {items:List Item} {St St':Nat->Heap->Prop} {P Md:Nat->Value->Heap->Prop} {i:Nat} {s:Shared}
  (K:(∃ it,items[i]?=some it/\fits t it)\/items.length=i->KTurns C.B.prog C.B.w C.A t I fp' wr items.length P Md St') (hst:St' i s.heap) (hw:∀ b∈wr,b∈fp)
  (hP:∀ v h' it,items[i]?=some it->P i v h'->St' (i+1) h'->uh φ h' it v) (hS:∀ h',St' (i+1) h'->St (i+1) h'):dG C t I fp φ items St i s where
 item:=fun it hit hf Q E hQ=>by
  have K:=K (.inl ⟨it,hit,hf⟩)
  have hi:i < items.length:=(List.getElem?_eq_some_iff.mp hit).1
  refine K.item i s _ E hi hst fun v h' tk hMd hk=>⟨v,rfl,K.go i v _ _ E hMd fun h'' hp hs' hk'=>hQ v h'' tk (hP v h'' it hit hp hs') (hS h'' hs') fun b o hb e=>hk' b o (fun h=>hb (hw b h)) (hk b o (fun h=>hb (hw b h)) e)⟩
 done:=fun hi Q E hQ=>by
  have K':=K (.inr hi)
  subst hi
  exact K'.done s Q E hst fun h' tk hk=>hQ h' tk fun b o hb e=>hk b o (fun h=>hb (hw b h)) e
theorem cJ {M:Model} {A:Around} {E:Value->Shared->Prop} {s:Shared} {t:Expr} {I:Addr} {v:Value} {Q:Unit->Shared->Prop} {o:Obj} {n:String} (ho:s.heap.get? I=some o) (hc:o.cls=.type n)
  (hn:["enumerate", "zip", "dict_itemiterator", "dict_reverseitemiterator", "odict_iterator", "itertools.zip_longest", "itertools.pairwise"].contains n=false) (h:Q () s):wpAny M A (letOwnedTupleGo t (.ref I) v) Q E s:=by
 obtain⟨oc,od,oda,osl⟩:=o
 have hc:oc=.type n:=hc
 subst hc
 have main:wpAny M A (do
   let (.ref r,.ref a):=(Value.ref I,v) | return
   let o <- load r
   match o.cls,o.data with
   | .type n,.fields vs =>
    if ["enumerate", "zip", "dict_itemiterator", "dict_reverseitemiterator", "odict_iterator", "itertools.zip_longest", "itertools.pairwise"].contains n && vs[0]? == some (rawInt a) then
     rule "for.unpacks-the-owned-tuple"
     updateField r 0 .none
   | _,_=>pure ():Sem Unit) Q E s:=by
  induction v<;>first | exact wpAny_pure h | skip
  refine wpAny_bind (wpAny_load ho ?_)
  induction oda<;>first | exact wpAny_pure h | skip
  dsimp only
  refine rwE hn ?_
  exact wpAny_pure h
 induction t using Expr.casesOn<;>first | exact wpAny_pure h | exact main
theorem kZ.get {Fo H:List O} {src:Src} (h:kZ Fo src H) {j:Nat} (hj:j∈DR Fo src):H[j]?=Fo[j]?:=h j hj
section
variable {C:Ctx} {K:Cfg} {d:Nat} {t:Expr} {Fo:List O} {φ₀:List Addr}
theorem sy (hh:C.A.handled=none) {i:Nat} {xs:List V} {al I:Addr} (hi:Fo[i]?=some (.list xs)) (ga:φ₀[i]?=some al) (hne:al≠I):c7 C t I [I] φ₀ (.one (.ref i)) Fo (xs.map .one) (fun k h=>h.IsListIter I al k) where
 frame:=fun k h h' st hk=>st.at fun o e=>hk I (by exact List.mem_singleton_self _) o e
 alive:=fun k h st b hb=>by rw [List.mem_singleton] at hb;subst hb;(refine ao st fun o e _=>?_;clear st);exact⟨o,e⟩
 self:=fun k s Q E st q=>wpAny_pyIter_listiter st q
 next:=fun k f φ own σ s hp w hs ho st hk=>by
  have h1:σ.H[i]?=some (.list xs):=(hs.get (.head _)).trans hi
  (refine ao (w.look h1) fun al' ga' ζ1=>?_;refine aJ ζ1 fun o1 hz ζ2=>?_;clear ζ1;refine bq ζ2 fun vs n g1 r1=>?_;clear ζ2)
  rw [ah hp ga] at ga';cases ga'
  have hn:(xs.map Item.one).length=vs.size:=by exact rwE (GX ..) (rwE (r1.size ..) rfl)
  have T:=KTurns.ofWalks (target:=t) (Walks.list (prog:=C.B.prog) (w:=C.B.w) (A:=C.A) hh I al hne vs) fun i v s Q E hst hq=>by
    obtain⟨⟨o,e,hc,_⟩,_⟩:=hst;exact cJ e hc (by decide) hq
  rw [<- hn] at T
  refine dG.of (fun _=>T) ⟨st,aH g1⟩ (by lia) (fun v h' it hit hP _=>?_) fun h' hs'=>hs'.1
  rw [G3] at hit
  (refine ao (Option.map_eq_some_iff.mp hit) fun x hx ζ3=>?_;obtain rfl:=ζ3)
  refine ao (r1.get hx) fun y e1 e2=>?_
  have hP:vs[k]?=some v:=hP
  have e1:vs[k]?=some y:=by simpa using e1
  replace e1:=((hP).symm.trans e1);cases e1
  exact e2
theorem iter_tuple (hh:C.A.handled=none) {i:Nat} {xs:List V} {al I:Addr} (hi:Fo[i]?=some (.tuple xs)) (ga:φ₀[i]?=some al) (hne:al≠I):c7 C t I [I] φ₀ (.one (.ref i)) Fo (xs.map .one) (fun k h=>h.IsTupleIter I al k) where
 frame:=fun k h h' st hk=>st.at fun o e=>hk I (by exact List.mem_singleton_self _) o e
 alive:=fun k h st b hb=>by rw [List.mem_singleton] at hb;subst hb;(refine ao st fun o e _=>?_;clear st);exact⟨o,e⟩
 self:=fun k s Q E st q=>wpAny_pyIter_tupleiter st q
 next:=fun k f φ own σ s hp w hs ho st hk=>by
  have h1:σ.H[i]?=some (.tuple xs):=(hs.get (.head _)).trans hi
  (refine ao (w.look h1) fun al' ga' ζ4=>?_;refine aJ ζ4 fun o1 hz ζ5=>?_;clear ζ4;refine bq ζ5 fun vs n g1 r1=>?_;clear ζ5)
  rw [ah hp ga] at ga';cases ga'
  have hn:(xs.map Item.one).length=vs.size:=by exact rwE (GX ..) (rwE (r1.size ..) rfl)
  have T:=KTurns.ofWalks (target:=t) (Walks.tuple (prog:=C.B.prog) (w:=C.B.w) (A:=C.A) hh I al hne vs) fun i v s Q E hst hq=>by
    obtain⟨⟨o,e,hc,_⟩,_⟩:=hst;exact cJ e hc (by decide) hq
  rw [<- hn] at T
  refine dG.of (fun _=>T) ⟨st,dU g1⟩ (by lia) (fun v h' it hit hP _=>?_) fun h' hs'=>hs'.1
  rw [G3] at hit
  (refine ao (Option.map_eq_some_iff.mp hit) fun x hx ζ6=>?_;obtain rfl:=ζ6)
  refine ao (r1.get hx) fun y e1 e2=>?_
  have hP:vs[k]?=some v:=hP
  have e1:vs[k]?=some y:=by simpa using e1
  replace e1:=((hP).symm.trans e1);cases e1
  exact e2
theorem KV.get {φ:List Addr} {es:List (Int × V)} {kvs:List (Int × Value)} (r:KV φ es kvs) {i:Nat} {k:Int} {y:Value} (h:kvs[i]?=some (k,y)):∃ v,es[i]?=some (k,v)/\VR φ v y:=by
 induction es,kvs,r using KV.ind generalizing i with
 | nil=>exact nS h
 | cons j x z xs ys a b ih =>
  induction i using Nat.casesOn with
  | zero=>cases h;exact aW x rfl a
  | succ i=>exact ih h
theorem sr (hh:C.A.handled=none) {i:Nat} {es:List (Int × V)} {ep:Nat} {al I:Addr} (hi:Fo[i]?=some (.dict es ep)) (ga:φ₀[i]?=some al) (hne:al≠I) :
  c7 C t I [I] φ₀ (.one (.ref i)) Fo (es.map fun e=>.one (.int e.1)) (fun k h=>h.IsKeyIter I al k es.length ep) where
 frame:=fun k h h' st hk=>st.at fun o e=>hk I (by exact List.mem_singleton_self _) o e
 alive:=fun k h st b hb=>by rw [List.mem_singleton] at hb;subst hb;(refine ao st fun o e _=>?_;clear st);exact⟨o,e⟩
 self:=fun k s Q E st q=>wpAny_pyIter_keyiter st q
 next:=fun k f φ own σ s hp w hs ho st hk=>by
  have h1:σ.H[i]?=some (.dict es ep):=(hs.get (.head _)).trans hi
  (refine ao (w.look h1) fun al' ga' ζ7=>?_;refine aJ ζ7 fun o1 o2 ζ8=>?_;clear ζ7;refine ao ζ8 fun kvs hD hK=>?_;clear ζ8)
  rw [ah hp ga] at ga';cases ga'
  have hlen:=hK.length
  have hn:(es.map fun e=>Item.one (.int e.1)).length=kvs.length:=by exact (GX ..).trans (hlen ..)
  have T:=KTurns.ofWalks (target:=t) (Walks.dictKeys (knd:=intKind C.B.prog C.B.w) (A:=C.A) hh I al hne kvs ep) fun i v s Q E hst hq=>by
    obtain⟨⟨o,e,hc,_⟩,_⟩:=hst;exact cJ e hc (by decide) hq
  replace T:=((hn).symm ▸ T)
  refine dG.of (fun _=>T) ⟨by refine rwE hn (rwS hlen ?_);exact st,hD⟩ (by lia) (fun v h' it hit hP _=>?_) fun h' hs'=>by have:=hs'.1;rw [hn,<- hlen] at this;exact this
  (refine bq hP fun kk x e1 e2=>?_;clear hP)
  refine ao (hK.get e1) fun vv e3 _=>?_
  rw [G3,e3] at hit
  cases hit
  refine (?_:VR φ (.int kk) v)
  induction v<;>simp [intKind,Value.isInt] at e2
  exact e2.symm
theorem sA (hh:C.A.handled=none) {i j:Nat} {es:List (Int × V)} {ep:Nat} {al I:Addr} (hj:Fo[j]?=some (.dvals i)) (hi:Fo[i]?=some (.dict es ep)) (ga:φ₀[i]?=some al) (hne:al≠I) :
  c7 C t I [I] φ₀ (.one (.ref j)) Fo (es.map fun e=>.one e.2) (fun k h=>h.IsValIter I al k es.length ep) where
 frame:=fun k h h' st hk=>st.at fun o e=>hk I (by exact List.mem_singleton_self _) o e
 alive:=fun k h st b hb=>by rw [List.mem_singleton] at hb;subst hb;(refine ao st fun o e _=>?_;clear st);exact⟨o,e⟩
 self:=fun k s Q E st q=>wpAny_pyIter_valiter st q
 next:=fun k f φ own σ s hp w hs ho st hk=>by
  have h1:σ.H[i]?=some (.dict es ep):=(hs.get (by refine (?_:i∈j::(Fo[j]?.bind pY).toList);refine rwE hj ?_;exact .tail _ (.head _))).trans hi
  (refine ao (w.look h1) fun al' ga' ζ9=>?_;refine aJ ζ9 fun o1 o2 Ft=>?_;clear ζ9;refine ao Ft fun kvs hD hK=>?_;clear Ft)
  rw [ah hp ga] at ga';cases ga'
  have hlen:=hK.length
  have hn:(es.map fun e=>Item.one e.2).length=kvs.length:=by exact (GX ..).trans (hlen ..)
  have T:=KTurns.ofWalks (target:=t) (Walks.dictValues (knd:=intKind C.B.prog C.B.w) (A:=C.A) hh I al hne kvs ep) fun i v s Q E hst hq=>by
    obtain⟨⟨o,e,hc,_⟩,_⟩:=hst;exact cJ e hc (by decide) hq
  rw [<- hn] at T
  refine dG.of (fun _=>T) ⟨by refine rwE hn (rwS hlen ?_);exact st,hD⟩ (by lia) (fun v h' it hit hP _=>?_) fun h' hs'=>by have:=hs'.1;rw [hn,<- hlen] at this;exact this
  obtain⟨kk,e1⟩:=hP
  refine ao (hK.get e1) fun vv e3 e4=>?_
  rw [G3,e3] at hit
  cases hit
  exact e4
theorem qh (hh:C.A.handled=none) {i:Nat} {a b:Int} {I:Addr} (hi:Fo[i]?=some (.range a b)) :
  c7 C t I [I] φ₀ (.one (.ref i)) Fo ((List.range (b - a).toNat).map fun (k:Nat)=>.one (.int (a+k))) (fun k h=>IsRangeIter h I (a+(k:Nat) * 1) (((b - a).toNat:Int) - (k:Nat)) 1) where
 frame:=fun k h h' st hk=>hk I (by exact List.mem_singleton_self _) _ st
 alive:=fun k h st b hb=>by rw [List.mem_singleton] at hb;subst hb;exact⟨_,st⟩
 self:=fun k s Q E st q=>wpAny_pyIter_rangeiter st q
 next:=fun k f φ own σ s hp w hs ho st hk=>by
  have hn:((List.range (b - a).toNat).map fun (k:Nat)=>Item.one (.int (a+k))).length=(b - a).toNat:=by simp
  have T:=KTurns.ofWalks (target:=t) (Walks.range (prog:=C.B.prog) (w:=C.B.w) (A:=C.A) hh I a 1 (b - a).toNat) fun i v s Q E hst hq=>cJ hst rfl (by decide) hq
  replace T:=((hn).symm ▸ T)
  refine dG.of (fun _=>T) (by refine rwE hn ?_;exact st) (by lia) (fun v h' it hit hP _=>?_) fun h' hs'=>by rw [hn] at hs';exact hs'
  obtain⟨tt,rfl⟩:=hP
  rw [G3] at hit
  (refine ao (Option.map_eq_some_iff.mp hit) fun x hx Fp=>?_;obtain rfl:=Fp)
  rw [List.getElem?_range] at hx
  .cases hx;refine (?_:a+(k:Int)=a+k * 1);simp
  .have:=(List.getElem?_eq_some_iff.mp hx).1;simpa using this
end
end Mine
namespace Mine
open PySem PyProof.Rows
open PySem.W (KTurns)
section
variable {C:Ctx} {K:Cfg} {d:Nat} {t:Expr} {Fo:List O} {φ₀:List Addr}
theorem sq (hh:C.A.handled=none) {i:Nat} {xs:List V} {al e it:Addr} (hi:Fo[i]?=some (.list xs)) (ga:φ₀[i]?=some al) (h1:e≠it) (h2:al≠e) (h3:al≠it) :
  c7 C t e [e,it] φ₀ (.enum (.ref i)) Fo (xs.zipIdx.map fun e=>.pair (.int e.2) e.1) (fun k h=>(∃ old,IsEnum h e it k old)/\h.IsListIter it al k) where
 frame:=fun k h h' st hk=>by
  obtain⟨⟨old,he⟩,hit⟩:=st
  exact⟨⟨old,hk e (by exact .head _) _ he⟩,hit.at fun o x=>hk it (by exact .tail _ (.head _)) o x⟩
 alive:=fun k h st b hb=>by
  obtain⟨⟨old,he⟩,hit⟩:=st
  rcases List.mem_cons.mp hb with rfl | hb
  .exact⟨_,he⟩
  .rw [List.mem_singleton] at hb;subst hb;(refine ao hit fun o e _=>?_;clear hit);exact⟨o,e⟩
 self:=fun k s Q E st q=>by obtain⟨⟨old,he⟩,_⟩:=st;exact wpAny_pyIter_enum he q
 next:=fun k f φ own σ s hp w hs ho st hk=>by
  have hl:σ.H[i]?=some (.list xs):=(hs.get (by exact List.mem_singleton_self _)).trans hi
  (refine ao (w.look hl) fun al' ga' ζ1=>?_;refine aJ ζ1 fun o1 hz ζ2=>?_;clear ζ1;refine bq ζ2 fun vs n g1 r1=>?_;clear ζ2)
  rw [ah hp ga] at ga';cases ga'
  have hn:(xs.zipIdx.map fun e=>Item.pair (.int e.2) e.1).length=vs.size:=by exact rwE (GX ..) (rwE (List.length_zipIdx ..) (rwE (r1.size ..) rfl))
  have WT:=(WalksT.enumerate (prog:=C.B.prog) (w:=C.B.w) (A:=C.A) hh e it al h1 h2 h3 vs).toU
  have key:∀ {P Md:Nat->Value->Heap->Prop},((∃ x,(xs.zipIdx.map fun e=>Item.pair (.int e.2) e.1)[k]?=some x/\fits t x)\/(xs.zipIdx.map fun e=>Item.pair (.int e.2) e.1).length=k->KTurns C.B.prog C.B.w C.A t e [e,it,al] [e,it] (xs.zipIdx.map fun e=>Item.pair (.int e.2) e.1).length P Md (fun i h=>(∃ old,IsEnum h e it i old)/\h.IsListIter it al i/\h.IsList al vs)) ->
    (∀ v h' x,(xs.zipIdx.map fun e=>Item.pair (.int e.2) e.1)[k]?=some x->P k v h'->uh φ h' x v)->dG C t e [e,it] φ (xs.zipIdx.map fun e=>Item.pair (.int e.2) e.1) (fun k h=>(∃ old,IsEnum h e it k old)/\h.IsListIter it al k) k s:=by
   intro P Md hT hP
   exact dG.of hT ⟨st.1,st.2,aH g1⟩ (fun _ h=>h) (fun v h' x hx hp _=>hP v h' x hx hp) fun h' hs'=>⟨hs'.1,hs'.2.1⟩
  by_cases htup:∃ es k p,t=.Tuple es k p
  ·(refine eE htup fun es kk p ζ3=>?_;clear htup;obtain rfl:=ζ3)
   have T:=KTurns.ofWalksU (elts:=es) (k:=kk) (pos:=p) WT
   rw [<- hn] at T
   refine key (fun _=>T) fun v h' x hx hp=>?_
   (refine bq hp fun TT vals ζ4 ζ5=>?_;clear hp;obtain rfl:=ζ4;obtain⟨ζ6,hT⟩:=ζ5;obtain⟨tt,y,hy,rfl⟩:=ζ6)
   rw [G3] at hx
   (refine ao (Option.map_eq_some_iff.mp hx) fun ζ7 hz1 ζ8=>?_;obtain⟨z,j⟩:=ζ7;obtain rfl:=ζ8)
   rw [List.getElem?_zipIdx] at hz1
   refine ao (Option.map_eq_some_iff.mp hz1) fun z' hz2 hz3=>?_
   cases hz3
   refine ao (r1.get hz2) fun y' e1 e2=>?_
   have e1:vs[k]?=some y':=by simpa using e1
   replace e1:=((hy).symm.trans e1);cases e1
   exact⟨TT,_,_,rfl,hT,by refine (?_:((0+k:Nat):Int)=(k:Int));simp,e2⟩
  ·-- no turn: the end alone
   refine⟨fun x hx hf=>?_,fun hi Q E hQ=>?_⟩
   .exfalso
    rw [G3] at hx
    obtain⟨z,-,rfl⟩:=Option.map_eq_some_iff.mp hx
    exact htup hf
   .rw [hn] at hi
    refine WT.done s Q E (by refine rwE hi ?_;exact⟨st.1,st.2,aH g1⟩) fun h' tk hk=>hQ h' tk fun b o hb e=>hk b o hb e
theorem vj (hh:C.A.handled=none) {i j:Nat} {xs ys:List V} {l1 l2 z TI TO i1 i2:Addr} (hi:Fo[i]?=some (.list xs)) (hj:Fo[j]?=some (.list ys)) (ga:φ₀[i]?=some l1) (gb:φ₀[j]?=some l2) (D:ZipApart z TI TO i1 i2 l1 l2) :
  c7 C t z [z,TI,TO,i1,i2] φ₀ (.zip (.ref i) (.ref j)) Fo ((xs.zip ys).map fun e=>.pair e.1 e.2)
   (fun k h=>IsZip h z TI TO .none/\IsPair h TI (.ref i1) (.ref i2)/\(∃ a b,IsPair h TO a b)/\h.IsListIter i1 l1 k/\h.IsListIter i2 l2 k) where
 frame:=fun k h h' st hk=>by
  (refine rH st fun hz hTI ζ9 a1 a2=>?_;clear st;obtain⟨a,b,hTO⟩:=ζ9)
  exact CS (hk z (by exact .head _) _ hz) (hk TI (by simp) _ hTI) ⟨a,b,hk TO (by simp) _ hTO⟩ (a1.at fun o e=>hk i1 (by simp) o e) (a2.at fun o e=>hk i2 (by exact List.mem_of_getLast? rfl) o e)
 alive:=fun k h st b hb=>by
  (refine rH st fun hz hTI Ft Fp Fx=>?_;clear st;obtain⟨x,y,hTO⟩:=Ft;obtain⟨o1,a1,_⟩:=Fp;obtain⟨o2,a2,_⟩:=Fx)
  simp only [List.mem_cons,List.not_mem_nil,or_false] at hb
  rcases hb with rfl | rfl | rfl | rfl | rfl
  .exact⟨_,hz⟩
  .exact⟨_,hTI⟩
  .exact⟨_,hTO⟩
  .exact⟨_,a1⟩
  .exact⟨_,a2⟩
 self:=fun k s Q E st q=>wpAny_pyIter_zip st.1 q
 next:=fun k f φ own σ s hp w hs ho st hk=>by
  have hl1:σ.H[i]?=some (.list xs):=(hs.get (.head _)).trans hi
  have hl2:σ.H[j]?=some (.list ys):=(hs.get (.tail _ (.head _))).trans hj
  (refine ao (w.look hl1) fun al' ga' Fy=>?_;refine aJ Fy fun o1 hz Fz=>?_;clear Fy;refine bq Fz fun vs n g1 r1=>?_;clear Fz)
  rw [ah hp ga] at ga';cases ga'
  (refine ao (w.look hl2) fun bl' gb' FD=>?_;refine aJ FD fun p1 hzb FE=>?_;clear FD;refine bq FE fun ws n2 g2 r2=>?_;clear FE)
  rw [ah hp gb] at gb';cases gb'
  have hn:((xs.zip ys).map fun e=>Item.pair e.1 e.2).length=min vs.size ws.size:=by exact rwE (GX ..) (rwE (List.length_zip ..) (rwE (r1.size ..) (rwE (r2.size ..) rfl)))
  have WT:=(WalksT.zip2 (prog:=C.B.prog) (w:=C.B.w) (A:=C.A) hh z TI TO i1 i2 l1 l2 D vs ws).toU
  have hst:IsZip s.heap z TI TO .none/\IsPair s.heap TI (.ref i1) (.ref i2)/\(∃ a b,IsPair s.heap TO a b)/\s.heap.IsListIter i1 l1 k/\s.heap.IsListIter i2 l2 k/\s.heap.IsList l1 vs/\s.heap.IsList l2 ws:=
   ⟨st.1,st.2.1,st.2.2.1,st.2.2.2.1,st.2.2.2.2,aH g1,aH g2⟩
  have hsub:∀ b∈[z,TO,i1,i2],b∈[z,TI,TO,i1,i2]:=by
   intro b hb
   simp only [List.mem_cons,List.not_mem_nil,or_false] at hb ⊢
   rcases hb with h | h | h | h<;>simp [h]
  by_cases htup:∃ es k p,t=.Tuple es k p
  ·(refine eE htup fun es kk p FH=>?_;clear htup;obtain rfl:=FH)
   have T:=KTurns.ofWalksU (elts:=es) (k:=kk) (pos:=p) WT
   rw [<- hn] at T
   refine dG.of (fun _=>T) hst hsub (fun v h' x hx hp _=>?_) fun h' hs'=>⟨hs'.1,hs'.2.1,hs'.2.2.1,hs'.2.2.2.1,hs'.2.2.2.2.1⟩
   (refine bq hp fun TT vals FN FP=>?_;clear hp;obtain rfl:=FN;obtain⟨F8,hT⟩:=FP;obtain⟨a,b,ha,hb,rfl⟩:=F8)
   rw [G3] at hx
   (refine ao (Option.map_eq_some_iff.mp hx) fun F4 hz1 F5=>?_;obtain⟨u,v⟩:=F4;obtain rfl:=F5)
   rw [List.getElem?_zip_eq_some] at hz1
   refine ao (r1.get hz1.1) fun a' e1 e2=>?_
   refine ao (r2.get hz1.2) fun b' e3 e4=>?_
   have e1:vs[k]?=some a':=by simpa using e1
   have e3:ws[k]?=some b':=by simpa using e3
   rw [ha] at e1;cases e1
   rw [hb] at e3;cases e3
   exact⟨TT,_,_,rfl,hT,e2,e4⟩
  .refine⟨fun x hx hf=>?_,fun hi Q E hQ=>?_⟩
   .exfalso
    rw [G3] at hx
    obtain⟨z,-,rfl⟩:=Option.map_eq_some_iff.mp hx
    exact htup hf
   .rw [hn] at hi
    refine WT.done s Q E (by refine rwE hi ?_;exact hst) fun h' tk hk=>hQ h' tk fun b o hb e=>hk b o (fun h=>hb (hsub b h)) e
end
end Mine
namespace Mine
open PySem PyProof.Rows
structure cR (B:Base) (f:Fm) (fp:List Addr):Prop where
 base:∀ b∈fp,B.Fw.get? b=none
 fas:∀ b∈fp,b∉f.fas
 loc:∀ b∈fp,b≠f.env.locals
 cell:∀ b∈fp,∀ x c,f.env.cells.lookup x=some c->c≠b
theorem cR.pj {B:Base} {f:Fm} {fp:List Addr} (n:cR B f fp) {b:Addr} (hb:b∈fp):¬ Cur f b:=by
 rintro (e | ⟨x,_,e,_⟩)
 .exact n.loc b hb e
 .exact n.cell b hb x b e rfl
section
variable {B:Base} {fs:List Env} {f:Fm} {φ:List Addr} {own:Addr->Option Nat} {H:List O} {m:Str->Option V} {s:Shared}
theorem W.ph (w:W B fs f φ own H m s) {fp:List Addr} (h:∀ b∈fp,s.heap.objs.size<=b):cR B f fp/\∀ b∈fp,own b=none:=by
 have dead:∀ b∈fp,∀ o,s.heap.get? b≠some o:=fun b hb o e=>absurd (Heap.lt_size e) (Nat.not_lt.mpr (h b hb))
 refine⟨⟨fun b hb=>?_,fun b hb hm=>?_,fun b hb e=>?_,fun b hb x c hc e=>?_⟩,fun b hb=>?_⟩
 .induction hq:B.Fw.get? b with
  | none=>rfl
  | some o=>exact absurd (w.stays b o hq) (dead b hb o)
 ·(obtain⟨_,ζ1⟩:=w.frames.mem (b:=b) ((w.fas b).mpr hm);refine ao ζ1 fun o e _=>?_;clear ζ1)
  exact dead b hb o e
 ·(refine ao (w.fr.ns) fun ml ζ2 _=>?_;obtain⟨o,_,_,e',_⟩:=ζ2)
  rw [<- e] at e'
  exact dead b hb o e'
 .obtain⟨_,o,e'⟩:=w.ownCell x c hc
  rw [e] at e'
  exact dead b hb o e'
 .induction hq:own b with
  | none=>rfl
  | some i=>(refine aJ (w.ownNew b i hq) fun _ ζ4 _=>?_;obtain⟨o,e⟩:=ζ4);exact absurd e (dead b hb o)
theorem W.off (x:W B fs f φ own H m s) {fp:List Addr} (n:cR B f fp) (hn:∀ b∈fp,own b=none) {h':Heap} (hk:Off fp s.heap h') (tk:Nat):W B fs f φ own H m { s with heap:=h',toks:=tk } where
 eok:=x.eok
 len:=x.len
 obj:=fun i o a e1 e2=>(x.obj i o a e1 e2).keep (GZ _) (fun _ w=>w) (fun b ob w e=>hk b ob (fun h=>by rw [hn b h] at w;exact nS w) e)
 stays:=fun b o e=>hk b o (fun h=>by rw [n.base b h] at e;exact nS e) (x.stays b o e)
 ownNew:=fun b i w=>⟨(x.ownNew b i w).1,let ⟨o,e⟩:=(x.ownNew b i w).2.1;⟨o,hk b o (fun h=>by rw [hn b h] at w;exact nS w) e⟩,(x.ownNew b i w).2.2⟩
 ownFr:=x.ownFr
 ownLoc:=x.ownLoc
 ownCell:=fun y c hc=>⟨(x.ownCell y c hc).1,let ⟨o,e⟩:=(x.ownCell y c hc).2;⟨o,hk c o (fun h=>n.cell c h y c hc rfl) e⟩⟩
 frames:=bh x.frames fun g hf L o hL e=>⟨o.slots,hk L o (fun h=>n.fas L h ((x.fas L).mp (List.mem_filterMap.mpr ⟨g,hf,hL⟩))) e⟩
 fr:=x.fr.keep (GZ _) (fun o e=>⟨o.slots,hk _ o (fun h=>n.loc _ h rfl) e⟩) fun y c o hc e=>⟨o.slots,hk c o (fun h=>n.cell c h y c hc rfl) e⟩
 gens:=x.gens
 os:=x.os
 fas:=x.fas
theorem Kp.off {φ':List Addr} {own':Addr->Option Nat} {h h' h'':Heap} (k:Kp f φ own h φ' own' h') {fp:List Addr} (hd:∀ b∈fp,h.get? b=none) (hk:Off fp h' h''):Kp f φ own h φ' own' h'':=by
 have nf:∀ b o,h.get? b=some o->b∉fp:=fun b o e hb=>by rw [hd b hb] at e;exact nS e
 refine⟨k.pre,k.ownOld,fun b o e=>?_,fun b o e w c=>?_,fun b o e w c hn=>?_⟩
 .obtain⟨o',e'⟩:=k.alive b o e
  exact⟨o',hk b o' (nf b o e) e'⟩
 .obtain⟨sl,e'⟩:=k.keep b o e w c
  exact⟨sl,hk b _ (nf b o e) e'⟩
 .exact hk b o (nf b o e) (k.ex b o e w c hn)
end
inductive Ready (C:Ctx) (f:Fm) (t:Expr) (φ:List Addr) (own:Addr->Option Nat) (h:Heap) (G:Src->Mine.St->List Item->Prop) (it:Value) (FI:Shared):Prop
 | mk (src:Src) (items:List Item) (I:Addr) (fp:List Addr) (St:Nat->Heap->Prop) (φ':List Addr) (own':Addr->Option Nat) (σ':Mine.St) (e:it=.ref I) (k:Kp f φ own h φ' own' FI.heap) (w:W C.B C.fs f φ' own' σ'.H σ'.m FI)
  (g:G src σ' items) (i2:c7 C t I fp φ' src σ'.H items St) (st:St 0 FI.heap) (nb:cR C.B f fp) (no:∀ b∈fp,own' b=none) (dd:∀ b∈fp,h.get? b=none)
section
variable {C:Ctx} {f:Fm} {K:Cfg} {d:Nat} {t:Expr}
theorem ni {h:Heap} {b:Addr} (hb:h.objs.size<=b):h.get? b=none:=by
 induction hq:h.get? b with
 | none=>rfl
 | some o=>exact absurd (Heap.lt_size hq) (Nat.not_lt.mpr hb)
theorem s8 (hh:C.A.handled=none) {φ:List Addr} {own:Addr->Option Nat} {σ:Mine.St} {s:Shared} {v:V} {x:Value} (w:W C.B C.fs f φ own σ.H σ.m s) (r:VR φ v x) {items:List Item} (hi:aY σ.H (.one v)=some items)
  {G:Src->Mine.St->List Item->Prop} {E:Value->Shared->Prop} (hG:G (.one v) σ items):wpAny C.M C.A (pyIter x) (Ready C f t φ own s.heap G) E s:=by
 obtain⟨H,m⟩:=σ
 obtain⟨i,rfl⟩:∃ i,v=V.ref i:=by induction v<;>first | exact nS hi | exact⟨_,rfl⟩
 have fin:∀ (o:Obj) (St:Nat->Heap->Prop),(∀ al,φ[i]?=some al->al≠s.heap.objs.size->c7 C t s.heap.objs.size [s.heap.objs.size] φ (.one (.ref i)) H items St/\St 0 (s.heap.push o))->(∃ al oo,φ[i]?=some al/\s.heap.get? al=some oo) ->
   Ready C f t φ own s.heap G (.ref s.heap.objs.size) { s with heap:=s.heap.push o }:=by
  intro o St h ⟨al,oo,ga,ha⟩
  have hq:Quiet own C.B.Fw s.heap (s.heap.push o):=Quiet.push w.stays o
  have hfp:∀ b∈[s.heap.objs.size],s.heap.objs.size<=b:=fun b hb=>by rw [List.mem_singleton] at hb;refine rwE hb ?_;exact Nat.le_refl _
  obtain⟨n1,n2⟩:=w.ph hfp
  obtain⟨h1,h2⟩:=h al ga (Nat.ne_of_lt (Heap.lt_size ha))
  exact⟨.one (.ref i),items,s.heap.objs.size,[s.heap.objs.size],St,φ,own,⟨H,m⟩,rfl,bY hq,w.quiet hq s.toks,hG,h1,h2,n1,n2,fun b hb=>ni (hfp b hb)⟩
 have hi:H[i]?.bind (lO H)=some items:=hi
 induction ho:H[i]? with
 | none=>rw [ho] at hi;exact nS hi
 | some ob =>
  rw [ho] at hi
  (refine ao (w.at ho r) fun al ζ5 ζ6=>?_;obtain rfl:=ζ5;obtain⟨ga,ro⟩:=ζ6)
  induction ob with
  | list xs =>
   cases hi
   (refine aJ ro fun o1 hz ζ7=>?_;clear ro;refine bq ζ7 fun vs n g1 r1=>?_;clear ζ7)
   exact wpAny_pyIter_list (aH g1) (fin _ _ (fun al' ga' hne=>by rw [ga] at ga';cases ga';exact⟨sy hh ho ga hne,⟨_,Heap.get?_push_size _ rfl,rfl,rfl⟩⟩) ⟨al,_,ga,g1⟩)
  | tuple xs =>
   cases hi
   (refine aJ ro fun o1 hz ζ8=>?_;clear ro;refine bq ζ8 fun vs n g1 r1=>?_;clear ζ8)
   exact wpAny_pyIter_tuple (dU g1) (fin _ _ (fun al' ga' hne=>by rw [ga] at ga';cases ga';exact⟨iter_tuple hh ho ga hne,⟨_,Heap.get?_push_size _ rfl,rfl,rfl⟩⟩) ⟨al,_,ga,g1⟩)
  | dict es n =>
   cases hi
   (refine aJ ro fun o1 o2 ζ9=>?_;clear ro;refine ao ζ9 fun kvs hD hK=>?_;clear ζ9)
   have hlen:=hK.length
   refine wpAny_pyIter_dict o2 hD (fin _ _ (fun al' ga' hne=>by rw [ga] at ga';cases ga';exact⟨sr hh ho ga hne,⟨_,Heap.get?_push_size _ rfl,rfl,by refine rwE hlen ?_;rfl⟩⟩) ?_)
   ·(refine bq hD fun oo _ e _=>?_;clear hD);exact wV al oo ga e
  | dvals dd =>
   (obtain⟨o1,Ft⟩:=ro;refine ao Ft fun ad gd g1=>?_;clear Ft)
   have hi:H[dd]?.bind ve=some items:=hi
   induction hod:H[dd]? with
   | none=>rw [hod] at hi;exact nS hi
   | some od =>
    rw [hod] at hi
    induction od with
    | dict es n =>
     cases hi
     (refine ao (w.look hod) fun ad' gd' Fp=>?_;refine aJ Fp fun o1' o2 Fx=>?_;clear Fp;refine ao Fx fun kvs hD hK=>?_;clear Fx)
     rw [gd] at gd';cases gd'
     have hlen:=hK.length
     have had:ad≠s.heap.objs.size:=by (refine bq hD fun oo _ e _=>?_;clear hD);exact Nat.ne_of_lt (Heap.lt_size e)
     refine wpAny_pyIter_values ⟨_,g1,rfl,rfl⟩ hD (fin _ _ (fun al' ga' hne=>⟨sA hh ho hod gd had,⟨_,Heap.get?_push_size _ rfl,rfl,by refine rwE hlen ?_;rfl⟩⟩) ⟨al,_,ga,g1⟩)
    | _=>exact nS hi
  | range a b =>
   cases hi
   (refine ek ro fun o1 s1 s2 Fy=>?_;clear ro;refine eE Fy fun tt u v g1=>?_;clear Fy)
   unfold small at s1 s2
   have hsz:Builtin.Range.rangeSize a b 1=((b - a).toNat:Int):=by
    unfold Builtin.Range.rangeSize
    by_cases h:a < b
    .simp [h];exact mx1 h
    .simp [h];exact mx2 h
   have hsm:Builtin.Range.small a b 1=true:=by
    unfold Builtin.Range.small
    refine rwE hsz ?_
    unfold Builtin.Range.rangeFitsLong
    simp
    exact rsm s1 s2
   refine wpAny_pyIter_range g1 hsm (fin _ _ (fun al' ga' hne=>⟨qh hh ho,?_⟩) ⟨al,_,ga,g1⟩)
   have:=Heap.get?_push_size s.heap (o:={ cls:=.type "range_iterator",data:=.fields #[rawInt a,rawInt (Builtin.Range.rangeSize a b 1),rawInt 1] }) rfl
   rw [hsz] at this ⊢
   refine (?_:(s.heap.push _).get? _=_)
   refine this.trans ?_
   simp
  | _=>exact nS hi
end
end Mine
namespace Mine
open PySem PyProof.Rows
section
variable {C:Ctx} {f:Fm} {K:Cfg} {d:Nat} {t:Expr}
theorem Ready.after {φ φ':List Addr} {own own':Addr->Option Nat} {h h':Heap} {G:Src->Mine.St->List Item->Prop} (k:Kp f φ own h φ' own' h') {v:Value} {s:Shared} (q:Ready C f t φ' own' h' G v s):Ready C f t φ own h G v s:=by
 obtain⟨src,items,I,fp,St,φ2,own2,σ2,e,k2,w2,g2,i2,s2,n2,o2,d2⟩:=q
 refine⟨src,items,I,fp,St,φ2,own2,σ2,e,k.trans k2,w2,g2,i2,s2,n2,o2,fun b hb=>?_⟩
 induction hq:h.get? b with
 | none=>rfl
 | some o=>obtain⟨o',e'⟩:=k.alive b o hq;rw [d2 b hb] at e';exact nS e'
theorem qm (hh:C.A.handled=none) {φ:List Addr} {own:Addr->Option Nat} {σ:Mine.St} {s:Shared} {v:V} {x:Value} (w:W C.B C.fs f φ own σ.H σ.m s) (r:VR φ v x) {items:List Item} (hi:aY σ.H (.enum v)=some items)
  {G:Src->Mine.St->List Item->Prop} {E:Value->Shared->Prop} (hG:G (.enum v) σ items) :
  wpAny C.M C.A (call (.type "enumerate") [x]) (fun y Fv=>wpAny C.M C.A (pyIter y) (Ready C f t φ own s.heap G) E Fv) E s:=by
 obtain⟨H,m⟩:=σ
 obtain⟨i,rfl⟩:∃ i,v=V.ref i:=by induction v<;>first | exact nS hi | exact⟨_,rfl⟩
 refine ao (Option.map_eq_some_iff.mp hi) fun xs ho hi=>?_
 obtain rfl:=hi
 replace ho:=kD ho
 (refine ao (w.at ho r) fun al ζ1 ζ2=>?_;obtain rfl:=ζ1;obtain⟨ga,ro⟩:=ζ2)
 (refine aJ ro fun o1 hz ζ3=>?_;clear ro;refine bq ζ3 fun vs n g1 r1=>?_;clear ζ3)
 refine call_enumerate_list (aH g1) fun h' he hit hsz hk=>?_
 refine wpAny_pyIter_enum he ?_
 have hq:Quiet own C.B.Fw s.heap h':=Quiet.keeps w.stays hk
 have hfp:∀ b∈[s.heap.objs.size+1,s.heap.objs.size],s.heap.objs.size<=b:=fun b hb=>by
  rcases List.mem_cons.mp hb with rfl | hb
  .exact Nat.le_succ _
  .rw [List.mem_singleton] at hb;refine rwE hb ?_;exact Nat.le_refl _
 obtain⟨n1,n2⟩:=w.ph hfp
 have hal:al < s.heap.objs.size:=Heap.lt_size g1
 exact⟨.enum (.ref i),_,s.heap.objs.size+1,[s.heap.objs.size+1,s.heap.objs.size],_,φ,own,⟨H,m⟩,rfl,bY hq,w.quiet hq s.toks,hG,
  sq hh ho ga (Nat.ne_of_gt (Nat.lt_succ_self _)) (Nat.ne_of_lt (Nat.lt_succ_of_lt hal)) (Nat.ne_of_lt hal),⟨⟨_,he⟩,hit⟩,n1,n2,fun b hb=>ni (hfp b hb)⟩
theorem s9 (hh:C.A.handled=none) {φ:List Addr} {own:Addr->Option Nat} {σ:Mine.St} {s:Shared} {v v2:V} {x x2:Value} (w:W C.B C.fs f φ own σ.H σ.m s) (r:VR φ v x) (r2:VR φ v2 x2) {items:List Item} (hi:aY σ.H (.zip v v2)=some items)
  {G:Src->Mine.St->List Item->Prop} {E:Value->Shared->Prop} (hG:G (.zip v v2) σ items) :
  wpAny C.M C.A (call (.type "zip") [x,x2]) (fun y Fv=>wpAny C.M C.A (pyIter y) (Ready C f t φ own s.heap G) E Fv) E s:=by
 obtain⟨H,m⟩:=σ
 obtain⟨i,rfl⟩:∃ i,v=V.ref i:=by induction v<;>first | exact nS hi | exact⟨_,rfl⟩
 obtain⟨j,rfl⟩:∃ j,v2=V.ref j:=by induction v2<;>first | exact nS hi | exact⟨_,rfl⟩
 refine ao (Option.bind_eq_some_iff.mp hi) fun xs ho hi=>?_
 refine ao (Option.map_eq_some_iff.mp hi) fun ys ho2 hi=>?_
 obtain rfl:=hi
 replace ho:=kD ho
 replace ho2:=kD ho2
 (refine ao (w.at ho r) fun al ζ4 ζ5=>?_;obtain rfl:=ζ4;obtain⟨ga,ζ6⟩:=ζ5;refine aJ ζ6 fun o1 hz ζ7=>?_;clear ζ6;refine bq ζ7 fun vs n g1 r1=>?_;clear ζ7)
 (refine ao (w.at ho2 r2) fun bl ζ8 ζ9=>?_;obtain rfl:=ζ8;obtain⟨gb,Ft⟩:=ζ9;refine aJ Ft fun p1 hz2 Fp=>?_;clear Ft;refine bq Fp fun ws n2 g2 r2'=>?_;clear Fp)
 refine call_zip_2 (aH g1) (aH g2) fun h' hzz hTI hTO hi1 hi2 hsz hk=>?_
 refine wpAny_pyIter_zip hzz ?_
 have hq:Quiet own C.B.Fw s.heap h':=Quiet.keeps w.stays hk
 have hfp:∀ b∈[s.heap.objs.size+4,s.heap.objs.size+2,s.heap.objs.size+3,s.heap.objs.size,s.heap.objs.size+1],s.heap.objs.size<=b:=fun b hb=>by
  simp only [List.mem_cons,List.not_mem_nil,or_false] at hb
  rcases hb with rfl | rfl | rfl | rfl | rfl<;>first | exact Nat.le_add_right _ _ | exact Nat.le_refl _
 obtain⟨n1,n2⟩:=w.ph hfp
 have D:ZipApart (s.heap.objs.size+4) (s.heap.objs.size+2) (s.heap.objs.size+3) s.heap.objs.size (s.heap.objs.size+1) al bl:=PySem.W.ktu_apart _ _ _ (Heap.lt_size g1) (Heap.lt_size g2)
 exact⟨.zip (.ref i) (.ref j),_,s.heap.objs.size+4,_,_,φ,own,⟨H,m⟩,rfl,bY hq,w.quiet hq s.toks,hG,vj hh ho ho2 ga gb D,⟨hzz,hTI,⟨_,_,hTO⟩,hi1,hi2⟩,n1,n2,fun b hb=>ni (hfp b hb)⟩
noncomputable def cY (C:Ctx) (K:Cfg) (f:Fm) (e:Expr):Prop:=∀ (t:Expr) φ own (σ:Mine.St) (G:Src->Mine.St->List Item->Prop) X s,W C.B C.fs f φ own σ.H σ.m s ->
 bw K e (awE K e f.env.scope f.ro) f.env.scope f.ro σ (fun src σ'=>∃ items,aY σ'.H src=some items/\K.ok/\G src σ' items) X ->
 wpAny C.M C.A (eval e f.env) (fun x Fv=>wpAny C.M C.A (pyIter x) (Ready C f t φ own s.heap G) (EP C f φ own s.heap X) Fv) (EP C f φ own s.heap X) s/\∀ x,foldedSetIterable e f.env x=pure x
noncomputable def cL (e:Expr):Bool:=!(Nat.beq e.ctorIdx 7) && uD e true fun f _ ks=>!ks.isEmpty || nameV f true fun x=>decide (x≠Str.ofString "enumerate" /\ x≠Str.ofString "zip")
theorem ez {x:Str} {p pos:Pos} {args:List Expr} {wh:Tr V} {sc:Scope} {ro:List Str}:bw K (.Call (.Name x p) args [] pos) wh sc ro =
  if x=Str.ofString "enumerate" then (bH K sc x).bind fun fv=>(aI K args sc ro).bind fun vs=>fun σ Q _=>fv=.ty "enumerate" /\ ∃ v,vs=[v]/\Q (.enum v) σ
   else if x=Str.ofString "zip" then (bH K sc x).bind fun fv=>(aI K args sc ro).bind fun vs=>fun σ Q _=>fv=.ty "zip" /\ ∃ v w,vs=[v,w]/\Q (.zip v w) σ
   else wh.bind fun v=>Tr.pure (.one v):=rfl
theorem fY {e:Expr} {wh:Tr V} {sc:Scope} {ro:List Str} (h:cL e=true):bw K e wh sc ro=wh.bind fun v=>Tr.pure (.one v):=by
 induction e using Expr.casesOn<;>first | rfl | exact Bool.noConfusion h | skip
 rename_i fe args kws p
 induction kws using List.casesOn with
 | cons=>induction fe using Expr.casesOn<;>rfl
 | nil =>
  induction fe using Expr.casesOn<;>first | rfl | skip
  rename_i x px
  have h:x≠Str.ofString "enumerate" /\ x≠Str.ofString "zip" := of_decide_eq_true h
  refine (?_:(if x=_ then _ else if x=_ then _ else _)=_)
  exact (if_neg h.1).trans (if_neg h.2)
theorem lI {e:Expr} {env:Env} {x:Value} (h:∀ a b c,e≠.Set a b c):foldedSetIterable e env x=pure x:=by
 induction e using Expr.casesOn<;>first | rfl | exact absurd rfl (h _ _ _)
theorem dS (ok:a9 C K d) {e:Expr} (hp:cL e=true) (he:aV C K f e):cY C K f e:=by
 intro t φ own σ G X s w q
 rw [fY hp] at q
 refine⟨?_,fun x=>lI fun a b c h=>by subst h;exact Bool.noConfusion hp⟩
 refine wpAny_mono (he φ φ own σ _ X s (GZ _) w q) ?_ fun _ _ x=>x
 rintro x s1 ⟨φ1,own1,σ1,v,k1,w1,r1,items,hi,hok,g⟩
 exact wpAny_mono (s8 (t:=t) (ok.ok hok) w1 r1 hi g (E:=EP C f φ own s.heap X)) (fun _ _ x=>Ready.after k1 x) fun _ _ x=>x
theorem wc (ok:a9 C K d) {x:Str} {p pos:Pos} {args:List Expr} (hn:aV C K f (.Name x p)) (ha:cX C K f args) (he:aV C K f (.Call (.Name x p) args [] pos)):cY C K f (.Call (.Name x p) args [] pos):=by
 by_cases hpl:cL (.Call (.Name x p) args [] pos)=true
 .exact dS ok hpl he
 .intro t φ own σ G X s w q
  refine⟨?_,fun y=>rfl⟩
  have e0:eval (.Call (.Name x p) args [] pos) f.env=(do callWith pos (<- eval (.Name x p) f.env) [] (backTo pos (starEach args f.env)) (backToKw pos (keywordEach [] f.env))):=rfl
  refine rwE e0 ?_
  have hcase:x=Str.ofString "enumerate" \/ (x≠Str.ofString "enumerate" /\ x=Str.ofString "zip"):=by
   by_cases h1:x=Str.ofString "enumerate"
   .exact .inl h1
   .refine .inr ⟨h1,?_⟩
    by_cases h2:x=Str.ofString "zip"
    .exact h2
    .exact absurd (decide_eq_true (And.intro h1 h2)) hpl
  have q':∀ g,(bw K (.Call (.Name x p) args [] pos) (awE K (.Call (.Name x p) args [] pos) f.env.scope f.ro) f.env.scope f.ro)=g->g σ (fun src σ'=>∃ items,aY σ'.H src=some items/\K.ok/\G src σ' items) X:=fun g e=>e ▸ q
  rcases hcase with rfl | ⟨hne,rfl⟩
  .have q2:=q' ((bH K f.env.scope (Str.ofString "enumerate")).bind fun fv=>(aI K args f.env.scope f.ro).bind fun vs=>fun σ Q _=>fv=.ty "enumerate" /\ ∃ v,vs=[v]/\Q (.enum v) σ) (by exact ez.trans (if_pos rfl))
   refine wpAny_bind (wpAny_mono (hn φ φ own σ _ X s (GZ _) w q2) ?_ fun _ _ x=>x)
   rintro vf s1 ⟨φ1,own1,σ1,fv,k1,w1,rf,q3⟩
   refine callWith_of ?_
   refine wpAny_mono (ha φ1 pos vf φ1 own1 σ1 _ X s1 (GZ _) w1 q3) ?_ fun _ _ x=>EP.after k1 x
   rintro a s2 ⟨φ2,own2,σ2,xs,k2,w2,⟨hkw,rxs⟩,rfl,v,rfl,items,hi,hok,g⟩
   refine ao (rxs.one) fun y hy ry=>?_
   refine rwE rf.ty (rwE hy ?_)
   refine⟨bQ (by intro b;simp),hkw,?_⟩
   exact wpAny_mono (qm (t:=t) (ok.ok hok) w2 ry hi g (E:=EP C f φ own s.heap X)) (fun _ _ x=>wpAny_mono x (fun _ _ z=>Ready.after (k1.trans k2) z) fun _ _ z=>z) fun _ _ x=>x
  .have q2:=q' ((bH K f.env.scope (Str.ofString "zip")).bind fun fv=>(aI K args f.env.scope f.ro).bind fun vs=>fun σ Q _=>fv=.ty "zip" /\ ∃ v w,vs=[v,w]/\Q (.zip v w) σ) (by exact ez.trans ((if_neg hne).trans (if_pos rfl)))
   refine wpAny_bind (wpAny_mono (hn φ φ own σ _ X s (GZ _) w q2) ?_ fun _ _ x=>x)
   rintro vf s1 ⟨φ1,own1,σ1,fv,k1,w1,rf,q3⟩
   refine callWith_of ?_
   refine wpAny_mono (ha φ1 pos vf φ1 own1 σ1 _ X s1 (GZ _) w1 q3) ?_ fun _ _ x=>EP.after k1 x
   rintro a s2 ⟨φ2,own2,σ2,xs,k2,w2,⟨hkw,rxs⟩,rfl,v,v2,rfl,items,hi,hok,g⟩
   refine fh (rxs.two) fun y y2 hy ry ry2=>?_
   refine rwE rf.ty (rwE hy ?_)
   refine⟨bQ (by intro b;simp),hkw,?_⟩
   exact wpAny_mono (s9 (t:=t) (ok.ok hok) w2 ry ry2 hi g (E:=EP C f φ own s.heap X)) (fun _ _ x=>wpAny_mono x (fun _ _ z=>Ready.after (k1.trans k2) z) fun _ _ z=>z) fun _ _ x=>x
end
end Mine
namespace Mine
open PySem PyProof.Rows
section
variable {C:Ctx} {f:Fm} {K:Cfg} {d:Nat}
structure qW (C:Ctx) (f:Fm):Prop where
 fs:∃ outer,C.fs=f.env::outer
 fr:∃ L,f.env.frame=some L
 A:C.A.frames=some C.fs
theorem EP.noted (tp:qW C f) {φ:List Addr} {own:Addr->Option Nat} {h:Heap} {X:V->St->Prop} {e:Value} {s:Shared} (q:EP C f φ own h X e s) :
  notedBy C.M C.A f.env (cameBackBy C.M C.A f.env (EP C f φ own h X)) e s:=by
 obtain⟨φ1,own1,σ1,i,a,k1,w1,rfl,ga,⟨c,args,hex⟩,q1⟩:=q
 obtain⟨outer,hfs⟩:=tp.fs
 obtain⟨L,hL⟩:=tp.fr
 refine eW w1 tp.A hfs hL hex ga fun h' own' w' k' tr=>?_
 (refine eE tr fun oe vs T ζ1=>?_;clear tr;refine aJ ζ1 fun g gd e1=>?_;clear ζ1)
 unfold cameBackBy
 refine wpAny_bind (wpAny_field g gd e1 ?_)
 refine rwE (if_neg (show ¬ ((Value.ref T == Value.none)=true) from Bool.false_ne_true)) ?_
 exact cQ w' hex ga fun h'' w'' k''=>⟨φ1,own',σ1,i,a,k1.trans (k'.trans k''),w'',rfl,ga,⟨c,args,hex⟩,q1⟩
noncomputable def eu (C:Ctx) (K:Cfg) (f:Fm) (b:List Stmt):Prop:=∀ φ₀,ae C f φ₀ (execs b f.env) (a7 K b f.env.scope f.ro) FlR
noncomputable def fK (C:Ctx) (K:Cfg) (f:Fm) (b:Stmt):Prop:=∀ φ₀,ae C f φ₀ (exec b f.env) (awS K b f.env.scope f.ro) FlR
theorem wk (tp:qW C f) {test:Expr} {b o:List Stmt} {pos:Pos} (ht:fL C K f test) (hb:eu C K f b) (ho:eu C K f o):fK C K f (.While test b o pos):=by
 intro φ₀ φ own σ Q X s hp w q
 (refine ao q fun I ζ2 hI=>?_;clear q;obtain⟨n,hn⟩:=ζ2)
 refine wpAny_While ?_
 refine codeAny_whileLoop (fun n s'=>∃ φ' own' σ',Kp f φ own s.heap φ' own' s'.heap/\W C.B C.fs f φ' own' σ'.H σ'.m s'/\I n σ') ?_ n ⟨φ,own,σ,Kp.refl ..,w,hn⟩
 (intro n s1 ζ3;refine eE ζ3 fun φ1 own1 σ1 ζ4=>?_;clear ζ3;refine aJ ζ4 fun k1 w1 i1=>?_;clear ζ4)
 have hq:=hI n σ1 i1
 refine wpAny_mono (ht φ1 φ1 own1 σ1 _ X s1 (GZ _) w1 hq) ?_ fun e s' x=>EP.noted tp (EP.after k1 x)
 rintro bb s2 ⟨φ2,own2,σ2,r,k2,w2,rfl,q2⟩
 induction bb with
 | true =>
  rw [if_pos rfl] at q2 ⊢
  refine wpAny_mono (hb φ2 φ2 own2 σ2 _ X s2 (GZ _) w2 q2) ?_ fun e s' x=>EP.noted tp (EP.after (k1.trans k2) x)
  rintro fl s3 ⟨φ3,own3,σ3,b3,k3,w3,r3,q3⟩
  have k:=k1.trans (k2.trans k3)
  induction b3<;>induction fl<;>first | exact r3.elim | skip
  .refine ao q3 fun j hj q3=>?_;exact⟨j,hj,φ3,own3,σ3,k,w3,q3⟩
  .exact⟨φ3,own3,σ3,.next,k,w3,trivial,q3⟩
  .refine ao q3 fun j hj q3=>?_;exact⟨j,hj,φ3,own3,σ3,k,w3,q3⟩
  .exact⟨φ3,own3,σ3,.ret _,k,w3,r3,q3⟩
 | false =>
  rw [if_neg (by decide)] at q2 ⊢
  exact wpAny_mono (ho φ2 φ2 own2 σ2 _ X s2 (GZ _) w2 q2) (fun _ _ x=>QP.after (k1.trans k2) x) fun e s' x=>EP.noted tp (EP.after (k1.trans k2) x)
theorem fits_of {t:Expr} {it:Item} {σ:Mine.St} {Q:Unit->St->Prop} {X:V->St->Prop} {sc:Scope} {ro:List Str} (q:cy K sc ro t it σ Q X):fits t it:=by
 induction it with
 | one x=>trivial
 | pair a b =>
  by_cases h:t.ctorIdx=25
  .exact DV h
  .have q:zN t noT _ σ Q X:=q
   rw [Cs h] at q;exact q.elim
inductive qQ (C:Ctx) (K:Cfg) (f:Fm) (t:Expr) (b o:List Stmt) (φ:List Addr) (own:Addr->Option Nat) (h:Heap) (Q:Fl->Mine.St->Prop) (X:V->Mine.St->Prop) (items:List Item) (src:Src) (Fo:List O) (φ2:List Addr) (fp:List Addr) (St:Nat->Heap->Prop)
  (n:Nat) (s':Shared):Prop
 | mk (i:Nat) (φ':List Addr) (own':Addr->Option Nat) (σ':Mine.St) (hn:n=items.length - i+1) (hi:i<=items.length) (k:Kp f φ own h φ' own' s'.heap) (hp:φ2 <+: φ') (w:W C.B C.fs f φ' own' σ'.H σ'.m s') (no:∀ b∈fp,own' b=none) (st:St i s'.heap)
  (q:mU (cy K f.env.scope f.ro t) (a7 K b f.env.scope f.ro) (a7 K o f.env.scope f.ro) Fo src (items.drop i) σ' Q X)
theorem BW (ok:a9 C K d) (tp:qW C f) {t it:Expr} {b o:List Stmt} {pos:Pos} (hi:cY C K f it) (hb:eu C K f b) (ho:eu C K f o):fK C K f (.For t it b o pos):=by
 intro φ₀ φ own σ Q X s hp w q
 have q':bw K it (awE K it f.env.scope f.ro) f.env.scope f.ro σ (fun src σ'=>∃ items,aY σ'.H src=some items/\K.ok/\mU (cy K f.env.scope f.ro t) (a7 K b f.env.scope f.ro) (a7 K o f.env.scope f.ro) σ'.H src items σ' Q X) X:=by
  have q:bw K it (awE K it f.env.scope f.ro) f.env.scope f.ro σ (fun src σ'=>K.ok/\∃ items,aY σ'.H src=some items/\mU (cy K f.env.scope f.ro t) (a7 K b f.env.scope f.ro) (a7 K o f.env.scope f.ro) σ'.H src items σ' Q X) X:=q
  have e:(fun (src:Src) (σ':Mine.St)=>∃ items,aY σ'.H src=some items/\K.ok/\mU (cy K f.env.scope f.ro t) (a7 K b f.env.scope f.ro) (a7 K o f.env.scope f.ro) σ'.H src items σ' Q X) =
    (fun src σ'=>K.ok/\∃ items,aY σ'.H src=some items/\mU (cy K f.env.scope f.ro t) (a7 K b f.env.scope f.ro) (a7 K o f.env.scope f.ro) σ'.H src items σ' Q X):=by
   funext src σ'
   exact propext ⟨fun ⟨items,h1,h2,h3⟩=>⟨h2,items,h1,h3⟩,fun ⟨h2,items,h1,h3⟩=>⟨items,h1,h2,h3⟩⟩
  refine rwE e ?_;exact q
 obtain⟨h1,h2⟩:=hi t φ own σ (fun src σ' items=>mU (cy K f.env.scope f.ro t) (a7 K b f.env.scope f.ro) (a7 K o f.env.scope f.ro) σ'.H src items σ' Q X) X s w q'
 refine wpAny_For (wpAny_mono h1 (fun x Fv FA=>wpAny_mono FA (fun it FI F7=>?_) fun _ _ x=>x) fun _ _ x=>x) h2
 obtain⟨src,items,I,fp,St,φ2,own2,σ2,rfl,k2,w2,g2,i2,st2,nb,no2,dd⟩:=F7
 refine codeAny_forLoop_any (qQ C K f t b o φ own s.heap Q X items src σ2.H φ2 fp St) ?_ (items.length+1) ⟨0,φ2,own2,σ2,by rfl,Nat.zero_le _,k2,GZ _,w2,no2,st2,by simpa using g2⟩
 rintro n s3 ⟨i,φ3,own3,σ3,rfl,hile,k3,hp3,w3,no3,st3,g3⟩
 have hE:∀ e s',EP C f φ own s.heap X e s'->notedBy C.M C.A f.env (cameBackBy C.M C.A f.env (EP C f φ own s.heap X)) e s':=fun e s' x=>EP.noted tp x
 induction hd:items[i]? with
 | none =>
  have hlen:items.length=i:=by have:=List.getElem?_eq_none_iff.mp hd;exact Eq.symm (Nat.le_antisymm hile this)
  rw [List.drop_of_length_le (by simp_all)] at g3
  obtain⟨hs,g3⟩:=g3
  have nx:=i2.next i f φ3 own3 σ3 s3 hp3 w3 hs no3 st3 hile
  refine nx.done hlen _ _ fun h' tk hk=>?_
  have w4:=w3.off nb no3 hk tk
  have k4:=k3.off dd hk
  exact wpAny_mono (ho φ3 φ3 own3 σ3 _ X _ (GZ _) w4 g3) (fun _ _ x=>QP.after k4 x) fun e s' x=>hE e s' (EP.after k4 x)
 | some x =>
  have hi':i < items.length:=(List.getElem?_eq_some_iff.mp hd).1
  have hdr:items.drop i=x::items.drop (i+1):=by
   refine (List.drop_eq_getElem_cons hi').trans ?_
   rw [G6 hi'] at hd
   exact rwE (Option.some.inj hd) rfl
  rw [hdr] at g3
  obtain⟨hs,g3⟩:=g3
  have nx:=i2.next i f φ3 own3 σ3 s3 hp3 w3 hs no3 st3 hile
  refine wpAny_mono (nx.item x hd (fits_of g3) (fun v s5=>wpAny C.M C.A (assign t f.env v) (fun _ FI=>wpAny C.M C.A (execs b f.env) (fun fl FG=>match fl with
      | .next | .cont=>∃ m,m < items.length - i+1/\qQ C K f t b o φ own s.heap Q X items src σ2.H φ2 fp St m FG
      | .brk=>QP C f φ own s.heap FlR Q .next FG
      | .ret v=>QP C f φ own s.heap FlR Q (.ret v) FG) (notedBy C.M C.A f.env (cameBackBy C.M C.A f.env (EP C f φ own s.heap X))) FI) (notedBy C.M C.A f.env (cameBackBy C.M C.A f.env (EP C f φ own s.heap X))) s5) (notedBy C.M C.A f.env (cameBackBy C.M C.A f.env (EP C f φ own s.heap X))) ?_) ?_ fun _ _ x=>x
  .intro v h' tk hr st4 hk
   have w4:=w3.off nb no3 hk tk
   have k4:=k3.off dd hk
   refine wpAny_mono (kR ok hr w4 g3) ?_ fun e s' x=>hE e s' (EP.after k4 x)
   rintro u s5 ⟨φ5,own5,σ5,b5,k5,w5,-,g5⟩
   refine wpAny_mono (hb φ5 φ5 own5 σ5 _ X s5 (GZ _) w5 g5) ?_ fun e s' x=>hE e s' (EP.after (k4.trans k5) x)
   rintro fl s6 ⟨φ6,own6,σ6,b6,k6,w6,r6,g6⟩
   have kk:=k4.trans (k5.trans k6)
   have k56:=k5.trans k6
   have al4:=i2.alive _ _ st4
   have st6:St (i+1) s6.heap:=i2.frame _ _ _ st4 fun b hb o e=>k56.ex b o e (no3 b hb) (nb.pj hb) (nb.fas b hb)
   have no6:∀ b∈fp,own6 b=none:=fun b hb=>by
    obtain⟨oo,e⟩:=al4 b hb
    refine (k56.ownOld b oo e).trans ?_;exact no3 b hb
   have cont:mU (cy K f.env.scope f.ro t) (a7 K b f.env.scope f.ro) (a7 K o f.env.scope f.ro) σ2.H src (items.drop (i+1)) σ6 Q X ->
     ∃ m,m < items.length - i+1/\qQ C K f t b o φ own s.heap Q X items src σ2.H φ2 fp St m s6:=
    fun g=>⟨items.length - (i+1)+1,nsD hi',i+1,φ6,own6,σ6,rfl,hi',kk,(hp3.trans k5.pre).trans k6.pre,w6,no6,st6,g⟩
   induction b6<;>induction fl<;>first | exact r6.elim | skip
   .exact cont g6
   .exact⟨φ6,own6,σ6,.next,kk,w6,trivial,g6⟩
   .exact cont g6
   .exact⟨φ6,own6,σ6,.ret _,kk,w6,r6,g6⟩
  ·(intro r Fv ζ5;refine ao ζ5 fun v ζ6 hv=>?_;clear ζ5;obtain rfl:=ζ6)
   exact hv
end
end Mine
namespace Mine
open PySem PyProof.Rows
section
variable {C:Ctx} {f:Fm} {K:Cfg} {d:Nat}
theorem zx:eu C K f []:=fun φ₀=>ae.pure fun _ _=>trivial
theorem wx {st:Stmt} {r:List Stmt} (h:fK C K f st) (hr:eu C K f r):eu C K f (st::r):=by
 intro φ₀ φ own σ Q X s hp w q
 refine wpAny_execs_cons (wpAny_mono (h φ φ own σ _ X s (GZ _) w q) ?_ fun _ _ x=>x)
 rintro fl s1 ⟨φ1,own1,σ1,b,k1,w1,r1,q1⟩
 induction b<;>induction fl<;>first | exact r1.elim | skip
 .exact wpAny_mono (hr φ1 φ1 own1 σ1 Q X s1 (GZ _) w1 q1) (fun _ _ x=>QP.after k1 x) fun _ _ x=>EP.after k1 x
 .exact⟨φ1,own1,σ1,.brk,k1,w1,r1,q1⟩
 .exact⟨φ1,own1,σ1,.cont,k1,w1,r1,q1⟩
 .exact⟨φ1,own1,σ1,.ret _,k1,w1,r1,q1⟩
theorem zv {pos:Pos}:fK C K f (.Pass pos):=fun φ₀=>ae.at (ae.pure fun _ _=>trivial)
theorem wi {pos:Pos}:fK C K f (.Break pos):=fun φ₀=>ae.at (ae.pure fun _ _=>trivial)
theorem nN {pos:Pos}:fK C K f (.Continue pos):=fun φ₀=>ae.at (ae.pure fun _ _=>trivial)
theorem kP {pos:Pos}:fK C K f (.Return none pos):=fun φ₀=>ae.at (ae.pure fun _ _=>trivial)
theorem tF {e:Expr} {pos:Pos} (he:aV C K f e):fK C K f (.Return (some e) pos):=by
 intro φ₀
 have e1:awS K (.Return (some e) pos) f.env.scope f.ro=(awE K e f.env.scope f.ro).bind fun v=>Tr.pure (.ret v):=rfl
 refine rwE e1 ?_
 exact ae.at (ae.bind (he φ₀) fun φ v b hp r=>ae.pure fun φ' hp'=>r.mono hp')
theorem DN {test:Expr} {b o:List Stmt} {pos:Pos} (ht:fL C K f test) (hb:eu C K f b) (ho:eu C K f o):fK C K f (.If test b o pos):=by
 intro φ₀
 have e1:awS K (.If test b o pos) f.env.scope f.ro=(awT K test (awE K test f.env.scope f.ro) f.env.scope f.ro).bind fun r=>if r then a7 K b f.env.scope f.ro else a7 K o f.env.scope f.ro:=rfl
 refine rwE e1 ?_
 refine ae.at (ae.bind (ht φ₀) fun φ v r hp e=>?_)
 subst e
 induction v with
 | true=>exact hb φ
 | false=>exact ho φ
theorem iQ {φ:List Addr} {own:Addr->Option Nat} {H:List O} {m:Str->Option V} {s:Shared} (w:W C.B C.fs f φ own H m s):interactive f.env=false:=by
 unfold interactive
 refine rwE w.eok.kind ?_
 rfl
theorem pg (env:Env) (n:Nat) (t:Option Expr) (e:Expr):c9 e=false->swapsWith e t n env=pure false:=by
 induction e using Expr.casesOn<;>first | exact fun _=>rfl | exact fun h=>nomatch h
theorem y9 {env:Env} {n:Nat} {e:Expr} (h:c9 e=false):∀ ts:List Expr,swapsWithSole ts e n env=pure false
 | []=>rfl
 | [t]=>pg env n (some t) e h
 | _::_::_=>rfl
theorem zu {e:Expr} {pos:Pos} (he:aV C K f e):fK C K f (.Expr e pos):=by
 intro φ₀
 have e1:awS K (.Expr e pos) f.env.scope f.ro=if c9 e then fun _ _ _=>False else (awE K e f.env.scope f.ro).bind fun _=>Tr.pure .next:=rfl
 refine rwE e1 ?_
 by_cases hc:c9 e=true
 .refine rwE (if_pos hc) ?_;exact ae.false
 .refine rwE (if_neg hc) ?_
  intro φ own σ Q X s hp w q
  have hi:=iQ w
  have hs:swapsWith e none pos.line f.env=pure false:=pg _ _ _ _ (by simpa using hc)
  have e0:exec (.Expr e pos) f.env=(do
   standAt pos
   if interactive f.env then printExpr (eval e f.env)
   else if <- swapsWith e none pos.line f.env then do evalThenUse e f.env fun _=>point;pure .next
   else do dropValue e pos (<- eval e f.env)):=rfl
  refine rwE e0 (rwE hi (rwE hs ?_))
  refine wpAny_bind (wpAny_standAt (wpAny_bind (wpAny_pure ?_)))
  refine rwE (if_neg (by decide)) ?_
  refine wpAny_bind (wpAny_mono (he φ φ own σ _ X s (GZ _) w q) ?_ fun _ _ x=>x)
  rintro v s1 ⟨φ1,own1,σ1,b,k1,w1,r1,q1⟩
  exact wpAny_dropValue ⟨φ1,own1,σ1,.next,k1,w1,trivial,q1⟩
noncomputable def qN (C:Ctx) (K:Cfg) (f:Fm) (t:Expr):Prop:=∀ φ₀ v z,VR φ₀ v z->ae C f φ₀ (assign t f.env z) (awA K t v f.env.scope f.ro) (fun _ _ _=>True)
theorem zf {x:Str} {p:Pos}:qN C K f (.Name x p):=fun φ₀ v z r=>bT r
theorem vW (ok:a9 C K d) {es:List Expr} {k:Nat} {p:Pos}:qN C K f (.Tuple es k p):=by
 intro φ₀ v z r φ own σ Q X s hp w q
 have q:cy K f.env.scope f.ro (.Tuple es k p) (.one v) σ Q X:=q
 exact kR (it:=.one v) ok (r.mono hp) w q
theorem ze (co:bB C.B K) {o:Expr} {name:Str} {p:Pos} (ho:aV C K f o):qN C K f (.Attribute o name p):=by
 intro φ₀ v z r
 show ae C f φ₀ (do
  let ov <- holding [z] (eval o f.env)
  standAt p.atName
  holding [z,ov] (setAttr ov name z)
  release [z,ov] []) ((awE K o f.env.scope f.ro).bind fun ov=>Tr.lift (bZ K ov name v)) _
 refine ae.bind (ae.holding (ho φ₀)) fun φ vo ov hp ro=>ae.at ?_
 intro φ1 own σ Q X s hp1 w q
 refine wpAny_bind (wpAny_holding (wpAny_mono (i8 co ro (r.mono hp) φ1 own σ Q X s hp1 w q) (fun _ s1 h=>?_) fun _ _ x=>x))
 exact wpAny_release h
theorem q6 {K:Cfg} {o:Expr} {p:Pos} {v:V} {sc:Scope} {ro:List Str} (i:Expr):aF i=false->awA K (.Subscript o i p) v sc ro=(awE K o sc ro).bind fun ov=>(awE K i sc ro).bind fun iv=>Tr.lift (bS ov iv v):=fun h=>if_neg (by refine rwE h ?_;exact Bool.false_ne_true)
theorem pU {o:Expr} {p:Pos} {env:Env} {z:Value} (i:Expr):aF i=false->assign (.Subscript o i p) env z=(do
  let ov <- holding [z] (eval o env)
  let iv <- holding [z,ov] (eval i env)
  standAt p
  holding [z,ov,iv] (setItem ov iv z)
  release [z,ov,iv] []):=by
 induction i using Expr.casesOn<;>first | exact fun _=>rfl | exact fun h=>nomatch h
theorem ae.released {φ₀:List Addr} {vs:List Value} {t:Sem Unit} {a:Tr Unit} (h:ae C f φ₀ t a (fun _ _ _=>True)):ae C f φ₀ (do t;release vs []) a (fun _ _ _=>True):=
 fun φ own σ Q X s hp w q=>wpAny_bind (wpAny_mono (h φ own σ Q X s hp w q) (fun _ _ h=>wpAny_release h) fun _ _ x=>x)
theorem BL {o i:Expr} {p:Pos} (hn:aF i=false) (ho:aV C K f o) (hi:aV C K f i):qN C K f (.Subscript o i p):=by
 intro φ₀ v z r
 refine rwE (q6 i hn) (rwE (pU i hn) ?_)
 exact ae.bind (ae.holding (ho φ₀)) fun φ vo ov hp ro=>ae.bind (ae.holding (hi φ)) fun φ' vi iv hp' ri=>ae.at (ae.released (ae.holding (i9 (ro.mono hp') ri ((r.mono hp).mono hp'))))
theorem fi {t:Expr} {r:List Expr} {env:Env} (h:isStar t=false):assignEach (t::r) env=(false,assign t env)::assignEach r env:=by
 induction t using Expr.casesOn<;>first | rfl | exact Bool.noConfusion h
theorem dC:∀ (ts:List Expr),(∀ t∈ts,qN C K f t)->(∀ t∈ts,isStar t=false)->∀ φ₀ v z,VR φ₀ v z->ae C f φ₀ (assignAll z ((assignEach ts f.env).map (·.2))) (jS K v f.env.scope f.ro ts) (fun _ _ _=>True)
 | [],_,_,φ₀,v,z,r=>ae.pure fun _ _=>trivial
 | [t],h,hst,φ₀,v,z,r=>by
  have e0:assignAll z ((assignEach [t] f.env).map (·.2))=assign t f.env z:=by
   refine rwE (fi (hst t (.head _))) ?_
   rfl
  refine rwE e0 ?_
  intro φ own σ Q X s hp w q
  exact h t (.head _) φ₀ v z r φ own σ Q X s hp w q
 | t::t2::ts,h,hst,φ₀,v,z,r=>by
  have e0:assignAll z ((assignEach (t::t2::ts) f.env).map (·.2))=(do holding [z] (assign t f.env z);assignAll z ((assignEach (t2::ts) f.env).map (·.2))):=by
   refine rwE (fi (hst t (.head _))) (rwE (fi (hst t2 (.tail _ (.head _)))) ?_)
   rfl
  refine rwE e0 ?_
  have e1:jS K v f.env.scope f.ro (t::t2::ts)=(awA K t v f.env.scope f.ro).bind fun _=>jS K v f.env.scope f.ro (t2::ts):=rfl
  refine rwE e1 ?_
  exact ae.bind (ae.holding (h t (.head _) φ₀ v z r)) fun φ _ _ hp _=>dC (t2::ts) (fun t ht=>h t (.tail _ ht)) (fun t ht=>hst t (.tail _ ht)) φ v z (r.mono hp)
theorem cS {ts:List Expr} {e:Expr} (h:¬ (aZ e || ts.any isStar)=true):aZ e=false/\∀ t∈ts,isStar t=false:=by
 simp only [Bool.or_eq_true,List.any_eq_true,not_or,not_exists,not_and] at h
 exact⟨by simpa using h.1,fun t ht=>by simpa using h.2 t ht⟩
theorem BJ (env:Env) (t e:Expr):aZ e=false->swappedStores [t] e env=pure none:=by
 induction t using Expr.casesOn
 case Tuple=>induction e using Expr.casesOn<;>first | exact fun _=>rfl | exact fun h=>nomatch h
 case List=>induction e using Expr.casesOn<;>first | exact fun _=>rfl | exact fun h=>nomatch h
 all_goals exact fun _=>rfl
theorem BK (env:Env) (e t u:Expr) (r:List Expr):swappedStores (t::u::r) e env=pure none:=by induction t using Expr.casesOn<;>rfl
theorem gD {env:Env} {e:Expr}:∀ (ts:List Expr),aZ e=false->swappedStores ts e env=pure none
 | [],_=>rfl
 | [t],h=>BJ env t e h
 | t::u::r,_=>BK env e t u r
theorem tD {ts:List Expr} {e:Expr} {pos:Pos} (hc:c9 e=false) (he:aV C K f e) (hts:∀ t∈ts,qN C K f t):fK C K f (.Assign ts e pos):=by
 intro φ₀
 show ae C f φ₀ (do
   standAt pos
   if <- swapsWithSole ts e pos.line f.env then do
    evalThenUse e f.env fun v=>assignAll v ((assignEach ts f.env).map (·.2))
    pure .next
   else do
    let v <- eval e f.env
    assignStores f.env v (<- swappedStores ts e f.env) ((assignEach ts f.env).map (·.2))) (if aZ e || ts.any isStar then fun _ _ _=>False else (awE K e f.env.scope f.ro).bind fun v=>(jS K v f.env.scope f.ro ts).bind fun _=>Tr.pure .next) FlR
 by_cases htb:(aZ e || ts.any isStar)=true
 .refine rwE (if_pos htb) ?_;exact ae.false
 rw [if_neg htb,y9 hc,gD ts (cS htb).1]
 exact ae.at (ae.bindL (t:=(pure false:Sem Bool)) false (fun Q E s q=>wpAny_pure q) (ae.bind (he φ₀) fun φ z v hp r=>ae.bindL (t:=(pure none:Sem (Option (List Str)))) none (fun Q E s q=>wpAny_pure q) (ae.bind (dC ts hts (cS htb).2 φ v z r) fun φ' _ _ hp' _=>ae.pure fun _ _=>trivial)))
theorem nT {φ₀:List Addr} {op:Operator} {a b:V} {va vb:Value} (ra:VR φ₀ a va) (rb:VR φ₀ b vb):ae C f φ₀ (operate [va,vb] (inplaceOp op va vb)) (pV op a b) VR:=by
 intro φ own σ Q X s hp w q
 obtain⟨H,m⟩:=σ
 (obtain⟨hop,ζ1⟩:=q;refine bq ζ1 fun i j ζ2 ζ3=>?_;clear ζ1;obtain rfl:=ζ2;obtain⟨ζ4,q⟩:=ζ3;obtain rfl:=ζ4)
 obtain⟨t,rfl⟩:=ra.int
 obtain⟨u,rfl⟩:=rb.int
 refine wpAny_operateT ?_
 rcases hop with rfl | rfl
 .exact PySem.P.iadd_int (QP.same w (b:=V.int (i+j)) (by exact rfl) q _)
 .exact PySem.P.isub_int (QP.same w (b:=V.int (i - j)) (by exact rfl) q _)
theorem qt {x:Str} {p pos:Pos} {op:Operator} {e:Expr} (hl:∀ φ₀,ae C f φ₀ (loadName f.env x) (bH K f.env.scope x) VR) (he:aV C K f e):fK C K f (.AugAssign (.Name x p) op e pos):=by
 intro φ₀
 have e1:awS K (.AugAssign (.Name x p) op e pos) f.env.scope f.ro=(bH K f.env.scope x).bind fun a=>(awE K e f.env.scope f.ro).bind fun b=>(pV op a b).bind fun r=>(bI f.env.scope f.ro x r).bind fun _=>Tr.pure .next:=rfl
 refine rwE e1 ?_
 refine ae.at (ae.bind (hl φ₀) fun φ va a hp ra=>ae.bind (ae.holding (he φ)) fun φ1 vb b hp1 rb=>ae.at (ae.bind (nT (ra.mono hp1) rb) fun φ2 vr r hp2 rr=>ae.at ?_))
 refine ae.bind (R:=fun _ _ _=>True) ?_ fun φ3 _ _ hp3 _=>ae.pure fun _ _=>trivial
 intro φ' own σ Q X s hp' w q
 exact wpAny_bindName (ja rr φ' own σ Q X s hp' w q)
theorem qs (co:bB C.B K) {o:Expr} {name:Str} {p pos:Pos} {op:Operator} {e:Expr} (ho:aV C K f o) (he:aV C K f e):fK C K f (.AugAssign (.Attribute o name p) op e pos):=by
 intro φ₀ φ own σ Q X s hp w q
 have e0:exec (.AugAssign (.Attribute o name p) op e pos) f.env=(do
  standAt pos
  let ov <- eval o f.env
  let new <- holding [ov] do
   standAt p.atName
   let old <- getAttr ov name true
   let v <- holding [old] (eval e f.env)
   standAt pos
   operate [old,v] (inplaceOp op old v)
  standAt p.atName
  holding [new,ov] (setAttr ov name new)
  release [new,ov] []
  pure .next):=rfl
 refine rwE e0 ?_
 refine wpAny_bind (wpAny_standAt (wpAny_bind (wpAny_mono (ho φ φ own σ _ X s (GZ _) w q) ?_ fun _ _ x=>x)))
 rintro vo s1 ⟨φ1,own1,σ1,ov,k1,w1,ro,q1⟩
 refine wpAny_bind (wpAny_holding (wpAny_bind (wpAny_standAt (wpAny_bind (wpAny_mono (gH co ro φ1 own1 σ1 _ X s1 (GZ _) w1 q1) ?_ fun _ _ x=>EP.after k1 x)))))
 rintro va s2 ⟨φ2,own2,σ2,a,k2,w2,ra,q2⟩
 have k12:=k1.trans k2
 refine wpAny_bind (wpAny_holding (wpAny_mono (he φ2 φ2 own2 σ2 _ X s2 (GZ _) w2 q2) ?_ fun _ _ x=>EP.after k12 x))
 rintro vb s3 ⟨φ3,own3,σ3,b,k3,w3,rb,q3⟩
 have k13:=k12.trans k3
 refine wpAny_bind (wpAny_standAt (wpAny_mono (nT (ra.mono k3.pre) rb φ3 own3 σ3 _ X s3 (GZ _) w3 q3) ?_ fun _ _ x=>EP.after k13 x))
 rintro vr s4 ⟨φ4,own4,σ4,r,k4,w4,rr,q4⟩
 have k14:=k13.trans k4
 refine wpAny_bind (wpAny_standAt (wpAny_bind (wpAny_holding (wpAny_mono (i8 co (((ro.mono k2.pre).mono k3.pre).mono k4.pre) rr φ4 own4 σ4 _ X s4 (GZ _) w4 q4) ?_ fun _ _ x=>EP.after k14 x))))
 rintro _ s5 ⟨φ5,own5,σ5,_,k5,w5,-,q5⟩
 exact wpAny_bind (wpAny_release (wpAny_pure ⟨φ5,own5,σ5,.next,k14.trans k5,w5,trivial,q5⟩))
theorem lu (i:Expr) (ov iv new:Value):aF i=false->augStore i ov iv new=(do
   holding [new,ov,iv] (setItem ov iv new)
   release [new,ov,iv] []
   pure .next):=by
 induction i using Expr.casesOn<;>first | exact fun _=>rfl | exact fun h=>nomatch h
theorem tE {o i:Expr} {p pos:Pos} {op:Operator} {e:Expr} (ho:aV C K f o) (hi:aV C K f i) (he:aV C K f e):fK C K f (.AugAssign (.Subscript o i p) op e pos):=by
 intro φ₀
 have e1:awS K (.AugAssign (.Subscript o i p) op e pos) f.env.scope f.ro=if aF i then fun _ _ _=>False else (awE K o f.env.scope f.ro).bind fun ov=>(awE K i f.env.scope f.ro).bind fun iv=>((Tr.lift (ba ov iv)).bind fun a=>(awE K e f.env.scope f.ro).bind fun b =>
   pV op a b).bind fun r=>(Tr.lift (bS ov iv r)).bind fun _=>Tr.pure .next:=rfl
 refine rwE e1 ?_
 by_cases hsl:aF i=true
 .refine rwE (if_pos hsl) ?_;exact ae.false
 .refine rwE (if_neg hsl) ?_
  have e0:exec (.AugAssign (.Subscript o i p) op e pos) f.env=(do
   standAt pos
   let ov <- eval o f.env
   let iv <- holding [ov] (eval i f.env)
   let new <- holding [ov,iv] do
    standAt p
    let old <- getItem ov iv
    let v <- holding [old] (eval e f.env)
    standAt pos
    operate [old,v] (inplaceOp op old v)
   standAt p
   augStore i ov iv new):=rfl
  refine rwE e0 ?_
  refine ae.at (ae.bind (ho φ₀) fun φ vo ov hp ro=>ae.bind (ae.holding (hi φ)) fun φ1 vi iv hp1 ri=>ae.bind (R:=VR) (ae.holding (ae.at (ae.bind (i7 (ro.mono hp1) ri) fun φ2 va a hp2 ra=>ae.bind (ae.holding (he φ2)) fun φ3 vb b hp3 rb=>ae.at (nT (ra.mono hp3) rb)))) fun φ4 vr r hp4 rr=>ae.at ?_)
  refine rwE (lu i _ _ _ (by simpa using hsl)) ?_
  refine ae.bind (ae.holding (i9 ((ro.mono hp1).mono hp4) (ri.mono hp4) rr)) fun φ5 _ _ _ _=>?_
  exact fun φ own σ Q X s hp w q=>wpAny_bind (wpAny_release (wpAny_pure ⟨φ,own,σ,.next,Kp.refl ..,w,trivial,q⟩))
theorem BV {o i:Expr} {p pos:Pos} (ho:aV C K f o) (hi:aV C K f i):fK C K f (.Delete [.Subscript o i p] pos):=by
 intro φ₀
 have e1:awS K (.Delete [.Subscript o i p] pos) f.env.scope f.ro=if aF i then fun _ _ _=>False else (awE K o f.env.scope f.ro).bind fun ov=>(awE K i f.env.scope f.ro).bind fun iv=>(Tr.lift (dq ov iv)).bind fun _=>Tr.pure .next:=rfl
 refine rwE e1 ?_
 by_cases hsl:aF i=true
 .refine rwE (if_pos hsl) ?_;exact ae.false
 .refine rwE (if_neg hsl) ?_
  intro φ own σ Q X s hp w q
  refine wpAny_Delete ?_
  have e0:deleteEach [.Subscript o i p] f.env=(do
   (do
    let ov <- eval o f.env
    let iv <- holding [ov] (eval i f.env)
    standAt p
    holding [ov,iv] (delItem ov iv)
    release [ov,iv] [])
   deleteEach [] f.env):=rfl
  refine rwE e0 ?_
  refine wpAny_bind (wpAny_bind (wpAny_mono (ho φ φ own σ _ X s (GZ _) w q) ?_ fun _ _ x=>x))
  rintro vo s1 ⟨φ1,own1,σ1,ov,k1,w1,ro,q1⟩
  refine wpAny_bind (wpAny_holding (wpAny_mono (hi φ1 φ1 own1 σ1 _ X s1 (GZ _) w1 q1) ?_ fun _ _ x=>EP.after k1 x))
  rintro vi s2 ⟨φ2,own2,σ2,iv,k2,w2,ri,q2⟩
  have k12:=k1.trans k2
  refine wpAny_bind (wpAny_standAt (wpAny_bind (wpAny_holding (wpAny_mono (nV (ro.mono k2.pre) ri φ2 own2 σ2 _ X s2 (GZ _) w2 q2) ?_ fun _ _ x=>EP.after k12 x))))
  rintro _ s3 ⟨φ3,own3,σ3,_,k3,w3,-,q3⟩
  exact wpAny_release (wpAny_deleteEach_nil ⟨φ3,own3,σ3,.next,k12.trans k3,w3,trivial,q3⟩)
end
end Mine
namespace Mine
open PySem PyProof.Rows
noncomputable def ownIn (own:Addr->Option Nat) (i:Nat) (S:List Addr):Addr->Option Nat:=fun b=>if b∈S then some i else own b
section
variable {B:Base} {fs:List Env} {f:Fm} {φ:List Addr} {own:Addr->Option Nat} {H:List O} {m:Str->Option V} {s:Shared}
theorem W.newD (x:W B fs f φ own H m s) {h':Heap} {a:Addr} {o':O} (S:List Addr) (hS:∀ b∈S,s.heap.get? b=none/\∃ o,h'.get? b=some o) (hk:∀ b o,s.heap.get? b=some o->h'.get? b=some o)
  (r:OR B (φ++[a]) (ownIn own H.length S) h' H.length a o') (tk:Nat):W B fs f (φ++[a]) (ownIn own H.length S) (H++[o']) m { s with heap:=h',toks:=tk }:=by
 have old:∀ b o,s.heap.get? b=some o->ownIn own H.length S b=own b:=fun b o e=>if_neg fun hb=>by rw [(hS b hb).1] at e;exact nS e
 refine⟨x.eok,by refine rwE GY (rwE GY (rwE x.len ?_));rfl,fun j o b e1 e2=>?_,fun b o e=>hk b o (x.stays b o e),fun b i w=>?_,fun g hf L hL=>?_,?_,fun y c hc=>?_,?_,?_,x.gens,x.os,x.fas⟩
 .have hp:φ <+: φ++[a]:=List.prefix_append _ _
  by_cases hj:j < H.length
  .rw [GR hj] at e1
   rw [GR (by refine rwE x.len ?_;exact hj)] at e2
   exact (x.obj j o b e1 e2).keep hp (fun c w=>by obtain⟨o,e⟩:=(x.ownNew c j w).2.1;refine (old c o e).trans ?_;exact w) fun c ob w e=>hk c ob e
  .have hj':j=H.length:=by
    have:=(List.getElem?_eq_some_iff.mp e1).1
    rw [GY,List.length_singleton] at this;exact Nat.eq_of_lt_succ_of_not_lt this hj
   subst hj'
   rw [List.getElem?_append_right (Nat.le_refl _)] at e1
   rw [List.getElem?_append_right (by refine rwE x.len ?_;exact Nat.le_refl _),x.len] at e2
   simp at e1 e2
   subst e1 e2
   exact r
 .unfold ownIn at w
  by_cases hb:b∈S
  .rw [if_pos hb] at w;cases w
   refine⟨?_,(hS b hb).2,by refine rwE GY ?_;exact Nat.lt_succ_self _⟩
   induction hq:B.Fw.get? b with
   | none=>rfl
   | some o=>have:=x.stays b o hq;rw [(hS b hb).1] at this;exact nS this
  .rw [if_neg hb] at w
   (refine aJ (x.ownNew b i w) fun w1 ζ1 w3=>?_;obtain⟨o,e⟩:=ζ1)
   exact⟨w1,⟨o,hk b o e⟩,by refine rwE GY ?_;exact Nat.le.step w3⟩
 ·(obtain⟨_,ζ2⟩:=x.frames.mem (b:=L) (List.mem_filterMap.mpr ⟨g,hf,hL⟩);refine ao ζ2 fun o e _=>?_;clear ζ2)
  refine (old L o e).trans ?_;exact x.ownFr g hf L hL
 ·(refine ao (x.fr.ns) fun ml ζ3 _=>?_;obtain⟨o,_,_,e,_⟩:=ζ3)
  refine (old _ o e).trans ?_;exact x.ownLoc
 .obtain⟨w1,o,e⟩:=x.ownCell y c hc
  exact⟨(old c o e).trans w1,o,hk c o e⟩
 .exact bh x.frames fun g hf L o hL e=>⟨o.slots,hk L o e⟩
 .exact x.fr.keep (List.prefix_append _ _) (fun o e=>⟨o.slots,hk _ o e⟩) fun y c o hc e=>⟨o.slots,hk c o e⟩
end
inductive fW (B:Base):V->Prop
 | ty (X n i:String):ExcCallFacts X n i->ExcRaiseFacts X->fW B (.ty X)
 | own (nm q:Str) (C N:Addr) (bs bm:List Value) (hdct:Bool) (sn:List Str) (sub:List Value) (ab:Bool) (col:Option Bool) (dd:Option Addr) (k0 k1 k2 k3 k5:Option Value) (Bn newId initId:String) (mN:Str->Option Value) :
   ExcBaseFacts Bn newId initId bm->B.Fw.get? C=some (excClassObj nm q C N bs bm hdct sn sub ab col dd k0 k1 k2 k3 k5 newId)->B.Fw.Ns N mN->mN "__init__" = none->fW B (.glob C)
inductive ip (B:Base):V->V->Prop
 | ty (X T:String):isSubtype (.type T) (.type "BaseException")=pure true->isSubtype (.type ((Manifest.find? T).elim "type" fun x=>x.metatype)) (.type "tuple")=pure false->isSubtype (.type X) (.type T)=pure true->ip B (.ty X) (.ty T)
 | own (C:Addr):fW B (.glob C)->ip B (.glob C) (.glob C)
section
variable {C:Ctx} {f:Fm} {K:Cfg} {d:Nat}
theorem EP.made {φ:List Addr} {own:Addr->Option Nat} {H:List O} {m:Str->Option V} {s:Shared} (w:W C.B C.fs f φ own H m s) {c:V} {vc:Value} {xs:List V} {ws:List Value} (rc:VR φ c vc) (rx:VRs φ xs ws) {X:V->St->Prop}
  (q:X (.ref H.length) ⟨H++[.exc c xs],m⟩) {h':Heap} {e:Addr} (hm:Heap.MadeExcOf s.heap h' e vc ws):EP C f φ own s.heap X (.ref e) { s with heap:=h' }:=by
 obtain⟨hk,hnew,t,he,htn,ht⟩:=hm
 have hte:t≠e:=fun h=>by subst h;rw [he] at ht;lia
 have hw:=w.newD (h':=h') (a:=e) (o':=.exc c xs) [e,t] (fun b hb=>?_) hk ⟨by simp [ownIn],vc,_,_,t,ws.toArray,0,rc.mono (List.prefix_append _ _),he,rfl,rfl,rfl,by simp [ownIn],hte,ht,by simpa using rx.mono (List.prefix_append _ _),.inl rfl⟩ s.toks
 .refine⟨φ++[e],ownIn own H.length [e,t],⟨H++[.exc c xs],m⟩,H.length,e,⟨List.prefix_append _ _,fun b o hb=>if_neg fun hm=>?_,fun b o hb=>⟨o,hk b o hb⟩,fun b o hb _ _=>⟨o.slots,hk b o hb⟩,fun b o hb _ _ _=>hk b o hb⟩,hw,rfl,?_,⟨c,xs,by exact List.getElem?_concat_length⟩,q⟩
  .simp only [List.mem_cons,List.not_mem_nil,or_false] at hm
   rcases hm with rfl | rfl
   .rw [hnew] at hb;exact nS hb
   .rw [htn] at hb;exact nS hb
  .refine rwS w.len ?_;exact List.getElem?_concat_length
 .simp only [List.mem_cons,List.not_mem_nil,or_false] at hb
  rcases hb with rfl | rfl
  .exact⟨hnew,_,he⟩
  .exact⟨htn,_,ht⟩
theorem rN {args:List Expr} {env:Env} {pos:Pos} (h:c8 args=true):(backTo pos (starEach args env)).any (·.1)=false:=by
 unfold c8 at h
 rw [Bool.and_eq_true] at h
 have h1:=h.1
 clear h
 induction args with
 | nil=>rfl
 | cons e r ih =>
  rw [List.all_cons,Bool.and_eq_true] at h1
  induction e using Expr.casesOn<;>first
   | (refine (?_:(false || (backTo pos (starEach r env)).any (·.1))=false);refine rwE (ih h1.2) ?_;rfl)
   | (exfalso;revert h1;nofun;done)
theorem wj (ok:a9 C K d) (ex:∀ c,K.exc c=true->fW C.B c) {x:Str} {np cpos pos:Pos} {args:List Expr} (hn:aV C K f (.Name x np)) (ha:cX C K f args) :
  fK C K f (.Raise (some (.Call (.Name x np) args [] cpos)) none pos):=by
 intro φ₀ φ own σ Q X s hp w q
 have load:∃ c,bH K f.env.scope x σ (fun c' σ'=>c'=c/\σ'=σ) (fun _ _=>False)/\(c8 args=true/\K.ok/\K.exc c=true) /\
   (aI K args f.env.scope f.ro) σ (fun vs σ'=>vs.length<=10/\X (.ref σ'.H.length) ⟨σ'.H++[.exc c vs],σ'.m⟩) X:=by
  have q':(match f.env.scope.names.lookup x with
   | some .local | some .cell | some .free=>∃ v,σ.m x=some v/\(c8 args=true/\K.ok/\K.exc v=true)/\(aI K args f.env.scope f.ro) σ (fun vs σ'=>vs.length<=10/\X (.ref σ'.H.length) ⟨σ'.H++[.exc v vs],σ'.m⟩) X
   | some .globalImplicit=>∃ v,K.glob x=some v/\(c8 args=true/\K.ok/\K.exc v=true)/\(aI K args f.env.scope f.ro) σ (fun vs σ'=>vs.length<=10/\X (.ref σ'.H.length) ⟨σ'.H++[.exc v vs],σ'.m⟩) X
   | _=>False):=q
  induction hl:f.env.scope.names.lookup x with
  | none=>rw [hl] at q';exact q'.elim
  | some kd =>
   rw [hl] at q'
   induction kd<;>first
    | exact q'.elim
    | ((refine ao q' fun v hv q2=>?_;clear q');exact aW v (by unfold bH;refine rwE hl ?_;exact⟨v,hv,rfl,rfl⟩) q2)
 (refine d8 load fun c hc ζ5 q2=>?_;clear load;obtain⟨hfew,hok,hexc⟩:=ζ5)
 have hname:=hn φ φ own σ _ _ s (GZ _) w hc
 have hh:=ok.ok hok
 have hpl:=rN (env:=f.env) (pos:=cpos) hfew
 cases ex c hexc with
 | ty Xn n i F G =>
  refine wpAny_Raise_call F G hh hpl (wpAny_mono hname ?_ fun e s' x=>by obtain⟨_,_,_,_,_,_,_,_,_,_,h⟩:=x;exact h.elim)
  rintro vf s1 ⟨φ1,own1,σ1,cv,k1,w1,rf,rfl,rfl⟩
  refine⟨rf.ty,?_⟩
  refine wpAny_mono (ha φ1 cpos _ φ1 own1 _ _ X s1 (GZ _) w1 q2) ?_ fun _ _ x=>EP.after k1 x
  rintro a s2 ⟨φ2,own2,σ2,xs,k2,w2,⟨hkw,rxs⟩,hlen,qx⟩
  refine⟨hkw,by refine rwS rxs.length ?_;exact GS hlen (by decide),fun h' e hm=>EP.after (k1.trans k2) ?_⟩
  exact EP.made w2 (c:=.ty Xn) (vc:=.type Xn) rfl rxs qx hm.of
 | own nm qn Ca N bs bm hdct sn sub ab col dd k0 kk1 kk2 k3 k5 Bn newId initId mN F hC hN hni =>
  refine wpAny_Raise_call_sub F hh hpl hni (nm:=nm) (q:=qn) (C:=Ca) (N:=N) (bs:=bs) (hdct:=hdct) (sn:=sn) (sub:=sub) (ab:=ab) (col:=col) (dd:=dd) (k0:=k0) (k1:=kk1) (k2:=kk2) (k3:=k3) (k5:=k5)
   (wpAny_mono hname ?_ fun e s' x=>by obtain⟨_,_,_,_,_,_,_,_,_,_,h⟩:=x;exact h.elim)
  rintro vf s1 ⟨φ1,own1,σ1,cv,k1,w1,rf,rfl,rfl⟩
  refine⟨rf.glob,?_⟩
  refine wpAny_mono (ha φ1 cpos _ φ1 own1 _ _ X s1 (GZ _) w1 q2) ?_ fun _ _ x=>EP.after k1 x
  rintro a s2 ⟨φ2,own2,σ2,xs,k2,w2,⟨hkw,rxs⟩,hlen,qx⟩
  refine CS hkw (by refine rwS rxs.length ?_;exact GS hlen (by decide)) (w2.stays _ _ hC) (Ns.stays hN w2.stays) (fun h' e hm=>EP.after (k1.trans k2) ?_)
  exact EP.made w2 (c:=.glob Ca) (vc:=.ref Ca) rfl rxs qx hm
end
end Mine
namespace Mine
open PySem PyProof.Rows
noncomputable def Ctx.held (C:Ctx) (e:Value):Ctx:=⟨C.B,C.fs,C.A.mark (some e)⟩
theorem QP.Cn {α β:Type} {C:Ctx} {e:Value} {f:Fm} {φ:List Addr} {own:Addr->Option Nat} {h:Heap} {R:List Addr->β->α->Prop} {Q:β->St->Prop} {v:α} {s:Shared} (x:QP (C.held e) f φ own h R Q v s):QP C f φ own h R Q v s:=by
 obtain⟨φ,own,σ,b,k,w,r,q⟩:=x
 exact⟨φ,own,σ,b,k,w,r,q⟩
section
variable {C:Ctx} {f:Fm} {K:Cfg} {d:Nat}
theorem tQ {φ:List Addr} {own:Addr->Option Nat} {H:List O} {m:Str->Option V} {s:Shared} (w:W C.B C.fs f φ own H m s) {i:Nat} {c tv:V} {args:List V} {e:Addr} {vt:Value} {A:Around} (he:H[i]?=some (.exc c args)) (ge:φ[i]?=some e)
  (rt:VR φ tv vt) (hs:ip C.B c tv) {Q:Bool->Shared->Prop} {E:Value->Shared->Prop} (h:Q true s):wpAny C.M A (excMatches (.ref e) vt) Q E s:=by
 obtain⟨we,vc,oe,vs,t,ts,n,hc,g,gc,gd,g0,wt,hte,gt,hv,htb⟩:=w.obj i _ e he ge
 cases hs with
 | ty X T h1 h2 h3 =>
  refine rwE rt.ty ?_
  rw [hc.ty] at gc
  exact wpAny_excMatches_type (b:=true) ⟨_,g,gc⟩ h1 h2 h3 h
 | own Ca hcan =>
  refine rwE rt.glob ?_
  rw [hc.glob] at gc
  cases hcan with
  | own nm qn _ N bs bm hdct sn sub ab col dd k0 kk1 kk2 k3 k5 Bn newId initId mN F hC hN hni =>
   obtain⟨hh,gg,dr,tt,os⟩:=s
   exact wpAny_excMatches_sub_self (w.stays _ _ hC) g gc F.hasBase h
theorem BX (ok:a9 C K d) (tp:qW C f) (sb:∀ c tv,K.sub c tv=true->ip C.B c tv) {tx:Str} {n:Option Str} {b hb:List Stmt} {tpos hpos pos:Pos} (hbody:eu C K f b)
  (ht:∀ e,aV (C.held e) K f (.Name tx tpos)) (hhb:∀ e,eu (C.held e) (noRaise K) f hb):fK C K f (.Try b [.ExceptHandler (some (.Name tx tpos)) n hb hpos] [] [] pos):=by
 intro φ₀ φ own σ Q X s hp w q
 obtain⟨⟨hok,hne⟩,q⟩:=q
 obtain⟨Gu,suite,rfl⟩:∃ Gu suite,hb=Gu::suite:=by
  induction hb using List.casesOn with
  | nil=>exact Bool.noConfusion hne
  | cons x y=>exact zS x y rfl
 have no:∀ {φ own h e s'} {P:Prop},EP (C.held e) f φ own h (fun _ _=>False) e s'->P:=fun x=>by obtain⟨_,_,_,_,_,_,_,_,_,_,h⟩:=x;exact h.elim
 refine wpAny_Try_except (wpAny_mono (hbody φ φ own σ _ _ s (GZ _) w q) (fun fl s1 h1=>?_) fun e s1 h1=>?_)
 .obtain⟨φ1,own1,σ1,bb,k1,w1,r1,q1⟩:=h1
  induction fl with
  | next=>exact wpAny_execs_nil ⟨φ1,own1,σ1,bb,k1,w1,r1,q1⟩
  | _=>exact⟨φ1,own1,σ1,bb,k1,w1,r1,q1⟩
 .obtain⟨φ1,own1,σ1,i,a,k1,w1,rfl,ga,-,i',c,vs,tv,e',hex,hld,hsub,q1⟩:=h1
  cases e'
  obtain⟨outer,hfs⟩:=tp.fs
  obtain⟨L,hL⟩:=tp.fr
  refine eW w1 tp.A hfs hL hex ga fun h2 own2 w2 k2 _=>?_
  refine cQ w2 hex ga fun h3 w3 k3=>?_
  have k13:=k1.trans (k2.trans k3)
  refine wpAny_handleBy_cons (codeAny_handlers_test ?_) (by intro q;exact Value.noConfusion q)
  refine wpAny_mono (ht (.ref a) φ1 φ1 own2 σ1 _ _ _ (GZ _) w3 hld) ?_ fun e s' x=>by obtain⟨_,_,_,_,_,_,_,_,_,_,h⟩:=x;exact h.elim
  rintro vt s4 ⟨φ4,own4,σ4,tv',k4,w4,rt,rfl,rfl⟩
  have ga4:=ah k4.pre ga
  have k14:=k13.trans k4
  refine tQ w4 hex ga4 rt (sb _ _ hsub) ?_
  induction n with
  | none =>
   refine codeAny_handlers_suite ?_
   refine cQ w4 hex ga4 fun h5 w5 k5=>?_
   exact wpAny_mono (hhb (.ref a) φ4 φ4 own4 σ4 _ _ _ (GZ _) w5 q1) (fun fl s' x=>QP.after (C:=C) (k14.trans k5) x.Cn) fun e s' x=>by obtain⟨_,_,_,_,_,_,_,_,_,_,h⟩:=x;exact h.elim
  | some x =>
   (refine aJ q1 fun hro hloc q4=>?_;clear q1)
   refine codeAny_handlers_suite_as ?_
   refine cQ w4 hex ga4 fun h5 w5 k5=>?_
   have rv:VR φ4 (.ref i) (.ref a):=ga4
   refine wpAny_mono (ja (C:=C.held (.ref a)) (f:=f) rv φ4 own4 σ4 (fun _ σ'=>σ'=σ4.put x (.ref i)) (fun _ _=>False) _ (GZ _) w5 ⟨hro,.inl hloc,rfl⟩) ?_ fun e s' x=>by obtain⟨_,_,_,_,_,_,_,_,_,_,h⟩:=x;exact h.elim
   rintro _ s6 ⟨φ6,own6,σ6,_,k6,w6,-,rfl⟩
   refine wpAny_mono (hhb (.ref a) φ6 φ6 own6 _ _ _ _ (GZ _) w6 q4) ?_ fun e s' x=>by obtain⟨_,_,_,_,_,_,_,_,_,_,h⟩:=x;exact h.elim
   rintro fl s7 ⟨φ7,own7,σ7,b7,k7,w7,r7,q7⟩
   refine ao (w7.fr.ns) fun ml hns hml=>?_
   have hko:f.env.kindOf x=some .local:=hloc
   refine wpAny_nameGoes_keeps hko hns (by refine rwE w7.eok.kind ?_;rfl) fun h8 v hn8 hs8=>?_
   have hcur:Cur f f.env.locals:=.inl rfl
   have k17:=k14.trans (k5.trans (k6.trans k7))
   have k8:=kW (f:=f) (φ:=φ7) (own:=own7) hs8 hcur (let ⟨o,_,_,e,_⟩:=hn8;⟨o,e⟩)
   have hfr:FR φ7 f.env (fun y=>if y=x then none else σ7.m y) h8:=by
    refine⟨⟨_,hn8,fun y hy=>?_⟩,fun y hy=>?_⟩
    .by_cases hyx:y=x
     .simp only [hyx,if_true];intro v hv;exact nS hv
     .simp only [if_neg hyx];exact hml y hy
    ·(refine fh (w7.fr.cell y hy) fun cc u hc ζ1 r=>?_;obtain⟨o,ho,hd⟩:=ζ1)
     refine jk cc u hc ⟨o,by refine (hs8.2 cc (w7.eok.cellNe y cc hc)).trans ?_;exact ho,hd⟩ ?_
     refine rwE (if_neg (by intro e;subst e;rw [hko] at hy;rcases hy with hy | hy<;>contradiction)) ?_
     exact r
   refine⟨φ7,own7,⟨σ7.H,fun y=>if y=x then none else σ7.m y⟩,b7,k17.trans k8,w7.store hs8 hcur hfr ?_ _,r7,q7⟩
   (refine eE hn8 fun o' es ep ζ2=>?_;clear hn8;refine aJ ζ2 fun ho' hd' _=>?_;clear ζ2)
   exact aW o' ho' (fun v e=>by rw [hd'] at e;exact Data.noConfusion e)
end
end Mine
namespace Mine
open PySem PyProof.Rows
noncomputable def jz (e:Expr) (acc:Value) (env:Env):Sem Unit:=
 if h:e.ctorIdx=8 then Expr.ListComp.elim (motive_1:=fun _=>Sem Unit) e h fun elt _ _ _=>do let _ <- call (.builtin "list.append") [acc,<- eval elt env]
 else if h:e.ctorIdx=10 then Expr.DictComp.elim (motive_1:=fun _=>Sem Unit) e h fun k v _ _ _=>do
   let kv <- eval k env
   let vv <- holding [kv] (eval v env)
   match acc with
   | .ref d=>do
    standAt { k.pos with endLine:=v.pos.endLine,endCol:=v.pos.endCol }
    holding [kv,vv] (dictSet d kv vv)
   | _=>unsupported "internal:dictcomp"
 else unsupported "internal:not-a-comprehension"
noncomputable def eo (e:Expr):Bool:=Nat.beq e.ctorIdx 8 || Nat.beq e.ctorIdx 10
theorem okE {e:Expr} (h:eo e=true):(∃ a b c p,e=.ListComp a b c p)\/∃ a k b c p,e=.DictComp a k b c p:=
 (Bool.or_eq_true _ _ |>.mp h).elim (fun h=>.inl (lcE (Nat.eq_of_beq_eq_true h))) fun h=>.inr (dcE (Nat.eq_of_beq_eq_true h))
noncomputable def eS (env:Env) (ifs:List Expr) (b:Bool):Sem Bool:=forIn ifs b fun c r=>if r=true then do let ok <- isTrue c env (eval c env);pure (ForInStep.yield ok) else pure (ForInStep.yield r)
theorem nh {e:Expr} (he:eo e=true) {depth:Nat} {t it:Expr} {ifs:List Expr} (hg:(clausesOf e)[depth]?=some ⟨t,it,ifs,0⟩) {I acc:Value} {env:Env} :
  compTurn e depth I acc env=(do
   standAt it.pos
   match <- pyNext I with
   | none=>pure (.done .next)
   | some v =>
    letOwnedTupleGo t I v
    assign t env v
    let ok <- eS env ifs true
    if ok then
     match (clausesOf e)[depth+1]? with
     | some g' =>
      let x <- eval g'.iter env
      standAt g'.iter.pos
      let x <- if g'.is_async != 0 then foldedIterable g'.iter x else foldedSetIterable g'.iter env x
      let _ <- runOwn (.compStart e (depth+1) (<- holding [x] (if g'.is_async != 0 then asyncIter x else pyIter x)) acc env) env
     | none=>jz e acc env
    again (.compLoop e depth I acc env)):=by
 rcases okE he with ⟨a,b,c,p,rfl⟩ | ⟨a,k,b,c,p,rfl⟩
 all_goals
  have hg:b[depth]?=some ⟨t,it,ifs,0⟩:=hg
  delta compTurn
  dsimp only
  refine rwE hg ?_
  rfl
section
variable {C:Ctx} {f:Fm} {K:Cfg} {d:Nat}
theorem jc {env:Env}:∀ ifs,eS env ifs false=pure false
 | []=>rfl
 | c::r=>by
  refine (?_:(forIn (c::r) false _:Sem Bool)=_)
  refine (List.forIn_cons ..).trans ?_
  simp only [Bool.false_eq_true,if_false]
  exact jc r
theorem tP:∀ (ifs:List Expr),(∀ x∈ifs,fL C K f x)->∀ φ₀,ae C f φ₀ (eS f.env ifs true) (eZ K ifs f.env.scope f.ro) (fun _ b v=>v=b)
 | [],_,φ₀=>ae.pure fun _ _=>rfl
 | c::r,h,φ₀=>by
  have e0:eS f.env (c::r) true=(isTrue c f.env (eval c f.env) >>= fun ok=>eS f.env r ok):=by
   refine (?_:(forIn (c::r) true _:Sem Bool)=_)
   refine (List.forIn_cons ..).trans ?_
   simp only [if_true,bind_assoc,pure_bind]
   rfl
  have e1:eZ K (c::r) f.env.scope f.ro=(awT K c (awE K c f.env.scope f.ro) f.env.scope f.ro).bind fun b=>if b then eZ K r f.env.scope f.ro else Tr.pure false:=rfl
  refine rwE e0 (rwE e1 ?_)
  refine ae.bind (h c (.head _) φ₀) fun φ v b hp e=>?_
  subst e
  induction v with
  | true=>exact tP r (fun x hx=>h x (.tail _ hx)) φ
  | false=>refine rwE (jc ..) ?_;exact ae.pure fun _ _=>rfl
noncomputable def ug (C:Ctx) (f:Fm) (φ:List Addr) (own:Addr->Option Nat) (h:Heap) (Q:Unit->Mine.St->Prop):Result->Shared->Prop:=
 fun r s'=>∃ fl,r=.ok fl/\QP (α:=Unit) C f φ own h (fun _ _ _=>True) Q () s'
theorem jw {e:Expr} (he:eo e=true) {depth:Nat} {t it:Expr} {ifs:List Expr} (hg:(clausesOf e)[depth]?=some ⟨t,it,ifs,0⟩) {I:Addr} {acc:Value} {env:Env} {M:Model} {R:Result->Shared->Prop} {s:Shared} {prog:Program} {w:World} {A:Around}
  (h:codeAny (model prog w) A (.compLoop e depth (.ref I) acc env) R s)
  (hself:∀ (Q:Value->Shared->Prop) (E:Value->Shared->Prop),Q (.ref I) s->wpAny (model prog w) A (pyIter (.ref I)) Q E s) :
  codeAny (model prog w) A (.compStart e depth (.ref I) acc env) R s:=by
 have key:∀ (B:Around),B=A->codeAny (model prog w) A (.compLoop e depth (.ref I) acc env) R s->wpAny (model prog w) B (compStart e depth (.ref I) acc env) (fun fin s'=>match fin with | .done f=>R (.ok f) s' | .again c'=>c'.quiet=true/\codeAny (model prog w) A c' R s') (notedBy (model prog w) B env fun x s'=>R (.error x) s') s:=by
  rintro B rfl h
  unfold compStart
  refine rwE hg ?_
  refine (?_:wpAny _ _ (ask >>= _) _ _ s)
  refine wpAny_bind (wpAny_askSetting (wpAny_ite ?_))
  split
  .first
    | exact wpAny_bind (wpAny_pure (wpAny_pure (And.intro rfl h)))
    | exact wpAny_pure (And.intro rfl h)
  .refine wpAny_bind (wpAny_rule ?_)
   refine (?_:wpAny _ _ (standAt it.pos >>= _) _ _ s)
   exact wpAny_bind (wpAny_standAt (wpAny_bind (hself _ _ (wpAny_pure (And.intro rfl h)))))
 rcases okE he with ⟨a,b,c,p,rfl⟩ | ⟨a,k,b,c,p,rfl⟩
 all_goals
  refine codeAny_of_tree ?_
  exact wpAny_notedAt (pos:=theWindowsPlace) (key _ rfl h)
end
end Mine
namespace Mine
open PySem PyProof.Rows
section
variable {C:Ctx} {f:Fm} {K:Cfg} {d:Nat}
noncomputable def zQ (C:Ctx) (f:Fm) (φ₀:List Addr) (t:Sem Unit) (a:Tr Unit):Prop:=∀ φ own (σ:Mine.St) Q s,φ₀ <+: φ->W C.B C.fs f φ own σ.H σ.m s->a σ Q (fun _ _=>False)->∀ E,wpAny C.M C.A t (QP (α:=Unit) C f φ own s.heap (fun _ _ _=>True) Q) E s
theorem EP.no {φ:List Addr} {own:Addr->Option Nat} {h:Heap} {e:Value} {s:Shared} {P:Prop} (x:EP C f φ own h (fun _ _=>False) e s):P:=by
 obtain⟨_,_,_,_,_,_,_,_,_,_,h⟩:=x;exact h.elim
noncomputable def gO (K:Cfg) (sc:Scope) (ro:List Str) (t:Expr) (ifs:List Expr) (inner:Tr Unit) (Fo:List O) (src:Src) (items:List Item):Tr Unit:=dj (cy K sc ro t) (eZ K ifs sc ro) inner Fo src items
inductive jN (C:Ctx) (K:Cfg) (f:Fm) (t:Expr) (ifs:List Expr) (inner:Tr Unit) (φ:List Addr) (own:Addr->Option Nat) (h:Heap) (Q:Unit->Mine.St->Prop) (items:List Item) (src:Src) (Fo:List O) (φ2:List Addr) (fp:List Addr) (St:Nat->Heap->Prop)
  (n:Nat) (s':Shared):Prop
 | mk (i:Nat) (φ':List Addr) (own':Addr->Option Nat) (σ':Mine.St) (hn:n=items.length - i+1) (hi:i<=items.length) (k:Kp f φ own h φ' own' s'.heap) (hp:φ2 <+: φ') (w:W C.B C.fs f φ' own' σ'.H σ'.m s') (no:∀ b∈fp,own' b=none) (st:St i s'.heap)
  (q:gO K f.env.scope f.ro t ifs inner Fo src (items.drop i) σ' Q (fun _ _=>False))
theorem qM {e:Expr} (he:eo e=true) {depth:Nat} {I acc:Value} {env:Env} {A:Around}:A.under (.compLoop e depth I acc env)=A:=by
 rcases okE he with ⟨a,b,c,p,rfl⟩ | ⟨a,k,b,c,p,rfl⟩<;>rfl
theorem uM {e:Expr} (he:eo e=true) {depth:Nat} {I acc:Value} {env:Env} {prog:Program} {w:World} :
  (model prog w).den (.compLoop e depth I acc env)=(compTurn e depth I acc env).onRaise (fun x=>do noteFrame x env;theTreesLotGoes x):=by
 rcases okE he with ⟨a,b,c,p,rfl⟩ | ⟨a,k,b,c,p,rfl⟩<;>rfl
noncomputable def iL (e:Expr) (depth:Nat) (acc:Value) (env:Env):Sem Unit:=match (clausesOf e)[depth+1]? with
 | some g'=>do
  let x <- eval g'.iter env
  standAt g'.iter.pos
  let x <- if g'.is_async != 0 then foldedIterable g'.iter x else foldedSetIterable g'.iter env x
  let _ <- runOwn (.compStart e (depth+1) (<- holding [x] (if g'.is_async != 0 then asyncIter x else pyIter x)) acc env) env
 | none=>jz e acc env
theorem lB {e:Expr} (he:eo e=true) {depth:Nat} {t it:Expr} {ifs:List Expr} (hg:(clausesOf e)[depth]?=some ⟨t,it,ifs,0⟩) {I acc:Value} {env:Env} :
  compTurn e depth I acc env=(do
   standAt it.pos
   match <- pyNext I with
   | none=>pure (.done .next)
   | some v =>
    letOwnedTupleGo t I v
    (assign t env v >>= fun _=>eS env ifs true >>= fun okk=>if okk=true then iL e depth acc env >>= fun _=>again (.compLoop e depth I acc env) else again (.compLoop e depth I acc env))):=by
 refine (nh he hg).trans ?_
 unfold iL
 induction (clausesOf e)[depth+1]? with
 | none=>rfl
 | some g' =>
  dsimp only
  by_cases hz:(g'.is_async != 0)=true
  .simp only [hz,if_true,bind_assoc,pure_bind]
   first | done | rfl
  .simp only [hz,if_false,bind_assoc,pure_bind,Bool.false_eq_true]
   first | done | rfl
theorem ru (ok:a9 C K d) (hok:K.ok) {e:Expr} (he:eo e=true) {acc:Value} {leaf:Tr Unit} {φ₀:List Addr} (hleaf:zQ C f φ₀ (jz e acc f.env) leaf)
  (hit:∀ g∈(clausesOf e).drop 1,cY C K f g.iter) (hifs:∀ g∈clausesOf e,∀ x∈g.ifs,fL C K f x) :
  ∀ (n depth:Nat) (t it:Expr) (ifs:List Expr),(clausesOf e)[depth]?=some ⟨t,it,ifs,0⟩->(clausesOf e).length - depth=n ->
   ∀ φ own h I fp φ2 src Fo items St Q s m,φ₀ <+: φ2->jN C K f t ifs (bu K ((clausesOf e).drop (depth+1)) f.env.scope f.ro leaf) φ own h Q items src Fo φ2 fp St m s ->
    c7 C t I fp φ2 src Fo items St->cR C.B f fp->(∀ b∈fp,h.get? b=none)->codeAny C.M C.A (.compLoop e depth (.ref I) acc f.env) (ug C f φ own h Q) s:=by
 intro n
 induction n with
 | zero =>
  intro depth t it ifs hg hn
  exact absurd (List.getElem?_eq_some_iff.mp hg).1 (Nat.not_lt.mpr (Nat.le_of_sub_eq_zero hn))
 | succ n ih =>
  intro depth t it ifs hg hn φ own h I fp φ2 src Fo items St Q s m hφ hinv i2 nb dd
  have hmem:(⟨t,it,ifs,0⟩:Comprehension)∈clausesOf e:=G0 hg
  -- the code behind the tests
  have inner:zQ C f φ₀ (iL e depth acc f.env) (bu K ((clausesOf e).drop (depth+1)) f.env.scope f.ro leaf):=by
   unfold iL
   induction hg':(clausesOf e)[depth+1]? with
   | none =>
    have:(clausesOf e).drop (depth+1)=[]:=List.drop_of_length_le (List.getElem?_eq_none_iff.mp hg')
    refine rwE this ?_
    exact hleaf
   | some g' =>
    obtain⟨t',it',ifs',a'⟩:=g'
    have hlt:depth+1 < (clausesOf e).length:=(List.getElem?_eq_some_iff.mp hg').1
    have hdr:(clausesOf e).drop (depth+1)=⟨t',it',ifs',a'⟩::(clausesOf e).drop (depth+1+1):=by
     refine (List.drop_eq_getElem_cons hlt).trans ?_
     rw [G6 hlt] at hg'
     exact rwE (Option.some.inj hg') rfl
    refine rwE hdr ?_
    intro φ own σ Q s GC w q E
    obtain⟨ha,q⟩:a'=0/\bw K it' (awE K it' f.env.scope f.ro) f.env.scope f.ro σ (fun src σ'=>∃ items,aY σ'.H src=some items /\
     gO K f.env.scope f.ro t' ifs' (bu K ((clausesOf e).drop (depth+1+1)) f.env.scope f.ro leaf) σ'.H src items σ' Q (fun _ _=>False)) (fun _ _=>False):=q
    subst ha
    have hmem':(⟨t',it',ifs',0⟩:Comprehension)∈(clausesOf e).drop 1:=by
     have:(⟨t',it',ifs',0⟩:Comprehension)∈(clausesOf e).drop (depth+1):=by refine rwE hdr ?_;exact .head _
     rw [show depth+1=1+depth from Nat.add_comm _ _,<- List.drop_drop] at this
     exact List.mem_of_mem_drop this
    have q':bw K it' (awE K it' f.env.scope f.ro) f.env.scope f.ro σ (fun src σ'=>∃ items,aY σ'.H src=some items/\K.ok /\
     gO K f.env.scope f.ro t' ifs' (bu K ((clausesOf e).drop (depth+1+1)) f.env.scope f.ro leaf) σ'.H src items σ' Q (fun _ _=>False)) (fun _ _=>False):=by
     have e:(fun (src:Src) (σ':Mine.St)=>∃ items,aY σ'.H src=some items/\K.ok /\
      gO K f.env.scope f.ro t' ifs' (bu K ((clausesOf e).drop (depth+1+1)) f.env.scope f.ro leaf) σ'.H src items σ' Q (fun _ _=>False))=(fun src σ'=>∃ items,aY σ'.H src=some items /\
      gO K f.env.scope f.ro t' ifs' (bu K ((clausesOf e).drop (depth+1+1)) f.env.scope f.ro leaf) σ'.H src items σ' Q (fun _ _=>False)):=by
      funext src σ'
      exact propext ⟨fun ⟨items,h1,h2,h4⟩=>⟨items,h1,h4⟩,fun ⟨items,h1,h4⟩=>⟨items,h1,hok,h4⟩⟩
     refine rwE e ?_;exact q
    obtain⟨h1,h2⟩:=hit _ hmem' t' φ own σ (fun src σ' items=>gO K f.env.scope f.ro t' ifs' (bu K ((clausesOf e).drop (depth+1+1)) f.env.scope f.ro leaf) σ'.H src items σ' Q (fun _ _=>False)) (fun _ _=>False) s w q'
    refine wpAny_bind (wpAny_mono h1 (fun x Fv hx=>wpAny_bind (wpAny_standAt (wpAny_bind ?_))) fun _ _ x=>EP.no x)
    dsimp only [show ((0:Int) != 0)=false from rfl,Bool.false_eq_true,if_false]
    refine wpAny_of_eq (h2 x) (wpAny_bind (wpAny_holding (wpAny_mono hx (fun itv FI hr=>?_) fun _ _ x=>EP.no x)))
    obtain⟨src,items,I,fp,St,φ',own',σ',rfl,k,w',g,i2,st,nb,no,dd⟩:=hr
    refine wpAny_bind (wpAny_runOwn ?_)
    refine jw (M:=C.M) he hg' (codeAny_mono (ih (depth+1) t' it' ifs' hg' (nsS hn) φ own s.heap I fp φ' src σ'.H items St Q _ (items.length+1) (GC.trans k.pre) ⟨0,φ',own',σ',by rfl,Nat.zero_le _,k,GZ _,w',no,st,by simpa using g⟩ i2 nb dd) fun r s' hr=>?_) fun Q E q=>i2.self 0 _ Q E st q
    (refine ao hr fun fl ζ1 hq=>?_;clear hr;obtain rfl:=ζ1)
    exact wpAny_pure hq
  refine codeAny_loop rfl (jN C K f t ifs (bu K ((clausesOf e).drop (depth+1)) f.env.scope f.ro leaf) φ own h Q items src Fo φ2 fp St) ?_ m hinv
  rintro n' s3 ⟨i,φ3,own3,σ3,rfl,hile,k3,hp3,w3,no3,st3,g3⟩
  refine rwE (qM he) (rwE (uM he) ?_)
  refine wpAny_noted ?_
  refine rwE (lB he hg) ?_
  refine wpAny_bind (wpAny_standAt (wpAny_bind ?_))
  induction hd:items[i]? with
  | none =>
   have hlen:items.length=i:=by have:=List.getElem?_eq_none_iff.mp hd;exact Eq.symm (Nat.le_antisymm hile this)
   rw [List.drop_of_length_le (l:=items) (by simp_all)] at g3
   obtain⟨hs,g3⟩:=g3
   have nx:=i2.next i f φ3 own3 σ3 s3 hp3 w3 hs no3 st3 hile
   refine nx.done hlen _ _ fun h' tk hk=>wpAny_pure ⟨_,rfl,φ3,own3,σ3,(),k3.off dd hk,w3.off nb no3 hk tk,trivial,g3⟩
  | some x =>
   have hi':i < items.length:=(List.getElem?_eq_some_iff.mp hd).1
   have hdr:items.drop i=x::items.drop (i+1):=by
    refine (List.drop_eq_getElem_cons hi').trans ?_
    rw [G6 hi'] at hd
    exact rwE (Option.some.inj hd) rfl
   rw [hdr] at g3
   obtain⟨hs,g3⟩:=g3
   have nx:=i2.next i f φ3 own3 σ3 s3 hp3 w3 hs no3 st3 hile
   refine wpAny_mono (nx.item x hd (fits_of g3) (fun v s5=>wpAny C.M C.A (assign t f.env v >>= fun _=>eS f.env ifs true >>= fun okk=>if okk=true then (iL e depth acc f.env) >>= fun _=>again (.compLoop e depth (.ref I) acc f.env) else again (.compLoop e depth (.ref I) acc f.env)) (fun fin s'=>match fin with | .done f_1=>ug C f φ own h Q (.ok f_1) s' | .again c'=>c'=.compLoop e depth (.ref I) acc f.env/\∃ m,m < items.length - i+1/\jN C K f t ifs (bu K ((clausesOf e).drop (depth+1)) f.env.scope f.ro leaf) φ own h Q items src Fo φ2 fp St m s') (notedBy C.M C.A f.env fun e s'=>ug C f φ own h Q (.error e) s') s5) (notedBy C.M C.A f.env fun e s'=>ug C f φ own h Q (.error e) s') ?_) ?_ fun _ _ x=>x
   .intro v h' tk hr st4 hk
    have w4:=w3.off nb no3 hk tk
    have k4:=k3.off dd hk
    refine wpAny_bind (wpAny_mono (kR ok hr w4 g3) ?_ fun _ _ x=>EP.no x)
    rintro u s5 ⟨φ5,own5,σ5,b5,k5,w5,-,g5⟩
    refine wpAny_bind (wpAny_mono (tP ifs (hifs _ hmem) φ5 φ5 own5 σ5 _ _ s5 (GZ _) w5 g5) ?_ fun _ _ x=>EP.no x)
    rintro bb s6 ⟨φ6,own6,σ6,b6,k6,w6,rfl,g6⟩
    have al4:=i2.alive _ _ st4
    -- the next turn
    have again_:∀ (φ7:List Addr) (own7:Addr->Option Nat) (σ7:Mine.St) (s7:Shared),Kp f φ3 own3 h' φ7 own7 s7.heap->W C.B C.fs f φ7 own7 σ7.H σ7.m s7->gO K f.env.scope f.ro t ifs (bu K ((clausesOf e).drop (depth+1)) f.env.scope f.ro leaf) Fo src (items.drop (i+1)) σ7 Q (fun _ _=>False) ->
      ∃ m,m < items.length - i+1/\jN C K f t ifs (bu K ((clausesOf e).drop (depth+1)) f.env.scope f.ro leaf) φ own h Q items src Fo φ2 fp St m s7:=by
     intro φ7 own7 σ7 s7 kk w7 g7
     refine⟨items.length - (i+1)+1,nsD hi',i+1,φ7,own7,σ7,rfl,hi',k4.trans kk,hp3.trans kk.pre,w7,fun b hb=>?_,?_,g7⟩
     .obtain⟨oo,e⟩:=al4 b hb
      refine (kk.ownOld b oo e).trans ?_;exact no3 b hb
     .exact i2.frame _ _ _ st4 fun b hb o e=>kk.ex b o e (no3 b hb) (nb.pj hb) (nb.fas b hb)
    induction bb with
    | false =>
     rw [if_neg (by decide)] at g6 ⊢
     exact wpAny_pure ⟨rfl,again_ φ6 own6 σ6 s6 (k5.trans k6) w6 g6⟩
    | true =>
     rw [if_pos rfl] at g6 ⊢
     refine wpAny_bind (wpAny_mono (inner φ6 own6 σ6 _ s6 (hφ.trans (hp3.trans (k5.pre.trans k6.pre))) w6 g6 _) ?_ fun _ _ x=>x)
     rintro _ s7 ⟨φ7,own7,σ7,_,k7,w7,-,g7⟩
     exact wpAny_pure ⟨rfl,again_ φ7 own7 σ7 s7 (k5.trans (k6.trans k7)) w7 g7⟩
   ·(intro r Fv ζ2;refine ao ζ2 fun v ζ3 hv=>?_;clear ζ2;obtain rfl:=ζ3)
    refine wpAny_bind (wpAny_mono hv (fun _ s2 x=>?_) fun _ _ x=>x)
    exact x
end
end Mine
namespace Mine
open PySem PyProof.Rows
noncomputable def bM (cells:List (Str × Addr)):List (Str × NameKind)->List (Str × Addr)->List (Str × Addr)
 | [],acc=>acc
 | (n,k)::r,acc=>if k == .free then bM cells r ((n,(cells.lookup n).getD 0)::acc) else bM cells r acc
theorem dI {env:Env} (f:Str × NameKind->List (Str × Addr)->Sem (ForInStep (List (Str × Addr))))
  (hf:∀ name kind cs,f (name,kind) cs=if kind == .free then (do let a <- cellOf env name;pure (.yield ((name,a)::cs))) else pure (.yield cs)) :
  ∀ (names:List (Str × NameKind)) (acc:List (Str × Addr)),(∀ n,(n,NameKind.free)∈names->(env.cells.lookup n).isSome=true)->forIn names acc f=(pure (bM env.cells names acc):Sem _)
 | [],acc,_=>by refine List.forIn_nil.trans ?_;rfl
 | (n,k)::r,acc,h=>by
  refine rwE (List.forIn_cons ..) (rwE (hf ..) ?_)
  unfold bM
  by_cases hk:(k == NameKind.free)=true
  .refine rwE (if_pos hk) (rwE (if_pos hk) ?_)
   have hk':k=.free:=by simpa using hk
   subst hk'
   obtain⟨c,hc⟩:=Option.isSome_iff_exists.mp (h n (.head _))
   unfold cellOf
   refine rwE hc ?_
   dsimp only [pure_bind,Option.getD_some]
   exact dI f hf r _ fun n hn=>h n (.tail _ hn)
  .refine rwE (if_neg hk) (rwE (if_neg hk) ?_)
   simp only [pure_bind]
   exact dI f hf r _ fun n hn=>h n (.tail _ hn)
theorem jY {scope:Scope} {env:Env} (h:∀ n,(n,NameKind.free)∈scope.names->(env.cells.lookup n).isSome=true):closureFor scope env=pure (bM env.cells scope.names []):=by
 unfold closureFor
 dsimp only
 refine rwE (dI (env:=env) _ (fun name kind cs=>by induction hk:kind == NameKind.free<;>rfl) scope.names [] h) ?_
 rfl
theorem dc {cells:List (Str × Addr)}:∀ (names:List (Str × NameKind)) (acc:List (Str × Addr)) (n:Str) (c:Addr),(n,c)∈bM cells names acc->(n,c)∈acc\/((n,NameKind.free)∈names/\(cells.lookup n).getD 0=c)
 | [],acc,n,c,h=>.inl h
 | (x,k)::r,acc,n,c,h=>by
  unfold bM at h
  split at h
  .rename_i hk
   have hk':k=.free:=by simpa using hk
   subst hk'
   rcases dc r _ n c h with h | ⟨h,e⟩
   .rcases List.mem_cons.mp h with e | h
    .cases e;exact .inr ⟨.head _,rfl⟩
    .exact .inl h
   .exact .inr ⟨.tail _ h,e⟩
  .rcases dc r _ n c h with h | ⟨h,e⟩
   .exact .inl h
   .exact .inr ⟨.tail _ h,e⟩
theorem fM {cells:List (Str × Addr)}:∀ (names:List (Str × NameKind)) (acc:List (Str × Addr)) (x:Str × Addr),x∈acc->x∈bM cells names acc
 | [],acc,x,h=>h
 | (y,k)::r,acc,x,h=>by
  unfold bM
  split
  .exact fM r _ x (.tail _ h)
  .exact fM r _ x h
theorem ju {cells:List (Str × Addr)}:∀ (names:List (Str × NameKind)) (acc:List (Str × Addr)) (n:Str),(n,NameKind.free)∈names->∃ c,(n,c)∈bM cells names acc
 | (y,k)::r,acc,n,h=>by
  unfold bM
  rcases List.mem_cons.mp h with e | h
  .cases e
   refine rwE (if_pos (by decide)) ?_
   exact⟨_,fM r _ _ (.head _)⟩
  .split<;>exact ju r _ n h
theorem dz {α:Type}:∀ {l:List (Str × α)} {n:Str} {c:α},(n,c)∈l->∃ d,l.lookup n=some d
 | (k,v)::r,n,c,h=>by
  refine rwE List.lookup_cons ?_
  induction hb:n == k with
  | true=>exact⟨_,rfl⟩
  | false =>
   rcases List.mem_cons.mp h with e | h
   .cases e;simp at hb
   .exact dz h
theorem jX {cells:List (Str × Addr)} {names:List (Str × NameKind)} {n:Str} {c:Addr} (h:(n,NameKind.free)∈names) (hc:cells.lookup n=some c):(bM cells names []).lookup n=some c:=by
 obtain⟨d,hd⟩:=ju (cells:=cells) names [] n h
 obtain⟨e,he⟩:=dz hd
 refine he.trans ?_
 rcases dc names [] n e (lookup_mem he) with h | ⟨_,h⟩
 .cases h
 .rw [hc] at h;refine rwS h ?_;rfl
theorem aK:∀ (names:List (Str × NameKind)) (k:Nat) (acc:List (Str × Addr)),cellsFrom k names acc=cellsFrom k names []++acc
 | [],k,acc=>rfl
 | (n,kd)::r,k,acc=>by
  unfold cellsFrom
  split
  .refine rwE (aK r (k+1) ((n,k)::acc)) (rwE (aK r (k+1) [(n,k)]) ?_);exact List.append_cons (cellsFrom (k+1) r []) (n,k) acc
  .exact aK r k acc
theorem cE:∀ (names:List (Str × NameKind)) (k:Nat) (n:Str) (c:Addr),(n,c)∈cellsFrom k names []->(n,NameKind.cell)∈names
 | (x,kd)::r,k,n,c,h=>by
  unfold cellsFrom at h
  split at h
  .rename_i hk
   have hk':kd=.cell:=by simpa using hk
   subst hk'
   rw [aK] at h
   rcases List.mem_append.mp h with h | h
   .exact .tail _ (cE r _ n c h)
   .replace h:=(List.mem_singleton).mp h;cases h;exact .head _
  .exact .tail _ (cE r _ n c h)
theorem cD:∀ (names:List (Str × NameKind)) (k:Nat) (n:Str),(n,NameKind.cell)∈names->∃ c,(n,c)∈cellsFrom k names []
 | (x,kd)::r,k,n,h=>by
  unfold cellsFrom
  rcases List.mem_cons.mp h with e | h
  .cases e
   refine rwE ((if_pos (by decide)) ..) (rwE (aK ..) ?_)
   exact⟨k,List.mem_append_right _ (.head _)⟩
  .split
   .obtain⟨c,hc⟩:=cD r (k+1) n h
    refine rwE (aK ..) ?_
    exact⟨c,List.mem_append_left _ hc⟩
   .exact cD r k n h
noncomputable def compEnv (env:Env) (scope:Scope) (L:Addr):Env:=
 { newEnv scope L env.globals (cellsFrom (L+1) scope.names (bM env.cells scope.names [])) env.qual none .none (some env) builtinsNs with scope:=relabel scope env }
noncomputable def ef (f:Fm) (scope:Scope) (L:Addr):Fm:=⟨compEnv f.env scope L,freeNames scope,f.fas⟩
theorem lZ {M:Model} {A:Around} {E:Value->Shared->Prop} {s:Shared} {scope:Scope} {env:Env} {cl:List (Str × Addr)} {Q:Env->Shared->Prop}
  (h:Q (newEnv scope s.heap.objs.size env.globals (cellsFrom (s.heap.objs.size+1) scope.names cl) env.qual none .none (some env) builtinsNs) { s with heap:=pushCells (s.heap.push { cls:=.type "dict",data:=.dict #[] }) scope.names }) :
  wpAny M A (newFunctionEnv scope env.globals cl [] env.qual none .none (some env)) Q E s:=by
 simp only [newFunctionEnv,Option.isSome_some,if_true]
 refine wpAny_bind (wpAny_alloc ?_)
 refine wpAny_bind (wpAny_layCells _ (fun name kind cells=>by induction hkc:kind == NameKind.cell<;>rfl) _ _ _ _ ?_)
 refine rwE (show ({ s with heap:=s.heap.push { cls:=.type "dict",data:=.dict #[] } }:Shared).heap.objs.size=s.heap.objs.size+1 from Heap.size_push ..) ?_
 exact wpAny_pure h
theorem iA {o i:Scope} (h:cH o i=true):i.kind=.function:=by
 unfold cH at h
 simp only [Bool.and_eq_true,beq_iff_eq] at h
 exact h.1.1.1
theorem cT {o i:Scope} (h:cH o i=true) {x:Str} {k:NameKind} (hx:(x,k)∈i.names):i.names.lookup x=some k:=by
 unfold cH at h
 simp only [Bool.and_eq_true,beq_iff_eq,List.all_eq_true] at h
 exact h.1.1.2 _ hx
theorem iz {o i:Scope} (h:cH o i=true) {x:Str} (hx:x∈freeNames i):o.names.lookup x=some .cell\/o.names.lookup x=some .free:=by
 unfold cH at h
 simp only [Bool.and_eq_true,beq_iff_eq,List.all_eq_true,Bool.or_eq_true] at h
 exact h.1.2 _ hx
theorem rq {o i:Scope} (h:cH o i=true) {x:Str} {k:NameKind} (hx:(x,k)∈i.names):fE x=true:=by
 unfold cH at h
 simp only [Bool.and_eq_true,List.all_eq_true] at h
 exact h.2 _ hx
noncomputable def b9 (f:Fm):Prop:=∀ x k,f.env.scope.names.lookup x=some k->fE x=true
theorem cF {i:Scope} {x:Str}:x∈freeNames i↔(x,NameKind.free)∈i.names:=by
 unfold freeNames
 simp only [List.mem_map,List.mem_filter,beq_iff_eq]
 constructor
 ·(intro ζ1;refine ao ζ1 fun ζ2 ζ3 ζ4=>?_;clear ζ1;obtain⟨a,b⟩:=ζ2;obtain⟨h1,h2⟩:=ζ3;obtain rfl:=ζ4);dsimp only at h2;subst h2;exact h1
 .intro h;exact aW (x,.free) ⟨h,rfl⟩ rfl
theorem bj {env:Env}:∀ {names:List (Str × NameKind)} {x:Str} {k:NameKind},
  (names.map fun (n,k)=>if (k == NameKind.free && env.scope.kind == .function && env.kindOf n == some .cell) then (n,NameKind.cell) else (n,k)).lookup x=some k ->
  ∃ FU,names.lookup x=some FU/\(FU=k\/(FU=.free/\k=.cell))
 | [],_,_,h=>by exact nS h
 | (n,kd)::r,x,k,h=>by
  have h:List.lookup x ((if (kd == NameKind.free && env.scope.kind == .function && env.kindOf n == some .cell)=true then (n,NameKind.cell) else (n,kd))::(r.map fun (n,k)=>if (k == NameKind.free && env.scope.kind == .function && env.kindOf n == some .cell) then (n,NameKind.cell) else (n,k)))=some k:=h
  refine rwE List.lookup_cons ?_
  induction hx:x == n with
  | true =>
   refine aW kd rfl ?_
   by_cases hc:(kd == NameKind.free && env.scope.kind == .function && env.kindOf n == some .cell)=true
   .rw [if_pos hc] at h
    simp only [List.lookup_cons,hx] at h
    cases h
    simp only [Bool.and_eq_true,beq_iff_eq] at hc
    exact .inr ⟨hc.1.1,rfl⟩
   .rw [if_neg hc] at h
    simp only [List.lookup_cons,hx] at h
    cases h;exact .inl rfl
  | false =>
   by_cases hc:(kd == NameKind.free && env.scope.kind == .function && env.kindOf n == some .cell)=true
   .rw [if_pos hc] at h
    simp only [List.lookup_cons,hx] at h
    exact bj h
   .rw [if_neg hc] at h
    simp only [List.lookup_cons,hx] at h
    exact bj h
theorem iP {f:Fm} {scope:Scope} {L:Addr} (h:cH f.env.scope scope=true):b9 (ef f scope L):=by
 intro x k hx
 have hx:(relabel scope f.env).names.lookup x=some k:=hx
 refine ao (bj hx) fun FU e _=>?_
 exact rq h (lookup_mem e)
end Mine
namespace Mine
open PySem PyProof.Rows
noncomputable def nE (h:Heap) (fp:List Addr):Heap:=⟨h.objs.mapIdx fun i o=>if i∈fp then { o with data:=.freed } else o,h.life⟩
theorem ic (h:Heap) (fp:List Addr) (b:Addr):(nE h fp).get? b=if b∈fp then none else h.get? b:=by
 unfold Heap.get? nE
 simp only [Array.getElem?_mapIdx]
 induction hq:h.objs[b]? with
 | none=>simp
 | some o =>
  by_cases hb:b∈fp
  .simp [hb]
  .simp [hb]
section
variable {C:Ctx} {f:Fm}
theorem jv {φ:List Addr} {own:Addr->Option Nat} {H:List O} {m:Str->Option V} {s:Shared} (w:W C.B C.fs f φ own H m s) {scope:Scope} (hc:cH f.env.scope scope=true) :
  closureFor scope f.env=pure (bM f.env.cells scope.names []) /\
  W C.B C.fs (ef f scope s.heap.objs.size) φ own H (aS scope m) { s with heap:=pushCells (s.heap.push { cls:=.type "dict",data:=.dict #[] }) scope.names } /\
  (∀ b o,s.heap.get? b=some o->(pushCells (s.heap.push { cls:=.type "dict",data:=.dict #[] }) scope.names).get? b=some o) /\
  (∀ {fp φ0 own0 h0 φ2 own2 H2 m2 s2},cR C.B f fp->s.heap.objs.size∉fp->Kp f φ0 own0 h0 φ own s.heap->(∀ b∈fp,h0.get? b=none) ->
   Kp (ef f scope s.heap.objs.size) φ own (nE (pushCells (s.heap.push { cls:=.type "dict",data:=.dict #[] }) scope.names) fp) φ2 own2 s2.heap->W C.B C.fs (ef f scope s.heap.objs.size) φ2 own2 H2 m2 s2 ->
   Kp f φ0 own0 h0 φ2 own2 s2.heap/\W C.B C.fs f φ2 own2 H2 m s2/\(∃ ml,s2.heap.Ns s.heap.objs.size ml)/\own2 s.heap.objs.size=none)/\cR C.B f [s.heap.objs.size]:=by
 have hk1:∀ b o,s.heap.get? b=some o->(pushCells (s.heap.push { cls:=.type "dict",data:=.dict #[] }) scope.names).get? b=some o:=fun b o e=>pushCells_keeps _ _ b o (Heap.get?_push_of_some _ e)
 have ok:=cellsFrom_ok scope.names (s.heap.push { cls:=.type "dict",data:=.dict #[] }) (s.heap.objs.size+1) [] ⟨fun _ _ hm=>(nomatch hm),List.Pairwise.nil⟩ (by refine rwE (Heap.size_push ..) ?_;exact Nat.le_refl _)
 rw [Heap.size_push] at ok
 have hns:(pushCells (s.heap.push { cls:=.type "dict",data:=.dict #[] }) scope.names).Ns s.heap.objs.size (fun _=>none):=(Heap.Ns.new s.heap (.type "dict")).keeps (pushCells_keeps _ _)
 have oldc:∀ n,(n,NameKind.free)∈scope.names->∃ c v,f.env.cells.lookup n=some c/\s.heap.IsCell c v/\VRp φ (m n) v:=fun n hn=>w.fr.cell n (iz hc (cF.mpr hn))
 have hclos:closureFor scope f.env=pure (bM f.env.cells scope.names []):=jY fun n hn=>by refine bq (oldc n hn) fun c v e _=>?_;refine rwE e ?_;rfl
 have hlk:∀ n c,(compEnv f.env scope s.heap.objs.size).cells.lookup n=some c->((n,c)∈cellsFrom (s.heap.objs.size+1) scope.names []/\(n,NameKind.cell)∈scope.names)\/(f.env.cells.lookup n=some c/\(n,NameKind.free)∈scope.names):=by
  intro n c h
  have h:(cellsFrom (s.heap.objs.size+1) scope.names (bM f.env.cells scope.names [])).lookup n=some c:=h
  rw [aK,List.lookup_append] at h
  induction hq:(cellsFrom (s.heap.objs.size+1) scope.names []).lookup n with
  | some d =>
   rw [hq] at h
   have:d=c:=by simpa using h
   subst this
   exact .inl ⟨lookup_mem hq,cE _ _ _ _ (lookup_mem hq)⟩
  | none =>
   rw [hq] at h
   have h:(bM f.env.cells scope.names []).lookup n=some c:=by simpa using h
   rcases dc _ _ _ _ (lookup_mem h) with e | ⟨e,e2⟩
   .cases e
   .refine bq (oldc n e) fun c' v e3 _=>?_
    rw [e3] at e2
    have:c'=c:=e2
    subst this
    exact .inr ⟨e3,e⟩
 have hfresh:∀ b,s.heap.objs.size<=b->own b=none:=fun b hb'=>by
  induction h:own b with
  | none=>rfl
  | some j=>obtain⟨o,e⟩:=(w.ownNew _ _ h).2.1;exact absurd (Heap.lt_size e) (Nat.not_lt.mpr hb')
 have hbase:∀ b,s.heap.objs.size<=b->C.B.Fw.get? b=none:=fun b hb'=>by
  induction h:C.B.Fw.get? b with
  | none=>rfl
  | some o=>exact absurd (Heap.lt_size (w.stays b o h)) (Nat.not_lt.mpr hb')
 have hoc:∀ n c,f.env.cells.lookup n=some c->c < s.heap.objs.size:=fun n c h=>by obtain⟨_,o,e⟩:=w.ownCell n c h;exact Heap.lt_size e
 have hnc:∀ n c,(n,c)∈cellsFrom (s.heap.objs.size+1) scope.names []->s.heap.objs.size < c:=fun n c h=>(ok.empty n c h).2
 have hw1:W C.B C.fs (ef f scope s.heap.objs.size) φ own H (aS scope m) { s with heap:=pushCells (s.heap.push { cls:=.type "dict",data:=.dict #[] }) scope.names }:=by
  refine⟨⟨(show scope.kind=.function from iA hc),w.eok.globals,w.eok.builtins,w.eok.frame,fun x y c h1 h2=>?_,fun x c h=>?_,hbase _ (Nat.le_refl _),fun x c h=>?_,w.eok.code⟩,w.len,fun i o a e1 e2=>(w.obj i o a e1 e2).keep (GZ _) (fun _ h=>h) (fun c ob _ e=>hk1 c ob e),fun b o e=>hk1 b o (w.stays b o e),
   fun b i h=>⟨(w.ownNew b i h).1,let ⟨o,e⟩:=(w.ownNew b i h).2.1;⟨o,hk1 b o e⟩,(w.ownNew b i h).2.2⟩,w.ownFr,hfresh _ (Nat.le_refl _),fun x c h=>?_,w.frames.of_keeps fun b o e _=>⟨o,hk1 b o e,rfl⟩,⟨⟨_,hns,fun x hx=>?_⟩,fun x hx=>?_⟩,w.gens,w.os,w.fas⟩
  .rcases hlk x c h1 with ⟨m1,_⟩ | ⟨m1,_⟩<;>rcases hlk y c h2 with ⟨m2,_⟩ | ⟨m2,_⟩
   .exact name_of_addr ok.apart m1 m2
   .exact absurd (hoc _ _ m2) (Nat.not_lt.mpr (G5 (hnc _ _ m1)))
   .exact absurd (hoc _ _ m1) (Nat.not_lt.mpr (G5 (hnc _ _ m2)))
   .exact w.eok.apart x y c m1 m2
  .refine (?_:c≠s.heap.objs.size)
   rcases hlk x c h with ⟨m1,_⟩ | ⟨m1,_⟩
   .exact Nat.ne_of_gt (hnc _ _ m1)
   .exact Nat.ne_of_lt (hoc _ _ m1)
  .rcases hlk x c h with ⟨m1,_⟩ | ⟨m1,_⟩
   .exact hbase _ (G5 (hnc _ _ m1))
   .exact w.eok.cellNew x c m1
  .rcases hlk x c h with ⟨m1,_⟩ | ⟨m1,_⟩
   .refine ao ((ok.empty x c m1).1) fun o e _=>?_
    exact⟨hfresh _ (G5 (hnc _ _ m1)),o,e⟩
   .obtain⟨w1,o,e⟩:=w.ownCell x c m1
    exact⟨w1,o,hk1 c o e⟩
  .have hx:(relabel scope f.env).names.lookup x=some .local:=hx
   refine ao (bj hx) fun FU e1 e2=>?_
   have e3:FU=.local:=by
    rcases e2 with e | ⟨_,e⟩
    .exact e
    .exact NameKind.noConfusion e
   have:x∉freeNames scope:=fun hf=>by
    have:=cT hc (cF.mp hf)
    rw [e1,e3] at this;contradiction
   unfold aS
   refine rwE (if_neg this) ?_
   intro v hv;exact nS hv
  .by_cases hf:x∈freeNames scope
   ·(refine fh (oldc x (cF.mp hf)) fun c v e ζ3 r=>?_;obtain⟨o,g,hd⟩:=ζ3)
    refine jk c v ?_ ⟨o,hk1 c o g,hd⟩ ?_
    .refine (?_:(cellsFrom (s.heap.objs.size+1) scope.names (bM f.env.cells scope.names [])).lookup x=some c)
     refine rwE (aK ..) (rwE (List.lookup_append ..) ?_)
     have hno:(cellsFrom (s.heap.objs.size+1) scope.names []).lookup x=none:=by
      induction hq:(cellsFrom (s.heap.objs.size+1) scope.names []).lookup x with
      | none=>rfl
      | some d =>
       have h1:=cT hc (cE _ _ _ _ (lookup_mem hq))
       have h2:=cT hc (cF.mp hf)
       rw [h1] at h2;contradiction
     refine rwE hno (rwE (jX (cF.mp hf) e) ?_)
     rfl
    .unfold aS;refine rwE (if_pos hf) ?_;exact r
   .have hx':(relabel scope f.env).names.lookup x=some .cell\/(relabel scope f.env).names.lookup x=some .free:=hx
    have hcell:scope.names.lookup x=some .cell:=by
     rcases hx' with h | h
     ·(refine ao (bj h) fun FU e1 ζ4=>?_;obtain e2 | ⟨e2,_⟩:=ζ4)
      .exact rwE e1 (rwE e2 rfl)
      .subst e2;exact absurd (cF.mpr (lookup_mem e1)) hf
     ·(refine ao (bj h) fun FU e1 ζ5=>?_;obtain e2 | ⟨e2,e3⟩:=ζ5)
      .subst e2;exact absurd (cF.mpr (lookup_mem e1)) hf
      .exact NameKind.noConfusion e3
    obtain⟨c,hc1⟩:=cD scope.names (s.heap.objs.size+1) x (lookup_mem hcell)
    obtain⟨d,hd⟩:=dz hc1
    refine jk d none ?_ ((ok.empty x d (lookup_mem hd)).1) ?_
    .refine (?_:(cellsFrom (s.heap.objs.size+1) scope.names (bM f.env.cells scope.names [])).lookup x=some d)
     refine rwE (aK ..) (rwE (List.lookup_append ..) (rwE (hd ..) ?_))
     rfl
    .unfold aS;refine rwE (if_neg hf) ?_;intro v hv;exact nS hv
 refine CS hclos hw1 hk1 ?_ ((w.ph (fp:=[s.heap.objs.size]) fun b hb=>by rw [List.mem_singleton] at hb;refine rwE hb ?_;exact Nat.le_refl _).1)
 intro fp φ0 own0 h0 φ2 own2 H2 m2 s2 nb hLfp k0 hdead k2 w2
 have hM:∀ b o,b∉fp->s.heap.get? b=some o->(nE (pushCells (s.heap.push { cls:=.type "dict",data:=.dict #[] }) scope.names) fp).get? b=some o:=fun b o hb e=>by
  rw [ic,if_neg hb];exact hk1 b o e
 have hcurN:∀ b o,s.heap.get? b=some o->¬ Cur (ef f scope s.heap.objs.size) b:=by
  intro b o e hcur
  have hb:=Heap.lt_size e
  rcases hcur with h | ⟨n,hn,h,_⟩
  .have h:b=s.heap.objs.size:=h
   rw [h] at hb;exact Nat.lt_irrefl _ hb
  .rcases hlk n b h with ⟨m1,_⟩ | ⟨_,m1⟩
   .exact absurd hb (Nat.not_lt.mpr (G5 (hnc _ _ m1)))
   .exact hn (cF.mpr m1)
 have keep:∀ b o,b∉fp->s.heap.get? b=some o->own b=none->∃ sl,s2.heap.get? b=some { o with slots:=sl }:=fun b o hb e ho=>k2.keep b o (hM b o hb e) ho (hcurN b o e)
 have old:∀ b o,b∉fp->s.heap.get? b=some o->own2 b=own b:=fun b o hb e=>k2.ownOld b o (hM b o hb e)
 have nfp:∀ b o,h0.get? b=some o->b∉fp:=fun b o e hb=>by rw [hdead b hb] at e;exact nS e
 have hloc:f.env.locals∉fp:=fun h=>nb.loc _ h rfl
 have hcell:∀ y c,f.env.cells.lookup y=some c->c∉fp:=fun y c hc h=>nb.cell c h y c hc rfl
 (refine ao (w.fr.ns) fun ml ζ6 _=>?_;obtain⟨oL,_,_,hLe,_⟩:=ζ6)
 refine⟨⟨k0.pre.trans k2.pre,fun b o e=>?_,fun b o e=>?_,fun b o e ho hcur=>?_,fun b o e ho hcur hn=>?_⟩,
  ⟨w.eok,w2.len,w2.obj,w2.stays,w2.ownNew,w2.ownFr,(old _ oL hloc hLe).trans w.ownLoc,fun y c hc=>?_,w2.frames,?_,w2.gens,w2.os,w.fas⟩,?_,?_⟩
 .obtain⟨o',e'⟩:=k0.alive b o e
  exact (old b o' (nfp b o e) e').trans (k0.ownOld b o e)
 .obtain⟨o',e'⟩:=k0.alive b o e
  exact k2.alive b o' (hM b o' (nfp b o e) e')
 .obtain⟨sl,e'⟩:=k0.keep b o e ho hcur
  obtain⟨sl2,e2⟩:=keep b _ (nfp b o e) e' ((k0.ownOld b o e).trans ho)
  exact⟨sl2,e2⟩
 .have e':=k0.ex b o e ho hcur hn
  exact k2.ex b o (hM b o (nfp b o e) e') ((k0.ownOld b o e).trans ho) (hcurN b o e') hn
 .obtain⟨w1',o,e⟩:=w.ownCell y c hc
  exact⟨(old c o (hcell y c hc) e).trans w1',k2.alive c o (hM c o (hcell y c hc) e)⟩
 .exact w.fr.keep k2.pre (fun o e=>keep _ o hloc e w.ownLoc) fun y c o hc e=>keep c o (hcell y c hc) e (w.ownCell y c hc).1
 .refine ao (w2.fr.ns) fun ml2 hn2 _=>?_
  exact⟨ml2,hn2⟩
 ·(refine eE hns fun o _ _ ζ8=>?_;clear hns;obtain⟨e,_⟩:=ζ8)
  rw [k2.ownOld _ o (by rw [ic,if_neg hLfp];exact e)];exact hfresh _ (Nat.le_refl _)
end
end Mine
namespace Mine
open PySem PyProof.Rows
section
variable {C:Ctx} {f:Fm} {K:Cfg} {d:Nat}
theorem c7.weaken {t:Expr} {I:Addr} {fp φ₀ FT:List Addr} {src:Src} {Fo:List O} {items:List Item} {St:Nat->Heap->Prop} (i:c7 C t I fp φ₀ src Fo items St) (hp:φ₀ <+: FT):c7 C t I fp FT src Fo items St:=
 ⟨i.frame,i.alive,fun k f φ own σ s h w=>i.next k f φ own σ s (hp.trans h) w,i.self⟩
theorem iR {L:Addr} {h h':Heap} (hs:Heap.SameBut L h h'):Off [L] h h':=fun b o hb e=>(hs.2 b fun q=>hb (by refine rwE q ?_;exact .head _)).trans e
theorem jx (ok:a9 C K d) (hok:K.ok) {e:Expr} (he:eo e=true) {t it:Expr} {ifs:List Expr} {gs:List Comprehension} (hcl:clausesOf e=⟨t,it,ifs,0⟩::gs) {scope:Scope} {pos:Pos} {newAcc:Sem Value} {oacc:O} (hcomp:cH f.env.scope scope=true)
  (hacc:∀ φ own (σ:Mine.St) s,W C.B C.fs f φ own σ.H σ.m s->∀ E,wpAny C.M C.A newAcc (QP C f φ own s.heap VR (fun v σ'=>v=.ref σ.H.length/\σ'=⟨σ.H++[oacc],σ.m⟩)) E s)
  {leaf:Nat->Scope->List Str->Tr Unit} (hleaf:∀ (f':Fm) (φ:List Addr) (i:Nat) (a:Addr),b9 f'->f'.env.scope=az f.env.scope scope->f'.ro=freeNames scope->φ[i]?=some a->zQ C f' φ (jz e (.ref a) f'.env) (leaf i f'.env.scope f'.ro))
  (hit0:cY C K f it) (hit:∀ f':Fm,b9 f'->∀ g∈gs,cY C K f' g.iter) (hifs:∀ f':Fm,b9 f'->∀ g∈clausesOf e,∀ x∈g.ifs,fL C K f' x)
  {φ:List Addr} {own:Addr->Option Nat} {σ:Mine.St} {Q:V->Mine.St->Prop} {X:V->Mine.St->Prop} {s:Shared} (w:W C.B C.fs f φ own σ.H σ.m s)
  (q:bw K it (awE K it f.env.scope f.ro) f.env.scope f.ro σ (fun src σ'=>∃ items,aY σ'.H src=some items /\
   gO K (az f.env.scope scope) (freeNames scope) t ifs (bu K gs (az f.env.scope scope) (freeNames scope) (leaf σ'.H.length (az f.env.scope scope) (freeNames scope))) σ'.H src items ⟨σ'.H++[oacc],aS scope σ'.m⟩
    (fun _ FQ=>Q (.ref σ'.H.length) ⟨FQ.H,σ'.m⟩) (fun _ _=>False)) X)
  {use:Option (Value->Sem Unit)} {R:Value->Shared->Prop} {E:Value->Shared->Prop}
  (hE:∀ e s',EP C f φ own s.heap X e s'->E e s')
  (hR:∀ (a L:Addr) (s':Shared) (φ':List Addr) (own':Addr->Option Nat) (σ':Mine.St) (v:V),Kp f φ own s.heap φ' own' s'.heap->W C.B C.fs f φ' own' σ'.H σ'.m s'->VR φ' v (.ref a)->Q v σ'->cR C.B f [L]->own' L=none->s.heap.get? L=none->(∃ ml,s'.heap.Ns L ml) ->
   compPost C.M C.A E use R (.ref a) L (.ok .next) s') :
  wpAny C.M C.A (comprehension e scope f.env pos newAcc false (eval it f.env) use) R E s:=by
 have q':bw K it (awE K it f.env.scope f.ro) f.env.scope f.ro σ (fun src σ'=>∃ items,aY σ'.H src=some items/\K.ok /\
   gO K (az f.env.scope scope) (freeNames scope) t ifs (bu K gs (az f.env.scope scope) (freeNames scope) (leaf σ'.H.length (az f.env.scope scope) (freeNames scope))) σ'.H src items ⟨σ'.H++[oacc],aS scope σ'.m⟩
    (fun _ FQ=>Q (.ref σ'.H.length) ⟨FQ.H,σ'.m⟩) (fun _ _=>False)) X:=by
  have e2:(fun (src:Src) (σ':Mine.St)=>∃ items,aY σ'.H src=some items/\K.ok /\
   gO K (az f.env.scope scope) (freeNames scope) t ifs (bu K gs (az f.env.scope scope) (freeNames scope) (leaf σ'.H.length (az f.env.scope scope) (freeNames scope))) σ'.H src items ⟨σ'.H++[oacc],aS scope σ'.m⟩
    (fun _ FQ=>Q (.ref σ'.H.length) ⟨FQ.H,σ'.m⟩) (fun _ _=>False))=(fun (src:Src) (σ':Mine.St)=>∃ items,aY σ'.H src=some items /\
   gO K (az f.env.scope scope) (freeNames scope) t ifs (bu K gs (az f.env.scope scope) (freeNames scope) (leaf σ'.H.length (az f.env.scope scope) (freeNames scope))) σ'.H src items ⟨σ'.H++[oacc],aS scope σ'.m⟩
    (fun _ FQ=>Q (.ref σ'.H.length) ⟨FQ.H,σ'.m⟩) (fun _ _=>False)):=by
   funext src σ'
   exact propext ⟨fun ⟨items,h1,h2,h4⟩=>⟨items,h1,h4⟩,fun ⟨items,h1,h4⟩=>⟨items,h1,hok,h4⟩⟩
  refine rwE e2 ?_;exact q
 obtain⟨h1,h2⟩:=hit0 t φ own σ (fun src σ' items=>gO K (az f.env.scope scope) (freeNames scope) t ifs (bu K gs (az f.env.scope scope) (freeNames scope) (leaf σ'.H.length (az f.env.scope scope) (freeNames scope))) σ'.H src items ⟨σ'.H++[oacc],aS scope σ'.m⟩
    (fun _ FQ=>Q (.ref σ'.H.length) ⟨FQ.H,σ'.m⟩) (fun _ _=>False)) X s w q'
 refine wpAny_comprehension_free (g:=⟨t,it,ifs,0⟩) (gs:=gs) hcl h2 (jv w hcomp).1 (iA hcomp) (fun x hx hl=>cT hcomp (k:=.local) (by refine rwS hl ?_;exact hx)) ?_
 refine wpAny_mono h1 (fun x Fv hx=>wpAny_mono hx (fun itv FI hr=>?_) fun e s' x=>hE e s' x) fun e s' x=>hE e s' x
 obtain⟨src,items,I,fp,St,φ2,own2,σ2,rfl,k2,w2,g2,i2,st2,nb,no2,dd⟩:=hr
 refine wpAny_mono (hacc φ2 own2 σ2 FI w2 _) (fun acc FG h3=>?_) fun _ _ x=>x
 obtain⟨φ3,own3,σ3,b3,k3,w3,r3,rfl,rfl⟩:=h3
 obtain⟨a,rfl,ga⟩:∃ a,acc=.ref a/\φ3[σ2.H.length]?=some a:=by
  induction acc<;>first | exact r3.elim | exact aW _ rfl r3
 have k23:=k2.trans k3
 -- the iterator stands as it stood
 have al2:=i2.alive _ _ st2
 have st3:St 0 FG.heap:=i2.frame _ _ _ st2 fun b hb o e=>k3.ex b o e (no2 b hb) (nb.pj hb) (nb.fas b hb)
 have no3:∀ b∈fp,own3 b=none:=fun b hb=>by
  obtain⟨oo,e⟩:=al2 b hb
  refine (k3.ownOld b oo e).trans ?_;exact no2 b hb
 -- the frame of the comprehension
 obtain⟨-,w4,hk1,back,nbL⟩:=jv w3 hcomp
 refine lZ ?_
 have st4:St 0 (pushCells (FG.heap.push { cls:=.type "dict",data:=.dict #[] }) scope.names):=i2.frame _ _ _ st3 fun b hb o e=>hk1 b o e
 have al3:=i2.alive _ _ st3
 have nb4:cR C.B (ef f scope FG.heap.objs.size) fp:=by
  refine⟨nb.base,nb.fas,fun b hb e=>?_,fun b hb x c hc e=>?_⟩
  .obtain⟨oo,e2⟩:=al3 b hb
   have e:b=FG.heap.objs.size:=e
   rw [e] at e2
   exact Nat.lt_irrefl _ (Heap.lt_size e2)
  .subst e
   obtain⟨oo,e2⟩:=al3 c hb
   have hc:(cellsFrom (FG.heap.objs.size+1) scope.names (bM f.env.cells scope.names [])).lookup x=some c:=hc
   rw [aK] at hc
   rcases List.mem_append.mp (lookup_mem hc) with h | h
   .have ok:=cellsFrom_ok scope.names (FG.heap.push { cls:=.type "dict",data:=.dict #[] }) (FG.heap.objs.size+1) [] ⟨fun _ _ hm=>(nomatch hm),List.Pairwise.nil⟩ (by refine rwE (Heap.size_push ..) ?_;exact Nat.le_refl _)
    rw [Heap.size_push] at ok
    exact absurd (Heap.lt_size e2) (Nat.not_lt.mpr (G5 (ok.empty x c h).2))
   .rcases dc _ _ _ _ h with e | ⟨e,e3⟩
    .cases e
    .refine bq (w3.fr.cell x (iz hcomp (cF.mpr e))) fun c' v e4 _=>?_
     rw [e4] at e3
     have:c'=c:=e3
     subst this
     exact nb.cell c' hb x c' e4 rfl
 have hg:(clausesOf e)[0]?=some ⟨t,it,ifs,0⟩:=by refine rwE hcl ?_;rfl
 have hdr:(clausesOf e).drop (0+1)=gs:=by refine rwE hcl ?_;rfl
 have hLfp:FG.heap.objs.size∉fp:=fun h=>nb4.loc _ h rfl
 have hstart:Kp (ef f scope FG.heap.objs.size) φ3 own3 (nE (pushCells (FG.heap.push { cls:=.type "dict",data:=.dict #[] }) scope.names) fp) φ3 own3 (pushCells (FG.heap.push { cls:=.type "dict",data:=.dict #[] }) scope.names):=by
  have hm:∀ b o,(nE (pushCells (FG.heap.push { cls:=.type "dict",data:=.dict #[] }) scope.names) fp).get? b=some o->(pushCells (FG.heap.push { cls:=.type "dict",data:=.dict #[] }) scope.names).get? b=some o:=by
   intro b o e
   rw [ic] at e
   split at e
   .exact nS e
   .exact e
  exact⟨GZ _,fun _ _ _=>rfl,fun b o e=>⟨o,hm b o e⟩,fun b o e _ _=>⟨o.slots,hm b o e⟩,fun b o e _ _ _=>hm b o e⟩
 have hrun:=ru (f:=ef f scope FG.heap.objs.size) ok hok he (acc:=.ref a) (φ₀:=φ3) (leaf:=leaf σ2.H.length (az f.env.scope scope) (freeNames scope))
  (hleaf (ef f scope FG.heap.objs.size) φ3 σ2.H.length a (iP hcomp) rfl rfl ga) (fun g hg'=>hit _ (iP hcomp) g (by rw [hcl] at hg';exact hg')) (hifs _ (iP hcomp))
  ((clausesOf e).length - 0) 0 t it ifs hg rfl φ3 own3 (nE (pushCells (FG.heap.push { cls:=.type "dict",data:=.dict #[] }) scope.names) fp) I fp φ3 src σ2.H items St
  (fun _ FQ=>Q (.ref σ2.H.length) ⟨FQ.H,σ2.m⟩) { FG with heap:=pushCells (FG.heap.push { cls:=.type "dict",data:=.dict #[] }) scope.names } (items.length+1) (GZ _)
  ⟨0,φ3,own3,⟨σ2.H++[oacc],aS scope σ2.m⟩,by rfl,Nat.zero_le _,hstart,GZ _,w4,no3,st4,by refine rwE hdr ?_;exact g2⟩ (i2.weaken k3.pre) nb4 (fun b hb=>by exact (ic ..).trans ((if_pos hb) ..))
 refine jw (M:=C.M) he hg (codeAny_mono hrun fun r s' hr=>?_) fun Q E q=>i2.self 0 _ Q E st4 q
 obtain⟨fl,rfl,φ5,own5,σ5,_,k5,w5,-,q5⟩:=hr
 refine ek (back nb hLfp k23 dd k5 w5) fun kk ww hns hoL=>?_
 have hdeadL:s.heap.get? FG.heap.objs.size=none:=by
  induction hq:s.heap.get? FG.heap.objs.size with
  | none=>rfl
  | some o=>obtain⟨o',e'⟩:=k23.alive _ o hq;exact absurd (Heap.lt_size e') (Nat.lt_irrefl _)
 have:=hR a FG.heap.objs.size s' φ5 own5 ⟨σ5.H,σ2.m⟩ (.ref σ2.H.length) kk ww (ah k5.pre ga) q5 nbL hoL hdeadL hns
 induction use<;>exact this
end
end Mine
namespace Mine
open PySem PyProof.Rows
section
variable {C:Ctx} {f:Fm} {K:Cfg} {d:Nat}
theorem wH {φ₀:List Addr} {i:Nat} {a:Addr} {v:V} {y:Value} (ra:φ₀[i]?=some a) (ry:VR φ₀ v y):ae C f φ₀ (call (.builtin "list.append") [.ref a,y]) (Tr.lift (ql i v)) (fun _ _ _=>True):=by
 refine ae.of fun φ own H m Q X s hp w q=>?_
 refine d8 q fun xs ho hz q=>?_
 (refine ao (w.look ho) fun al g ζ1=>?_;refine aJ ζ1 fun o1 hz0 ζ2=>?_;clear ζ1;refine bq ζ2 fun its ep g1 r1=>?_;clear ζ2)
 rw [ah hp ra] at g;cases g
 have ga:=ah hp ra
 have hlt:i < H.length:=(List.getElem?_eq_some_iff.mp ho).1
 have hsz:=r1.size
 have hsl:its.size<=sizeLine:=by refine rwE hsz ?_;exact GS (G5 hz) cG
 have hT:s.TypeIs (.ref a) "list" := ⟨_,g1,rfl⟩
 refine call_meets PySem.F.slot_list_append hT PySem.F.entry_list_append (PySem.F.args_list_append_2 _ _) (AutoListH.list_append_list_val_0 a its ep y hsl) ⟨g1,?_⟩
 exact QP.eV w (b:=()) (o':=.list (xs++[v])) hlt ga o1 (Heap.SameBut.update ..) ⟨o1,by refine rwE GY ?_;exact hz,_,_,Heap.get?_update_self _ g1 rfl,by refine rwE Array.toList_push ?_;exact r1.append ⟨ry.mono hp,trivial⟩⟩ trivial q _ ⟨_,Heap.get?_update_self _ (by assumption) rfl⟩
theorem zF {φ₀:List Addr} {i:Nat} {a:Addr} {k v:V} {x y:Value} (ra:φ₀[i]?=some a) (rk:VR φ₀ k x) (ry:VR φ₀ v y):ae C f φ₀ (dictSet a x y) (Tr.lift (zY i k v)) (fun _ _ _=>True):=by
 refine ae.of fun φ own H m Q X s hp w q=>?_
 (refine eE q fun es n j ζ3=>?_;clear q;refine aJ ζ3 fun ho ζ4 ζ5=>?_;clear ζ3;obtain rfl:=ζ4;obtain⟨hz,q⟩:=ζ5)
 (refine ao (w.look ho) fun al g ζ6=>?_;refine aJ ζ6 fun o1 o2 ζ7=>?_;clear ζ6;refine ao ζ7 fun kvs hD hK=>?_;clear ζ7)
 rw [ah hp ra] at g;cases g
 have ga:=ah hp ra
 have hlt:i < H.length:=(List.getElem?_eq_some_iff.mp ho).1
 obtain⟨t,rfl⟩:=rk.int
 refine wpAny_dictSet_pairs (knd:=intKind C.B.prog C.B.w) (k:=j) isInt_self hD.dictOf (fun h' hD' hS=>?_) (by refine rwS hK.length ?_;exact GS hz cG)
 obtain⟨n',hD'⟩:=hD'.dictAt
 exact QP.eV w (b:=()) (o':=.dict (lE es j v) n') hlt ga o1 hS ⟨o1,o2,_,hD',hK.set j (ry.mono hp)⟩ trivial (q n') _ (let ⟨o,_,e,_⟩:=hD';⟨o,e⟩)
theorem ae.Ed {φ₀:List Addr} {t:Sem Unit} {a:Tr Unit} {R:List Addr->Unit->Unit->Prop} (h:ae C f φ₀ t a R):zQ C f φ₀ t a:=by
 intro φ own σ Q s hp w q E
 refine wpAny_mono (h φ own σ Q (fun _ _=>False) s hp w q) ?_ fun _ _ x=>EP.no x
 rintro v s1 ⟨φ1,own1,σ1,b,k1,w1,r1,q1⟩
 exact⟨φ1,own1,σ1,b,k1,w1,trivial,q1⟩
theorem sL {elt:Expr} {gens:List Comprehension} {scope:Scope} {pos:Pos} (he:aV C K f elt) {φ:List Addr} {i:Nat} {a:Addr} (ga:φ[i]?=some a) :
  zQ C f φ (jz (.ListComp elt gens scope pos) (.ref a) f.env) ((awE K elt f.env.scope f.ro).bind fun x=>Tr.lift (ql i x)):=by
 refine ae.Ed (R:=fun _ _ _=>True) ?_
 refine (?_:ae C f φ (do let _ <- call (.builtin "list.append") [.ref a,<- eval elt f.env]) _ _)
 refine ae.bind (he φ) fun φ1 v b hp r=>?_
 intro φ2 own σ Q X s hp2 w q
 refine wpAny_bind (wpAny_mono (wH (ah hp ga) r φ2 own σ Q X s hp2 w q) ?_ fun _ _ x=>x)
 rintro v s1 ⟨φ1,own1,σ1,b,k1,w1,r1,q1⟩
 exact wpAny_pure ⟨φ1,own1,σ1,b,k1,w1,r1,q1⟩
theorem sJ {key val:Expr} {gens:List Comprehension} {scope:Scope} {pos:Pos} (hk:aV C K f key) (hv:aV C K f val) {φ:List Addr} {i:Nat} {a:Addr} (ga:φ[i]?=some a) :
  zQ C f φ (jz (.DictComp key val gens scope pos) (.ref a) f.env) ((awE K key f.env.scope f.ro).bind fun k=>(awE K val f.env.scope f.ro).bind fun x=>Tr.lift (zY i k x)):=by
 refine ae.Ed (R:=fun _ _ _=>True) ?_
 show ae C f φ (do
   let kv <- eval key f.env
   let vv <- holding [kv] (eval val f.env)
   standAt { key.pos with endLine:=val.pos.endLine,endCol:=val.pos.endCol }
   holding [kv,vv] (dictSet a kv vv)) _ _
 refine ae.bind (hk φ) fun φ1 v b hp r=>ae.bind (ae.holding (hv φ1)) fun φ2 v2 b2 hp2 r2=>ae.at (ae.holding ?_)
 exact zF (ah (hp.trans hp2) ga) (r.mono hp2) r2
theorem kU {φ:List Addr} {own:Addr->Option Nat} {H:List O} {m:Str->Option V} {s:Shared} (hlim:C.B.Fw.NoLimit) (w:W C.B C.fs f φ own H m s):2 < s.heap.objs.size:=by
 (refine ao hlim fun mc ζ8 _=>?_;clear hlim;obtain⟨o,_,_,e,_⟩:=ζ8)
 exact Heap.lt_size (w.stays _ _ e)
theorem uq {φ:List Addr} {own:Addr->Option Nat} {σ:Mine.St} {s:Shared} (w:W C.B C.fs f φ own σ.H σ.m s) {E:Value->Shared->Prop} :
  wpAny C.M C.A (PySem.newList []) (QP C f φ own s.heap VR (fun v σ'=>v=.ref σ.H.length/\σ'=⟨σ.H++[.list []],σ.m⟩)) E s:=
 wpAny_newList (QP.fF w (xs:=[]) (vs:=#[]) (Nat.zero_le _) trivial ⟨rfl,rfl⟩ s.toks)
theorem oB (hlim:C.B.Fw.NoLimit) {φ:List Addr} {own:Addr->Option Nat} {σ:Mine.St} {s:Shared} (w:W C.B C.fs f φ own σ.H σ.m s) {E:Value->Shared->Prop} {Q:V->Mine.St->Prop} (q:Q (.ref σ.H.length) ⟨σ.H++[.dict [] 0],σ.m⟩) :
  wpAny C.M C.A PySem.newDict (QP C f φ own s.heap VR Q) E s:=by
 unfold PySem.newDict
 refine wpAny_newObj_type ?_ (by exact Nat.le_add_left _ _)
 refine QP.kK (o':=.dict [] 0) w rfl (fun h' own' g o hp=>⟨o,?_,[],⟨_,#[],g,⟨rfl,rfl,rfl⟩,rfl,?_,?_,?_⟩,trivial⟩) (VR.last w _) q s.toks
 .have:=kU hlim w
  apply beq_eq_false_iff_ne.mpr
  refine (?_:s.heap.objs.size≠1)
  exact Nat.ne_of_gt (GU (by decide) this)
 .intro e he;exact absurd he (by exact Array.not_mem_empty e)
 .exact Pairs.nil
 .simp
theorem zk (hlim:C.B.Fw.NoLimit) {pos:Pos}:aV C K f (.Dict [] [] pos):=by
 intro φ₀
 have e0:eval (.Dict [] [] pos) f.env=(do standAt pos;PySem.newDict):=by
  rfl
 refine rwE e0 ?_
 refine ae.at ?_
 intro φ own σ Q X s hp w q
 exact oB hlim w q
theorem o9 (ok:a9 C K d) {elt t it:Expr} {ifs:List Expr} {a:Int} {gs:List Comprehension} {scope:Scope} {pos pos':Pos} (helt:∀ f':Fm,b9 f'->aV C K f' elt) (hit0:cY C K f it) (hit:∀ f':Fm,b9 f'->∀ g∈gs,cY C K f' g.iter)
  (hifs0:∀ f':Fm,b9 f'->∀ x∈ifs,fL C K f' x) (hifs:∀ f':Fm,b9 f'->∀ g∈gs,∀ x∈g.ifs,fL C K f' x) {φ:List Addr} {own:Addr->Option Nat} {σ:Mine.St} {Q:V->Mine.St->Prop} {X:V->Mine.St->Prop} {s:Shared} (w:W C.B C.fs f φ own σ.H σ.m s)
  (q:awE K (.ListComp elt (⟨t,it,ifs,a⟩::gs) scope pos) f.env.scope f.ro σ Q X) {use:Option (Value->Sem Unit)} {R:Value->Shared->Prop} {E:Value->Shared->Prop}
  (hE:∀ e s',EP C f φ own s.heap X e s'->E e s')
  (hR:∀ (a L:Addr) (s':Shared) (φ':List Addr) (own':Addr->Option Nat) (σ':Mine.St) (v:V),Kp f φ own s.heap φ' own' s'.heap->W C.B C.fs f φ' own' σ'.H σ'.m s'->VR φ' v (.ref a)->Q v σ'->cR C.B f [L]->own' L=none->s.heap.get? L=none->(∃ ml,s'.heap.Ns L ml) ->
   compPost C.M C.A E use R (.ref a) L (.ok .next) s') :
  a=0/\wpAny C.M C.A (comprehension (.ListComp elt (⟨t,it,ifs,a⟩::gs) scope pos) scope f.env pos' (PySem.newList []) false (eval it f.env) use) R E s:=by
 obtain⟨⟨rfl,hok,hcomp⟩,q⟩:=q
 refine⟨rfl,jx ok hok (e:=.ListComp elt (⟨t,it,ifs,0⟩::gs) scope pos) rfl rfl hcomp (fun φ own σ s w E=>uq w)
  (leaf:=fun i sc ro=>(awE K elt sc ro).bind fun x=>Tr.lift (ql i x)) (fun f' φ i a nm _ _ ga=>sL (helt f' nm) ga) hit0 hit (fun f' nm g hg=>?_) w q hE hR⟩
 rcases List.mem_cons.mp hg with rfl | hg
 .exact hifs0 f' nm
 .exact hifs f' nm g hg
theorem oS (hlim:C.B.Fw.NoLimit) (ok:a9 C K d) {key val t it:Expr} {ifs:List Expr} {a:Int} {gs:List Comprehension} {scope:Scope} {pos pos':Pos} (hk:∀ f':Fm,b9 f'->aV C K f' key) (hv:∀ f':Fm,b9 f'->aV C K f' val) (hit0:cY C K f it) (hit:∀ f':Fm,b9 f'->∀ g∈gs,cY C K f' g.iter)
  (hifs0:∀ f':Fm,b9 f'->∀ x∈ifs,fL C K f' x) (hifs:∀ f':Fm,b9 f'->∀ g∈gs,∀ x∈g.ifs,fL C K f' x) {φ:List Addr} {own:Addr->Option Nat} {σ:Mine.St} {Q:V->Mine.St->Prop} {X:V->Mine.St->Prop} {s:Shared} (w:W C.B C.fs f φ own σ.H σ.m s)
  (q:awE K (.DictComp key val (⟨t,it,ifs,a⟩::gs) scope pos) f.env.scope f.ro σ Q X) {use:Option (Value->Sem Unit)} {R:Value->Shared->Prop} {E:Value->Shared->Prop}
  (hE:∀ e s',EP C f φ own s.heap X e s'->E e s')
  (hR:∀ (a L:Addr) (s':Shared) (φ':List Addr) (own':Addr->Option Nat) (σ':Mine.St) (v:V),Kp f φ own s.heap φ' own' s'.heap->W C.B C.fs f φ' own' σ'.H σ'.m s'->VR φ' v (.ref a)->Q v σ'->cR C.B f [L]->own' L=none->s.heap.get? L=none->(∃ ml,s'.heap.Ns L ml) ->
   compPost C.M C.A E use R (.ref a) L (.ok .next) s') :
  a=0/\wpAny C.M C.A (comprehension (.DictComp key val (⟨t,it,ifs,a⟩::gs) scope pos) scope f.env pos' PySem.newDict false (eval it f.env) use) R E s:=by
 obtain⟨⟨rfl,hok,hcomp⟩,q⟩:=q
 refine⟨rfl,jx ok hok (e:=.DictComp key val (⟨t,it,ifs,0⟩::gs) scope pos) rfl rfl hcomp (fun φ own σ s w E=>oB hlim w ⟨rfl,rfl⟩)
  (leaf:=fun i sc ro=>(awE K key sc ro).bind fun k=>(awE K val sc ro).bind fun x=>Tr.lift (zY i k x)) (fun f' φ i a nm _ _ ga=>sJ (hk f' nm) (hv f' nm) ga) hit0 hit (fun f' nm g hg=>?_) w q hE hR⟩
 rcases List.mem_cons.mp hg with rfl | hg
 .exact hifs0 f' nm
 .exact hifs f' nm g hg
theorem l9 {φ:List Addr} {own:Addr->Option Nat} {Q:V->Mine.St->Prop} {X:V->Mine.St->Prop} {s:Shared}
  {a L:Addr} {s':Shared} {φ':List Addr} {own':Addr->Option Nat} {σ':Mine.St} {v:V} (k:Kp f φ own s.heap φ' own' s'.heap) (w':W C.B C.fs f φ' own' σ'.H σ'.m s') (r:VR φ' v (.ref a))
  (q:Q v σ') (nb:cR C.B f [L]) (ho:own' L=none) (hd:s.heap.get? L=none) (hns:∃ ml,s'.heap.Ns L ml) :
  compPost C.M C.A (EP C f φ own s.heap X) none (QP C f φ own s.heap VR Q) (.ref a) L (.ok .next) s':=by
 obtain⟨ml,hns⟩:=hns
 refine⟨ml,hns,fun h' hs=>?_⟩
 have hoff:=iR hs
 exact⟨φ',own',σ',v,k.off (fun b hb=>by rw [List.mem_singleton] at hb;refine rwE hb ?_;exact hd) hoff,w'.off nb (fun b hb=>by rw [List.mem_singleton] at hb;refine rwE hb ?_;exact ho) hoff s'.toks,r,q⟩
theorem iZ (ok:a9 C K d) {elt t it:Expr} {ifs:List Expr} {a:Int} {gs:List Comprehension} {scope:Scope} {pos:Pos} (helt:∀ f':Fm,b9 f'->aV C K f' elt) (hit0:cY C K f it) (hit:∀ f':Fm,b9 f'->∀ g∈gs,cY C K f' g.iter)
  (hifs0:∀ f':Fm,b9 f'->∀ x∈ifs,fL C K f' x) (hifs:∀ f':Fm,b9 f'->∀ g∈gs,∀ x∈g.ifs,fL C K f' x):aV C K f (.ListComp elt (⟨t,it,ifs,a⟩::gs) scope pos):=by
 intro φ₀ φ own σ Q X s hp w q
 obtain⟨rfl,h⟩:=o9 ok helt hit0 hit hifs0 hifs w q (pos':=firstIterPos (⟨t,it,ifs,a⟩::gs) pos) (use:=none) (fun e s' x=>x) fun a L s' φ' own' σ' v k w' r q' nb ho hd hns=>l9 k w' r q' nb ho hd hns
 exact h
theorem iY (hlim:C.B.Fw.NoLimit) (ok:a9 C K d) {key val t it:Expr} {ifs:List Expr} {a:Int} {gs:List Comprehension} {scope:Scope} {pos:Pos} (hk:∀ f':Fm,b9 f'->aV C K f' key) (hv:∀ f':Fm,b9 f'->aV C K f' val) (hit0:cY C K f it) (hit:∀ f':Fm,b9 f'->∀ g∈gs,cY C K f' g.iter)
  (hifs0:∀ f':Fm,b9 f'->∀ x∈ifs,fL C K f' x) (hifs:∀ f':Fm,b9 f'->∀ g∈gs,∀ x∈g.ifs,fL C K f' x):aV C K f (.DictComp key val (⟨t,it,ifs,a⟩::gs) scope pos):=by
 intro φ₀ φ own σ Q X s hp w q
 obtain⟨rfl,h⟩:=oS hlim ok hk hv hit0 hit hifs0 hifs w q (pos':=firstIterPos (⟨t,it,ifs,a⟩::gs) pos) (use:=none) (fun e s' x=>x) fun a L s' φ' own' σ' v k w' r q' nb ho hd hns=>l9 k w' r q' nb ho hd hns
 exact h
end
end Mine
namespace Mine
open PySem PyProof.Rows
section
variable {C:Ctx} {f:Fm} {K:Cfg} {d:Nat}
theorem fX {ts:List Expr} {e:Expr} (htu:aZ e=false) (he:aV C K f e) (hts:∀ t∈ts,qN C K f t) (hst:∀ t∈ts,isStar t=false) (φ₀:List Addr) :
  ae C f φ₀ (do
    let v <- eval e f.env
    assignStores f.env v (<- swappedStores ts e f.env) ((assignEach ts f.env).map (·.2))) ((awE K e f.env.scope f.ro).bind fun v=>(jS K v f.env.scope f.ro ts).bind fun _=>Tr.pure .next) FlR:=by
 refine ae.bind (he φ₀) fun φ z v hp r=>?_
 refine rwE (gD ts htu) ?_
 refine ae.bindL (t:=(pure none:Sem (Option (List Str)))) none (fun Q E s q=>wpAny_pure q) ?_
 exact ae.bind (dC ts hts hst φ v z r) fun φ' _ _ hp' _=>ae.pure fun _ _=>trivial
theorem Ce (env:Env) (n:Nat) (t e:Expr) (h:eo e=true):∃ b,swapsWith e (some t) n env=pure b:=by
 rcases okE h with ⟨a,b,c,p,rfl⟩ | ⟨a,k,b,c,p,rfl⟩
 all_goals induction t using Expr.casesOn<;>exact⟨_,rfl⟩
theorem jI {ts:List Expr} {e:Expr} {n:Nat} (hc:eo e=true):∃ b,swapsWithSole ts e n f.env=pure b/\(b=true->∃ t,ts=[t]):=by
 match ts with
 | []=>exact aW false rfl (fun h=>nomatch h)
 | [t]=>exact let ⟨b,h⟩:=Ce f.env n t e hc;⟨b,h,fun _=>⟨_,rfl⟩⟩
 | _::_::_=>exact aW false rfl (fun h=>nomatch h)
theorem pq {t:Expr} {φ:List Addr} {own:Addr->Option Nat} {Q:Fl->Mine.St->Prop} {X:V->Mine.St->Prop} {s:Shared} (ht:qN C K f t) (hst:isStar t=false)
  {a L:Addr} {s':Shared} {φ':List Addr} {own':Addr->Option Nat} {σ':Mine.St} {v:V} (k:Kp f φ own s.heap φ' own' s'.heap) (w':W C.B C.fs f φ' own' σ'.H σ'.m s') (r:VR φ' v (.ref a))
  (q:((jS K v f.env.scope f.ro [t]).bind fun _=>Tr.pure Fl.next) σ' Q X) (nb:cR C.B f [L]) (ho:own' L=none) (hd:s.heap.get? L=none) (hns:∃ ml,s'.heap.Ns L ml) :
  compPost C.M C.A (EP C f φ own s.heap X) (some fun v=>assignAll v ((assignEach [t] f.env).map (·.2))) (fun _ s''=>QP C f φ own s.heap FlR Q .next s'') (.ref a) L (.ok .next) s':=by
 refine (?_:wpAny C.M C.A (assignAll (.ref a) ((assignEach [t] f.env).map (·.2))) _ _ s')
 have e0:assignAll (.ref a) ((assignEach [t] f.env).map (·.2))=assign t f.env (.ref a):=by
  refine rwE (fi hst) ?_;rfl
 refine rwE e0 ?_
 refine wpAny_mono (ht φ' v (.ref a) r φ' own' σ' _ X s' (GZ _) w' q) ?_ fun _ _ x=>EP.after k x
 rintro _ s2 ⟨φ2,own2,σ2,b2,k2,w2,-,q2⟩
 (obtain⟨ml,ζ1⟩:=hns;refine eE ζ1 fun o es ep ζ2=>?_;clear ζ1;obtain⟨g,hns⟩:=ζ2)
 have hL:L∈[L]:=.head _
 have g2:=k2.ex L o g ho (nb.pj hL) (nb.fas L hL)
 refine aW ml ⟨o,es,ep,g2,hns⟩ (fun h' hs=>?_)
 have hoff:=iR hs
 have ho2:own2 L=none:=(k2.ownOld L o g).trans ho
 exact⟨φ2,own2,σ2,.next,(k.trans k2).off (fun b hb=>by rw [List.mem_singleton] at hb;refine rwE hb ?_;exact hd) hoff,w2.off nb (fun b hb=>by rw [List.mem_singleton] at hb;refine rwE hb ?_;exact ho2) hoff s2.toks,trivial,q2⟩
set_option maxHeartbeats 400000 in
theorem kO (ok:a9 C K d) {ts:List Expr} {spos:Pos} {elt t it:Expr} {ifs:List Expr} {a:Int} {gs:List Comprehension} {scope:Scope} {pos:Pos} (helt:∀ f':Fm,b9 f'->aV C K f' elt) (hit0:cY C K f it) (hit:∀ f':Fm,b9 f'->∀ g∈gs,cY C K f' g.iter)
  (hifs0:∀ f':Fm,b9 f'->∀ x∈ifs,fL C K f' x) (hifs:∀ f':Fm,b9 f'->∀ g∈gs,∀ x∈g.ifs,fL C K f' x) (hts:∀ t∈ts,qN C K f t):fK C K f (.Assign ts (.ListComp elt (⟨t,it,ifs,a⟩::gs) scope pos) spos):=by
 intro φ₀
 have e1:awS K (.Assign ts (.ListComp elt (⟨t,it,ifs,a⟩::gs) scope pos) spos) f.env.scope f.ro=if aZ (.ListComp elt (⟨t,it,ifs,a⟩::gs) scope pos) || ts.any isStar then fun _ _ _=>False else (awE K (.ListComp elt (⟨t,it,ifs,a⟩::gs) scope pos) f.env.scope f.ro).bind fun v=>(jS K v f.env.scope f.ro ts).bind fun _=>Tr.pure .next:=rfl
 refine rwE e1 ?_
 by_cases htb:(aZ (.ListComp elt (⟨t,it,ifs,a⟩::gs) scope pos) || ts.any isStar)=true
 .refine rwE (if_pos htb) ?_;exact ae.false
 refine rwE (if_neg htb) ?_
 obtain⟨-,hst⟩:=cS htb
 have e0:exec (.Assign ts (.ListComp elt (⟨t,it,ifs,a⟩::gs) scope pos) spos) f.env=(do
   standAt spos
   if <- swapsWithSole ts (.ListComp elt (⟨t,it,ifs,a⟩::gs) scope pos) spos.line f.env then do
    evalThenUse (.ListComp elt (⟨t,it,ifs,a⟩::gs) scope pos) f.env fun v=>assignAll v ((assignEach ts f.env).map (·.2))
    pure .next
   else do
    let v <- eval (.ListComp elt (⟨t,it,ifs,a⟩::gs) scope pos) f.env
    assignStores f.env v (<- swappedStores ts (.ListComp elt (⟨t,it,ifs,a⟩::gs) scope pos) f.env) ((assignEach ts f.env).map (·.2))):=rfl
 refine rwE e0 ?_
 refine ao (jI (ts:=ts) (n:=spos.line) (f:=f) (e:=.ListComp elt (⟨t,it,ifs,a⟩::gs) scope pos) rfl) fun b hb hone=>?_
 refine rwE hb ?_
 refine ae.at ?_
 refine ae.bindL (t:=(pure b:Sem Bool)) b (fun Q E s q=>wpAny_pure q) ?_
 induction b with
 | false =>
  refine rwE (if_neg (by decide)) ?_
  exact fX rfl (iZ ok helt hit0 hit hifs0 hifs) hts hst φ₀
 | true =>
  refine rwE (if_pos rfl) ?_
  obtain⟨tt,rfl⟩:=hone rfl
  intro φ own σ Q X s hp w q
  obtain⟨Q',hQ',q1⟩:∃ Q':V->Mine.St->Prop,(∀ v σ',Q' v σ'->((jS K v f.env.scope f.ro [tt]).bind fun _=>Tr.pure Fl.next) σ' Q X)/\awE K (.ListComp elt (⟨t,it,ifs,a⟩::gs) scope pos) f.env.scope f.ro σ Q' X:=⟨_,fun _ _ h=>h,q⟩
  have hR:=fun a L s' φ' own' σ' v k w' r q' nb ho hd hns=>pq (C:=C) (s:=s) (φ:=φ) (own:=own) (a:=a) (L:=L) (s':=s') (φ':=φ') (own':=own') (σ':=σ') (v:=v) (Q:=Q) (X:=X) (hts tt (.head _)) (hst tt (.head _)) k w' r (hQ' _ _ q') nb ho hd hns
  obtain⟨rfl,h⟩:=o9 ok helt hit0 hit hifs0 hifs w q1 (pos':=firstIterPos (⟨t,it,ifs,a⟩::gs) pos) (fun e s' x=>x) hR
  exact wpAny_bind (wpAny_bind (wpAny_mono h (fun _ s2 h=>wpAny_pure (wpAny_pure h)) fun _ _ x=>x))
set_option maxHeartbeats 400000 in
theorem kN (hlim:C.B.Fw.NoLimit) (ok:a9 C K d) {ts:List Expr} {spos:Pos} {key val t it:Expr} {ifs:List Expr} {a:Int} {gs:List Comprehension} {scope:Scope} {pos:Pos} (hk:∀ f':Fm,b9 f'->aV C K f' key) (hv:∀ f':Fm,b9 f'->aV C K f' val) (hit0:cY C K f it) (hit:∀ f':Fm,b9 f'->∀ g∈gs,cY C K f' g.iter)
  (hifs0:∀ f':Fm,b9 f'->∀ x∈ifs,fL C K f' x) (hifs:∀ f':Fm,b9 f'->∀ g∈gs,∀ x∈g.ifs,fL C K f' x) (hts:∀ t∈ts,qN C K f t):fK C K f (.Assign ts (.DictComp key val (⟨t,it,ifs,a⟩::gs) scope pos) spos):=by
 intro φ₀
 have e1:awS K (.Assign ts (.DictComp key val (⟨t,it,ifs,a⟩::gs) scope pos) spos) f.env.scope f.ro=if aZ (.DictComp key val (⟨t,it,ifs,a⟩::gs) scope pos) || ts.any isStar then fun _ _ _=>False else (awE K (.DictComp key val (⟨t,it,ifs,a⟩::gs) scope pos) f.env.scope f.ro).bind fun v=>(jS K v f.env.scope f.ro ts).bind fun _=>Tr.pure .next:=rfl
 refine rwE e1 ?_
 by_cases htb:(aZ (.DictComp key val (⟨t,it,ifs,a⟩::gs) scope pos) || ts.any isStar)=true
 .refine rwE (if_pos htb) ?_;exact ae.false
 refine rwE (if_neg htb) ?_
 obtain⟨-,hst⟩:=cS htb
 have e0:exec (.Assign ts (.DictComp key val (⟨t,it,ifs,a⟩::gs) scope pos) spos) f.env=(do
   standAt spos
   if <- swapsWithSole ts (.DictComp key val (⟨t,it,ifs,a⟩::gs) scope pos) spos.line f.env then do
    evalThenUse (.DictComp key val (⟨t,it,ifs,a⟩::gs) scope pos) f.env fun v=>assignAll v ((assignEach ts f.env).map (·.2))
    pure .next
   else do
    let v <- eval (.DictComp key val (⟨t,it,ifs,a⟩::gs) scope pos) f.env
    assignStores f.env v (<- swappedStores ts (.DictComp key val (⟨t,it,ifs,a⟩::gs) scope pos) f.env) ((assignEach ts f.env).map (·.2))):=rfl
 refine rwE e0 ?_
 refine ao (jI (ts:=ts) (n:=spos.line) (f:=f) (e:=.DictComp key val (⟨t,it,ifs,a⟩::gs) scope pos) rfl) fun b hb hone=>?_
 refine rwE hb ?_
 refine ae.at ?_
 refine ae.bindL (t:=(pure b:Sem Bool)) b (fun Q E s q=>wpAny_pure q) ?_
 induction b with
 | false =>
  refine rwE (if_neg (by decide)) ?_
  exact fX rfl (iY hlim ok hk hv hit0 hit hifs0 hifs) hts hst φ₀
 | true =>
  refine rwE (if_pos rfl) ?_
  obtain⟨tt,rfl⟩:=hone rfl
  intro φ own σ Q X s hp w q
  obtain⟨Q',hQ',q1⟩:∃ Q':V->Mine.St->Prop,(∀ v σ',Q' v σ'->((jS K v f.env.scope f.ro [tt]).bind fun _=>Tr.pure Fl.next) σ' Q X)/\awE K (.DictComp key val (⟨t,it,ifs,a⟩::gs) scope pos) f.env.scope f.ro σ Q' X:=⟨_,fun _ _ h=>h,q⟩
  have hR:=fun a L s' φ' own' σ' v k w' r q' nb ho hd hns=>pq (C:=C) (s:=s) (φ:=φ) (own:=own) (a:=a) (L:=L) (s':=s') (φ':=φ') (own':=own') (σ':=σ') (v:=v) (Q:=Q) (X:=X) (hts tt (.head _)) (hst tt (.head _)) k w' r (hQ' _ _ q') nb ho hd hns
  obtain⟨rfl,h⟩:=oS hlim ok hk hv hit0 hit hifs0 hifs w q1 (pos':=firstIterPos (⟨t,it,ifs,a⟩::gs) pos) (fun e s' x=>x) hR
  exact wpAny_bind (wpAny_bind (wpAny_mono h (fun _ s2 h=>wpAny_pure (wpAny_pure h)) fun _ _ x=>x))
end
end Mine
namespace Mine
open PySem PyProof.Rows
structure gK (C:Ctx) (K:Cfg) (d:Nat):Prop where
 ok:a9 C K d
 bo:jm C.B K
 co:bB C.B K
 mo:oA C.B K
 ko:jO C.B K
 lim:C.B.Fw.NoLimit
 call:∀ f,dg C K f
 sets:K.sets->∀ f,qU C f
 setD:K.sets->∀ f e pos,isStar e=false->aV C K f e->∀ φ₀,ae C f φ₀ (eval (.Set [e] 0 pos) f.env) (DQ (awE K e f.env.scope f.ro)) VR
 xe:∀ f,b9 f->∀ e φ₀,ae C f φ₀ (eval e f.env) (K.xe e f.env.scope f.ro) VR
 xs:∀ a b c p sc ro,K.xe (.Slice a b c p) sc ro=fun _ _ _=>False
 xc:∀ e sc ro,c9 e=true->K.xe e sc ro=fun _ _ _=>False
 ex:∀ c,K.exc c=true->fW C.B c
 sb:∀ c tv,K.sub c tv=true->ip C.B c tv
structure All (C:Ctx) (K:Cfg) (f:Fm) (e:Expr):Prop where
 E:aV C K f e
 T:fL C K f e
 It:cY C K f e
 P:um C K f e
 S:∀ e' p,e=.Starred e' p->aV C K f e'
 A:∀ o n p,e=.Attribute o n p->aV C K f o
 Sl:∀ lo hi st p,e=.Slice lo hi st p->xu C K f lo/\xu C K f hi
section
variable {C:Ctx} {f:Fm} {K:Cfg} {d:Nat}
noncomputable def l7 (e:Expr):Bool:=!(Nat.beq e.ctorIdx 19 || Nat.beq e.ctorIdx 17)
noncomputable def plainHead (e:Expr):Bool:=!(Nat.beq e.ctorIdx 22 || Nat.beq e.ctorIdx 20 || Nat.beq e.ctorIdx 26)
theorem ig {e:Expr} (h:l7 e=true):um C K f e:=by
 intro φ₀
 have e1:za K f.env.scope f.ro e=fun _ _ _=>False:=by
  induction e using Expr.casesOn<;>first | rfl | exact Bool.noConfusion h
 refine rwE e1 ?_;exact ae.false
theorem nM {c:Const} {k:Nat} {p:Pos}:um C K f (.Constant c k p):=by
 induction c<;>first | exact wg | exact fun φ₀=>ae.false
theorem mx {e:Expr} {cv:Int} {sp:Option Expr} {p:Pos} (he:aV C K f e):um C K f (.FormattedValue e cv sp p):=by
 induction sp with
 | none=>exact BU he
 | some x=>exact fun φ₀=>ae.false
theorem All.of (H:gK C K d) {e:Expr} (hE:aV C K f e) (hT:dQ e=true\/fL C K f e) (hI:cL e=true\/cY C K f e) (hP:l7 e=true\/um C K f e) (hH:plainHead e=true):All C K f e where
 E:=hE
 T:=hT.elim (fun h=>ik h hE) id
 It:=hI.elim (fun h=>dS H.ok h hE) id
 P:=hP.elim ig id
 S:=fun e' p h=>by subst h;exact Bool.noConfusion hH
 A:=fun o n p h=>by subst h;exact Bool.noConfusion hH
 Sl:=fun lo hi st p h=>by subst h;exact Bool.noConfusion hH
theorem pG (bo:jm C.B K) (nm:b9 f) {x:Str} {pos:Pos}:aV C K f (.Name x pos):=by
 by_cases h:fE x=true
 .unfold fE at h
  simp only [Bool.and_eq_true,Bool.not_eq_true'] at h
  exact zm bo h.1 h.2
 .intro φ₀ φ own σ Q X s hp w q
  have q:bH K f.env.scope x σ Q X:=q
  unfold bH at q
  induction hl:f.env.scope.names.lookup x with
  | none=>rw [hl] at q;exact q.elim
  | some k=>exact absurd (nm x k hl) h
theorem nK (H:gK C K d) (nm:b9 f) {x:Str} {pos:Pos}:aV C K f (.Name x pos):=pG H.bo nm
theorem zq (H:gK C K d) (nm:b9 f) (x:Str):∀ φ₀,ae C f φ₀ (loadName f.env x) (bH K f.env.scope x) VR:=by
 intro φ₀
 by_cases h:fE x=true
 .unfold fE at h
  simp only [Bool.and_eq_true,Bool.not_eq_true'] at h
  exact pI H.bo h.1 φ₀
 .intro φ own σ Q X s hp w q
  unfold bH at q
  induction hl:f.env.scope.names.lookup x with
  | none=>rw [hl] at q;exact q.elim
  | some k=>exact absurd (nm x k hl) h
theorem nL:∀ (es:List Expr),(∀ e∈es,All C K f e)->pS C K f es
 | [],_=>zp
 | e::r,h=>v9 (h e (.head _)).E (nL r fun x hx=>h x (.tail _ hx))
theorem nP:∀ (es:List Expr),(∀ e∈es,All C K f e)->lq C K f es
 | [],_=>zw
 | e::r,h=>by
  have hr:=nP r fun x hx=>h x (.tail _ hx)
  by_cases hst:isStar e=true
  .obtain⟨x,p,rfl⟩:=zJ hst
   exact wu ((h _ (.head _)).S _ _ rfl) hr
  .exact wo (h e (.head _)).E (by simpa using hst) hr
theorem lG {M:Model} {A:Around} {E:Value->Shared->Prop} {s:Shared} {f:Value} {b:Bool} {x:Sem Value} {y:Bool × Sem Value} {rest:List (Bool × Sem Value)} {Q:Args->Shared->Prop}
  (h:wpAny M A (spliced ((b,x)::y::rest)) (fun vs s'=>Q ⟨vs,[]⟩ s') E s):wpAny M A (evalArgs f true ((b,x)::y::rest) []) Q E s:=by
 unfold evalArgs
 induction b<;>(
  refine wpAny_bind (wpAny_mono h (fun vs s' h'=>?_) fun _ _ x=>x)
  refine wpAny_bind (wpAny_pure (wpAny_holding ?_))
  exact wpAny_bind (wpAny_pure (wpAny_bind (wpAny_pure (wpAny_pure h')))))
theorem Ax {e:Expr} {r:List Expr} {env:Env}:∃ b x,starEach (e::r) env=(b,x)::starEach r env:=by
 by_cases h:isStar e=true
 .obtain⟨x,p,rfl⟩:=zJ h;exact zS _ _ rfl
 .exact zS _ _ (eQ (Bool.eq_false_iff.mpr h))
theorem BP {e e2:Expr} {es:List Expr} (hs:lq C K f (e::e2::es)):cX C K f (e::e2::es):=by
 intro φ₀ pos fv φ own σ Q X s hp w q
 refine pZ (Ax (e:=e) (r:=e2::es) (env:=f.env)) fun b x e1=>?_
 refine pZ (Ax (e:=e2) (r:=es) (env:=f.env)) fun b2 x2 e3=>?_
 have h:=hs φ₀ pos φ own σ Q X s hp w q
 rw [e1,e3] at h ⊢
 have hb:∀ (p:Bool × Sem Value) (l:List (Bool × Sem Value)),∃ b x,backTo pos (p::l)=(b,x)::backTo pos l:=fun ⟨b,x⟩ l=>by induction b<;>exact zS _ _ rfl
 refine pZ (hb (b,x) ((b2,x2)::starEach es f.env)) fun c y h1=>?_
 refine pZ (hb (b2,x2) (starEach es f.env)) fun c2 y2 h2=>?_
 rw [h1,h2] at h ⊢
 refine lG (wpAny_mono h ?_ fun _ _ x=>x)
 rintro v s1 ⟨φ1,own1,σ1,b,k1,w1,r1,q1⟩
 exact⟨φ1,own1,σ1,b,k1,w1,⟨rfl,r1⟩,q1⟩
theorem mj:∀ (es:List Expr),(∀ e∈es,All C K f e)->cX C K f es
 | [],_=>BO
 | [e],h=>by
  by_cases hst:isStar e=true
  .obtain⟨x,p,rfl⟩:=zJ hst
   exact zh ((h _ (.head _)).S _ _ rfl)
  .exact zg (by simpa using hst) (nP _ h)
 | e::e2::r,h=>BP (nP _ h)
theorem tH {op:BoolOp}:∀ (es:List Expr),(∀ e∈es,All C K f e)->qV C K f op es
 | [],_=>zz
 | e::r,h=>wz (h e (.head _)).T (tH r fun x hx=>h x (.tail _ hx))
theorem iC {fe:Expr} {args:List Expr} {pos:Pos} {env:Env} (h:∀ o n p,fe≠.Attribute o n p) :
  eval (.Call fe args [] pos) env=(do callWith pos (<- eval fe env) [] (backTo pos (starEach args env)) (backToKw pos (keywordEach [] env))):=by
 induction fe using Expr.casesOn<;>first | rfl | exact absurd rfl (h _ _ _)
theorem ji {fe:Expr} {args:List Expr} {pos:Pos} {sc:Scope} {ro:List Str} (h:∀ o n p,fe≠.Attribute o n p) :
  awE K (.Call fe args [] pos) sc ro=(awE K fe sc ro).bind fun fv=>(aI K args sc ro).bind fun vs=>Tr.lift (iw K fv vs):=by
 induction fe using Expr.casesOn<;>first | rfl | exact absurd rfl (h _ _ _)
theorem zo (H:gK C K d) {fe:Expr} {args:List Expr} {kws:List Keyword} {pos:Pos} (nm:b9 f) (hf:All C K f fe) (ha:cX C K f args):aV C K f (.Call fe args kws pos):=by
 induction kws using List.casesOn with
 | cons k ks =>
  intro φ₀
  have e1:awE K (.Call fe args (k::ks) pos) f.env.scope f.ro=K.xe (.Call fe args (k::ks) pos) f.env.scope f.ro:=by induction fe using Expr.casesOn<;>rfl
  refine rwE e1 ?_;exact H.xe f nm _ φ₀
 | nil =>
  by_cases hat:∃ o n p,fe=.Attribute o n p
  ·(refine eE hat fun o n p ζ1=>?_;clear hat;obtain rfl:=ζ1)
   exact nJ H.ok H.co H.mo (H.call f) (hf.A o n p rfl) ha
  .have h:∀ o n p,fe≠.Attribute o n p:=fun o n p e=>hat ⟨o,n,p,e⟩
   intro φ₀
   refine rwE (ji h) ?_
   exact zj H.ok H.co H.ko (H.call f) hf.E ha (iC h) φ₀
theorem q9 {K:Cfg} {v:Expr} {pos:Pos} {sc:Scope} {ro:List Str} (i:Expr):aF i=false->awE K (.Subscript v i pos) sc ro=(awE K v sc ro).bind fun ov=>(awE K i sc ro).bind fun iv=>Tr.lift (ba ov iv):=by
 induction i using Expr.casesOn<;>first | exact fun _=>rfl | exact fun h=>nomatch h
theorem Tr.one {α:Type} {t:Tr α}:(fun σ Q X=>(1:Int)=1/\t σ Q X)=t:=by
 funext σ Q X
 exact propext (and_iff_right rfl)
theorem mw (H:gK C K d) (nm:b9 f) {v i:Expr} {pos:Pos} (hv:aV C K f v) (hi:All C K f i):aV C K f (.Subscript v i pos):=by
 by_cases hs:aF i=true
 ·(refine gP (Cb hs) fun lo hi' st p ζ3=>?_;obtain rfl:=ζ3)
  obtain⟨hlo,hhi⟩:=hi.Sl _ _ _ _ rfl
  intro φ₀
  induction st with
  | none=>exact v5 hv hlo hhi φ₀
  | some st=>exact ae.false
 .have hs:aF i=false:=by simpa using hs
  intro φ₀
  refine rwE (q9 i hs) ?_
  exact mu hs hv hi.E φ₀
theorem tC {e:Expr} (h:awE K e f.env.scope f.ro=noT):aV C K f e:=fun φ₀=>by refine rwE h ?_;exact ae.false
theorem cf (H:gK C K d) (nm:b9 f) {e:Expr} (h:awE K e f.env.scope f.ro=K.xe e f.env.scope f.ro):aV C K f e:=fun φ₀=>by refine rwE h ?_;exact H.xe f nm e φ₀
theorem BS (H:gK C K d) {e:Expr} {k:Nat} {pos:Pos} (he:aV C K f e):aV C K f (.Set [e] k pos):=by
 intro φ₀ φ own σ Q X s hp w q
 obtain⟨⟨h1,hk,h2⟩,q⟩:=q
 subst hk
 exact H.setD h2 f e pos h1 he φ₀ φ own σ Q X s hp w q
theorem wy {l:Expr} {ops:List CmpOp} {rs:List Expr} {pos:Pos} (h:∀ op r,¬ (ops=[op]/\rs=[r])):fL C K f (.Compare l ops rs pos):=by
 intro φ₀
 have e1:awT K (.Compare l ops rs pos) (awE K (.Compare l ops rs pos) f.env.scope f.ro) f.env.scope f.ro=fun _ _ _=>False:=by
  match ops,rs with
  | [],_=>rfl
  | [op],[]=>rfl
  | [op],[r]=>exact absurd ⟨rfl,rfl⟩ (h op r)
  | [op],_::_::_=>rfl
  | _::_::_,_=>rfl
 refine rwE e1 ?_;exact ae.false
theorem v8 (H:gK C K d) (nm:b9 f) {l:Expr} {ops:List CmpOp} {rs:List Expr} {pos:Pos} (h:∀ op r,¬ (ops=[op]/\rs=[r])):aV C K f (.Compare l ops rs pos):=by
 refine cf H nm ?_
 match ops,rs with
 | [],_=>rfl
 | [op],[]=>rfl
 | [op],[r]=>exact absurd ⟨rfl,rfl⟩ (h op r)
 | [op],_::_::_=>rfl
 | _::_::_,_=>rfl
structure Cu (C:Ctx) (K:Cfg) (f:Fm) (g:Comprehension):Prop where
 it:cY C K f g.iter
 ifs:∀ x∈g.ifs,fL C K f x
end
mutual
theorem all {C:Ctx} {K:Cfg} {d:Nat} (H:gK C K d):(e:Expr)->∀ f,b9 f->All C K f e
 | .BoolOp op vs pos,f,nm=>by
  have h:=uf H vs f nm
  exact All.of H (fun φ₀=>ae.false) (.inr (zy (tH vs h))) (.inl rfl) (.inl rfl) rfl
 | .NamedExpr t v pos,f,nm=>by
  have hv:=(all H v f nm).E
  refine All.of H ?_ (.inl rfl) (.inl rfl) (.inl rfl) rfl
  by_cases ht:t.ctorIdx=23
  .obtain⟨x,p,rfl⟩:=nG ht
   exact vZ hv fun φ a va r=>bT r
  .exact tC (nH ht)
 | .BinOp l op r pos,f,nm=>All.of H (vX (fun h=>H.sets h f) (all H l f nm).E (all H r f nm).E) (.inl rfl) (.inl rfl) (.inl rfl) rfl
 | .UnaryOp op x pos,f,nm=>by
  have hx:=all H x f nm
  induction op with
  | Not=>exact All.of H (BR hx.E) (.inr (B3 hx.T)) (.inl rfl) (.inl rfl) rfl
  | USub =>
   refine All.of H ?_ (.inl rfl) (.inl rfl) (.inl rfl) rfl
   by_cases h:x.ctorIdx=19
   .obtain⟨c,k,p,rfl⟩:=Am h
    induction c<;>first | exact tC rfl | exact BQ
   .exact tC (Eu h)
  | UAdd=>exact All.of H (tC rfl) (.inl rfl) (.inl rfl) (.inl rfl) rfl
  | Invert=>exact All.of H (tC rfl) (.inl rfl) (.inl rfl) (.inl rfl) rfl
 | .Lambda a b s p,f,nm=>All.of H (cf H nm rfl) (.inl rfl) (.inl rfl) (.inl rfl) rfl
 | .IfExp t b o p,f,nm=>All.of H (cf H nm rfl) (.inr fun φ₀=>ae.false) (.inl rfl) (.inl rfl) rfl
 | .Dict ks vs p,f,nm=>by
  refine All.of H ?_ (.inl rfl) (.inl rfl) (.inl rfl) rfl
  match ks,vs with
  | [],[]=>exact zk H.lim
  | [],_::_=>exact cf H nm rfl
  | _::_,_=>exact cf H nm rfl
 | .Set es k p,f,nm=>by
  have h:=uf H es f nm
  refine All.of H ?_ (.inl rfl) (.inr fun t φ own σ G X s w q=>q.elim) (.inl rfl) rfl
  match es,h with
  | [],_=>exact cf H nm rfl
  | [e],h=>exact BS H (h e (.head _)).E
  | _::_::_,_=>exact cf H nm rfl
 | .ListComp elt gs sc p,f,nm=>by
  have he:=fun f' nm'=>(all H elt f' nm').E
  have hg:=z5 H gs
  refine All.of H ?_ (.inl rfl) (.inl rfl) (.inl rfl) rfl
  induction gs using List.casesOn with
  | nil=>exact cf H nm rfl
  | cons g gs =>
   obtain⟨t,it,ifs,a⟩:=g
   exact iZ H.ok he (hg f nm _ (.head _)).it (fun f' nm' g hg'=>(hg f' nm' g (.tail _ hg')).it) (fun f' nm'=>(hg f' nm' _ (.head _)).ifs) (fun f' nm' g hg'=>(hg f' nm' g (.tail _ hg')).ifs)
 | .SetComp e g s p,f,nm=>All.of H (cf H nm rfl) (.inl rfl) (.inl rfl) (.inl rfl) rfl
 | .DictComp k v gs s p,f,nm=>by
  have hk:=fun f' nm'=>(all H k f' nm').E
  have hv:=fun f' nm'=>(all H v f' nm').E
  have hg:=z5 H gs
  refine All.of H ?_ (.inl rfl) (.inl rfl) (.inl rfl) rfl
  induction gs using List.casesOn with
  | nil=>exact cf H nm rfl
  | cons g gs =>
   obtain⟨t,it,ifs,a⟩:=g
   exact iY H.lim H.ok hk hv (hg f nm _ (.head _)).it (fun f' nm' g hg'=>(hg f' nm' g (.tail _ hg')).it) (fun f' nm'=>(hg f' nm' _ (.head _)).ifs) (fun f' nm' g hg'=>(hg f' nm' g (.tail _ hg')).ifs)
 | .GeneratorExp e g s p,f,nm=>All.of H (cf H nm rfl) (.inl rfl) (.inl rfl) (.inl rfl) rfl
 | .Await e p,f,nm=>All.of H (cf H nm rfl) (.inl rfl) (.inl rfl) (.inl rfl) rfl
 | .Yield e p,f,nm=>All.of H (cf H nm rfl) (.inl rfl) (.inl rfl) (.inl rfl) rfl
 | .YieldFrom e p,f,nm=>All.of H (cf H nm rfl) (.inl rfl) (.inl rfl) (.inl rfl) rfl
 | .Compare l ops rs p,f,nm=>by
  have hl:=(all H l f nm).E
  have hr:=uf H rs f nm
  by_cases h:∃ op r,ops=[op]/\rs=[r]
  ·(refine bq h fun op r ζ5 ζ6=>?_;clear h;obtain rfl:=ζ5;obtain rfl:=ζ6)
   exact All.of H (qr H.ok hl (hr r (.head _)).E) (.inr (qy H.ok hl (hr r (.head _)).E)) (.inl rfl) (.inl rfl) rfl
  .exact All.of H (v8 H nm fun op r e=>h ⟨op,r,e⟩) (.inr (wy fun op r e=>h ⟨op,r,e⟩)) (.inl rfl) (.inl rfl) rfl
 | .Call fe args kws p,f,nm=>by
  have hf:=all H fe f nm
  have ha:=mj args (uf H args f nm)
  have hE:aV C K f (.Call fe args kws p):=zo H nm hf ha
  refine All.of H hE (.inl rfl) ?_ (.inl rfl) rfl
  by_cases hp:cL (.Call fe args kws p)=true
  .exact .inl hp
  .right
   induction kws using List.casesOn with
   | cons k ks=>exact absurd (by induction fe using Expr.casesOn<;>rfl) hp
   | nil =>
    induction fe using Expr.casesOn<;>first | exact absurd rfl hp | skip
    exact wc H.ok (nK H nm) ha hE
 | .FormattedValue e cv sp p,f,nm=>All.of H (cf H nm rfl) (.inl rfl) (.inl rfl) (.inr (mx (all H e f nm).E)) rfl
 | .JoinedStr vs p,f,nm=>All.of H (tw fun v hv=>(uf H vs f nm v hv).P) (.inl rfl) (.inl rfl) (.inl rfl) rfl
 | .Constant c k p,f,nm=>All.of H vY (.inl rfl) (.inl rfl) (.inr nM) rfl
 | .Attribute o n p,f,nm=>by
  have ho:=(all H o f nm).E
  have hE:aV C K f (.Attribute o n p):=mn H.co ho
  exact⟨hE,ik rfl hE,dS H.ok rfl hE,ig rfl,(fun _ _ h=>by contradiction),(fun _ _ _ h=>by cases h;exact ho),fun _ _ _ _ h=>by exact Expr.noConfusion h⟩
 | .Subscript v i p,f,nm=>All.of H (mw H nm (all H v f nm).E (all H i f nm)) (.inl rfl) (.inl rfl) (.inl rfl) rfl
 | .Starred e p,f,nm=>by
  have he:=(all H e f nm).E
  have hE:aV C K f (.Starred e p):=cf H nm rfl
  exact⟨hE,ik rfl hE,dS H.ok rfl hE,ig rfl,(fun _ _ h=>by cases h;exact he),(fun _ _ _ h=>by contradiction),fun _ _ _ _ h=>by exact Expr.noConfusion h⟩
 | .Name x p,f,nm=>All.of H (nK H nm) (.inl rfl) (.inl rfl) (.inl rfl) rfl
 | .List es p,f,nm=>All.of H (zl (nL es (uf H es f nm))) (.inl rfl) (.inl rfl) (.inl rfl) rfl
 | .Tuple es k p,f,nm=>All.of H (v7 (nL es (uf H es f nm))) (.inl rfl) (.inl rfl) (.inl rfl) rfl
 | .Slice lo hi st p,f,nm=>by
  have hl:=DZ H lo f nm
  have hh:=DZ H hi f nm
  have hE:aV C K f (.Slice lo hi st p):=cf H nm rfl
  exact⟨hE,ik rfl hE,dS H.ok rfl hE,ig rfl,(fun _ _ h=>by contradiction),(fun _ _ _ h=>by contradiction),fun _ _ _ _ h=>by cases h;exact⟨hl,hh⟩⟩
theorem DZ {C:Ctx} {K:Cfg} {d:Nat} (H:gK C K d):(e:Option Expr)->∀ f,b9 f->xu C K f e
 | none,f,nm=>zr
 | some e,f,nm=>zt (all H e f nm).E
theorem uf {C:Ctx} {K:Cfg} {d:Nat} (H:gK C K d):(es:List Expr)->∀ f,b9 f->∀ e∈es,All C K f e
 | [],f,nm,e,h=>nomatch h
 | x::r,f,nm,e,h=>by
  have h1:=all H x f nm
  have h2:=uf H r f nm
  rcases List.mem_cons.mp h with rfl | h
  .exact h1
  .exact h2 e h
theorem z5 {C:Ctx} {K:Cfg} {d:Nat} (H:gK C K d):(gs:List Comprehension)->∀ f,b9 f->∀ g∈gs,Cu C K f g
 | [],f,nm,e,h=>nomatch h
 | ⟨t,it,ifs,a⟩::r,f,nm,g,h=>by
  have h1:=(all H it f nm).It
  have h2:=uf H ifs f nm
  have h3:=z5 H r f nm
  rcases List.mem_cons.mp h with rfl | h
  .exact⟨h1,fun x hx=>(h2 x hx).T⟩
  .exact h3 g h
end
end Mine
namespace Mine
open PySem PyProof.Rows
section
variable {C:Ctx} {f:Fm} {K:Cfg} {d:Nat}
theorem gK.held (H:gK C K d) (e:Value):gK (C.held e) (noRaise K) d where
 ok:=⟨H.ok.frames,H.ok.depth,H.ok.units,fun h=>h.elim⟩
 bo:=⟨H.bo.ng,H.bo.nb,H.bo.glob⟩
 co:=⟨H.co.count,H.co.inH,H.co.attr⟩
 mo:=⟨H.mo.meth⟩
 ko:=fun a args H Q X h=>h.elim
 lim:=H.lim
 call:=fun f a args vs φ own σ Q X s r w q=>q.elim
 sets:=fun h=>h.elim
 setD:=fun h=>h.elim
 xe:=fun f nm e φ₀=>ae.false
 xs:=fun a b c p sc ro=>rfl
 xc:=fun e sc ro h=>rfl
 ex:=H.ex
 sb:=H.sb
theorem qW.held (tp:qW C f) (e:Value):qW (C.held e) f:=⟨tp.fs,tp.fr,tp.A⟩
theorem BN (H:gK C K d) (nm:b9 f) (t:Expr):qN C K f t:=by
 by_cases h1:t.ctorIdx=23
 .obtain⟨x,p,rfl⟩:=nG h1;exact zf
 by_cases h2:t.ctorIdx=20
 .obtain⟨o,n,p,rfl⟩:=Ad h2;exact ze H.co (all H o f nm).E
 by_cases h3:t.ctorIdx=21
 .obtain⟨o,i,p,rfl⟩:=DS h3
  by_cases hs:aF i=true
  .intro φ₀ v z r
   refine rwE (show awA K (.Subscript o i p) v f.env.scope f.ro=noT from if_pos hs) ?_;exact ae.false
  .exact BL (Bool.eq_false_iff.mpr hs) (all H o f nm).E (all H i f nm).E
 by_cases h4:t.ctorIdx=25
 .obtain⟨es,k,p,rfl⟩:=DV h4;exact vW H.ok
 intro φ₀ v z r
 refine rwE (show awA K t v f.env.scope f.ro=noT from (nH h1).trans ((Ae h2).trans ((DT h3).trans (Cs h4)))) ?_;exact ae.false
theorem tG (H:gK C K d) (nm:b9 f) (ts:List Expr) (e:Expr) (pos:Pos):fK C K f (.Assign ts e pos):=by
 have hts:∀ t∈ts,qN C K f t:=fun t _=>BN H nm t
 by_cases hc:c9 e=true
 .have bad:awE K e f.env.scope f.ro=(fun _ _ _=>False)->fK C K f (.Assign ts e pos):=by
   intro hx φ₀
   have e1:awS K (.Assign ts e pos) f.env.scope f.ro=if aZ e || ts.any isStar then fun _ _ _=>False else (awE K e f.env.scope f.ro).bind fun v=>(jS K v f.env.scope f.ro ts).bind fun _=>Tr.pure .next:=rfl
   refine rwE e1 (rwE hx ?_)
   split
   .exact ae.false
   .exact ae.false
  by_cases h8:e.ctorIdx=8
  .obtain⟨elt,gs,sc,p,rfl⟩:=lcE h8
   induction gs using List.casesOn with
   | nil=>exact bad (H.xc _ _ _ rfl)
   | cons g gs =>
    obtain⟨t,it,ifs,a⟩:=g
    have hg:=z5 H (⟨t,it,ifs,a⟩::gs)
    exact kO H.ok (fun f' nm'=>(all H elt f' nm').E) (hg f nm _ (.head _)).it (fun f' nm' g hg'=>(hg f' nm' g (.tail _ hg')).it) (fun f' nm'=>(hg f' nm' _ (.head _)).ifs) (fun f' nm' g hg'=>(hg f' nm' g (.tail _ hg')).ifs) hts
  by_cases h10:e.ctorIdx=10
  .obtain⟨k,v,gs,sc,p,rfl⟩:=dcE h10
   induction gs using List.casesOn with
   | nil=>exact bad (H.xc _ _ _ rfl)
   | cons g gs =>
    obtain⟨t,it,ifs,a⟩:=g
    have hg:=z5 H (⟨t,it,ifs,a⟩::gs)
    exact kN H.lim H.ok (fun f' nm'=>(all H k f' nm').E) (fun f' nm'=>(all H v f' nm').E) (hg f nm _ (.head _)).it (fun f' nm' g hg'=>(hg f' nm' g (.tail _ hg')).it) (fun f' nm'=>(hg f' nm' _ (.head _)).ifs) (fun f' nm' g hg'=>(hg f' nm' g (.tail _ hg')).ifs) hts
  .have h9:e.ctorIdx=9:=by
    unfold c9 at hc
    rw [Bool.and_eq_true] at hc
    exact ci9 h8 h10 (Nat.le_of_ble_eq_true hc.1) (Nat.le_of_ble_eq_true hc.2)
   obtain⟨a,b,c,p,rfl⟩:=scE h9
   exact bad (H.xc _ _ _ rfl)
 .exact tD (by simpa using hc) (all H e f nm).E hts
theorem gR {s:Stmt} (h:awS K s f.env.scope f.ro=noT):fK C K f s:=fun φ₀=>by refine rwE h ?_;exact ae.false
theorem BY (H:gK C K d) (nm:b9 f) (t:Expr) (op:Operator) (e:Expr) (pos:Pos):fK C K f (.AugAssign t op e pos):=by
 by_cases h1:t.ctorIdx=23
 .obtain⟨x,p,rfl⟩:=nG h1;exact qt (zq H nm x) (all H e f nm).E
 by_cases h2:t.ctorIdx=20
 .obtain⟨o,n,p,rfl⟩:=Ad h2;exact qs H.co (all H o f nm).E (all H e f nm).E
 by_cases h3:t.ctorIdx=21
 .obtain⟨o,i,p,rfl⟩:=DS h3;exact tE (all H o f nm).E (all H i f nm).E (all H e f nm).E
 exact gR ((nH h1).trans ((Ae h2).trans (DT h3)))
theorem BZ (H:gK C K d) (nm:b9 f) (ts:List Expr) (pos:Pos):fK C K f (.Delete ts pos):=by
 match ts with
 | []=>exact fun φ₀=>ae.false
 | [t] =>
  by_cases h3:t.ctorIdx=21
  .obtain⟨o,i,p,rfl⟩:=DS h3;exact BV (all H o f nm).E (all H i f nm).E
  .exact gR (DT h3)
 | a::b::r=>exact gR rfl
theorem wm (H:gK C K d) (nm:b9 f) (e c:Option Expr) (pos:Pos):fK C K f (.Raise e c pos):=by
 induction e with
 | none=>exact gR rfl
 | some e =>
  induction c with
  | some _=>exact gR rfl
  | none =>
   by_cases h:e.ctorIdx=16
   case neg=>exact gR (CE h)
   obtain⟨fe,args,kws,p,rfl⟩:=CD h
   induction kws using List.casesOn with
   | cons=>exact gR rfl
   | nil =>
    by_cases hf:fe.ctorIdx=23
    case neg=>exact gR (nH hf)
    obtain⟨x,q,rfl⟩:=nG hf
    exact wj H.ok H.ex (nK H nm) (mj args (uf H args f nm))
theorem B0 (H:gK C K d) (tp:qW C f) (nm:b9 f) {b:List Stmt} {hs:List ExceptHandler} {o fb:List Stmt} {pos:Pos} (hb:eu C K f b)
  (hh:∀ ty n sb p,.ExceptHandler ty n sb p∈hs->∀ e,eu (C.held e) (noRaise K) f sb):fK C K f (.Try b hs o fb pos):=by
 match hs,o,fb,hh with
 | [],_,_,_=>exact fun φ₀=>ae.false
 | [.ExceptHandler none n sb p],_,_,_=>exact fun φ₀=>ae.false
 | [.ExceptHandler (some t) n sb p],[],[],hh =>
  by_cases ht:t.ctorIdx=23
  case neg=>exact gR (nH ht)
  obtain⟨x,q,rfl⟩:=nG ht
  exact BX H.ok tp H.sb hb (fun e=>pG (C:=C.held e) ⟨H.bo.ng,H.bo.nb,H.bo.glob⟩ nm) (hh _ _ _ _ (.head _))
 | [.ExceptHandler (some t) n sb p],_::_,_,_=>exact gR rfl
 | [.ExceptHandler (some t) n sb p],[],_::_,_=>exact gR rfl
 | .ExceptHandler ty n sb p::_::_,_,_,_=>induction ty<;>exact gR rfl
end
mutual
theorem Ei:(s:Stmt)->∀ {C:Ctx} {K:Cfg} {d:Nat} (H:gK C K d) (f:Fm),qW C f->b9 f->fK C K f s
 | .Expr e p,C,K,d,H,f,tp,nm=>zu (all H e f nm).E
 | .Pass p,C,K,d,H,f,tp,nm=>zv
 | .Break p,C,K,d,H,f,tp,nm=>wi
 | .Continue p,C,K,d,H,f,tp,nm=>nN
 | .Return none p,C,K,d,H,f,tp,nm=>kP
 | .Return (some e) p,C,K,d,H,f,tp,nm=>tF (all H e f nm).E
 | .Assign ts e p,C,K,d,H,f,tp,nm=>tG H nm ts e p
 | .AugAssign t op e p,C,K,d,H,f,tp,nm=>BY H nm t op e p
 | .Delete ts p,C,K,d,H,f,tp,nm=>BZ H nm ts p
 | .If t b o p,C,K,d,H,f,tp,nm=>DN (all H t f nm).T (iq b H f tp nm) (iq o H f tp nm)
 | .While t b o p,C,K,d,H,f,tp,nm=>wk tp (all H t f nm).T (iq b H f tp nm) (iq o H f tp nm)
 | .For t i b o p,C,K,d,H,f,tp,nm=>BW H.ok tp (all H i f nm).It (iq b H f tp nm) (iq o H f tp nm)
 | .Raise e c p,C,K,d,H,f,tp,nm=>wm H nm e c p
 | .Try b hs o fb p,C,K,d,H,f,tp,nm=>B0 H tp nm (iq b H f tp nm) (fun ty n sb p h e=>DY hs (H.held e) f (tp.held e) nm ty n sb p h)
 | .FunctionDef ..,C,K,d,H,f,tp,nm=>fun φ₀=>ae.false
 | .AsyncFunctionDef ..,C,K,d,H,f,tp,nm=>fun φ₀=>ae.false
 | .ClassDef ..,C,K,d,H,f,tp,nm=>fun φ₀=>ae.false
 | .TypeAlias ..,C,K,d,H,f,tp,nm=>fun φ₀=>ae.false
 | .AnnAssign ..,C,K,d,H,f,tp,nm=>fun φ₀=>ae.false
 | .AsyncFor ..,C,K,d,H,f,tp,nm=>fun φ₀=>ae.false
 | .With ..,C,K,d,H,f,tp,nm=>fun φ₀=>ae.false
 | .AsyncWith ..,C,K,d,H,f,tp,nm=>fun φ₀=>ae.false
 | .Match ..,C,K,d,H,f,tp,nm=>fun φ₀=>ae.false
 | .TryStar ..,C,K,d,H,f,tp,nm=>fun φ₀=>ae.false
 | .Assert ..,C,K,d,H,f,tp,nm=>fun φ₀=>ae.false
 | .Import ..,C,K,d,H,f,tp,nm=>fun φ₀=>ae.false
 | .ImportFrom ..,C,K,d,H,f,tp,nm=>fun φ₀=>ae.false
 | .Global ..,C,K,d,H,f,tp,nm=>fun φ₀=>ae.false
 | .Nonlocal ..,C,K,d,H,f,tp,nm=>fun φ₀=>ae.false
theorem iq:(b:List Stmt)->∀ {C:Ctx} {K:Cfg} {d:Nat} (H:gK C K d) (f:Fm),qW C f->b9 f->eu C K f b
 | [],C,K,d,H,f,tp,nm=>zx
 | s::r,C,K,d,H,f,tp,nm=>wx (Ei s H f tp nm) (iq r H f tp nm)
theorem DY:(hs:List ExceptHandler)->∀ {C:Ctx} {K:Cfg} {d:Nat} (H:gK C K d) (f:Fm),qW C f->b9 f->∀ ty n sb p,.ExceptHandler ty n sb p∈hs->eu C K f sb
 | [],C,K,d,H,f,tp,nm,ty,n,sb,p,h=>nomatch h
 | .ExceptHandler ty' n' sb' p'::r,C,K,d,H,f,tp,nm,ty,n,sb,p,h=>by
  have h1:=iq sb' H f tp nm
  have h2:=DY r H f tp nm ty n sb p
  rcases List.mem_cons.mp h with e | h
  .cases e;exact h1
  .exact h2 h
end
end Mine
namespace Mine
open PySem PyProof.Rows
noncomputable def Prog.uE (P:Prog):Cfg:=P.cfg (fun _ _ _ _ _=>False) True
noncomputable def Prog.at (P:Prog) (d:Nat):Cfg:=P.cfg (P.bP d) True
structure jo (B:Base) (P:Prog):Prop where
 bo:jm B P.uE
 co:bB B P.uE
 mo:oA B P.uE
 lim:B.Fw.NoLimit
 fn:∀ a fn,P.fn a=some fn->qP B a fn
 make:∀ c ini,P.fn c=none->P.slots c≠none->P.init c=some ini->oz B c ini
 sets:P.sets->∀ (C:Ctx) d f,C.B=B->a9 C P.uE d->qU C f
 setD:P.sets->∀ (C:Ctx) d f,C.B=B->a9 C P.uE d->∀ K e pos,isStar e=false->aV C K f e->∀ φ₀,ae C f φ₀ (eval (.Set [e] 0 pos) f.env) (DQ (awE K e f.env.scope f.ro)) VR
 xe:∀ (C:Ctx) d f,C.B=B->a9 C P.uE d->b9 f->∀ e φ₀,ae C f φ₀ (eval e f.env) (P.xe e f.env.scope f.ro) VR
 xs:∀ a b c p sc ro,P.xe (.Slice a b c p) sc ro=fun _ _ _=>False
 xc:∀ e sc ro,c9 e=true->P.xe e sc ro=fun _ _ _=>False
 ex:∀ c,P.exc c=true->fW B c
 sb:∀ c tv,P.sub c tv=true->ip B c tv
theorem sE {B:Base} {c ini:Addr} (mk:oz B c ini) {p:Program} {w:World} {A:Around} {s:Shared} (X:B.K.In s.heap):Keeps (model p w) A (.ref c) s:=by
 have m:=PySem.W.makes_of (M:=model p w) X mk.makes
 (refine gP (m.obj) fun oc od cd sl ζ1=>?_;obtain⟨h,_⟩:=ζ1)
 refine⟨.machine,fun Q E q=>?_⟩
 unfold keeperOf
 refine wpAny_bind (wpAny_load h ?_)
 dsimp only
 refine wpAny_bind (m.call A _ E s (fun _ _ e=>e) ?_)
 refine rwE (if_pos (by decide)) ?_
 exact wpAny_pure q
theorem qi {B:Base} {P:Prog} (po:jo B P) (d:Nat):jO B (P.at d):=by
 intro a args H Q X q p w A s hin
 have q:P.bP d a args H Q X:=q
 induction d using Nat.casesOn with
 | zero=>exact q.elim
 | succ d =>
  replace q:iu P (P.bP d) a args H Q X:=q
  unfold iu at q
  induction hf:P.fn a with
  | some fn =>
   refine fh ((po.fn a fn hf).obj) fun o fd hlk hd _=>?_
   exact jC (hin _ _ hlk) hd
  | none =>
   rw [hf] at q
   try dsimp only at q
   induction hs:P.slots a with
   | none=>rw [hs] at q;exact q.elim
   | some sl =>
    induction hi:P.init a with
    | none=>rw [hs,hi] at q;exact q.elim
    | some ini=>exact sE (po.make a ini hf (by refine rwE hs ?_;exact Option.some_ne_none sl) hi) hin
structure qT (C:Ctx) (d:Nat):Prop where
 frames:C.A.frames=some C.fs
 handled:C.A.handled=none
 depth:C.A.depth+6 * d+10 < recursionLimit
 units:C.A.units+60 * d+200 < cLine
theorem qT.ctx {C:Ctx} {d:Nat} (r:qT C d) {K:Cfg}:a9 C K d:=⟨r.frames,r.depth,r.units,fun _=>r.handled⟩
theorem r5 {P:Prog} {C:Ctx} (po:jo C.B P) {d:Nat} (r:qT C d) (ih:∀ f,dg C (P.at d) f):gK C (P.at d) d where
 ok:=r.ctx
 bo:=⟨po.bo.ng,po.bo.nb,po.bo.glob⟩
 co:=⟨po.co.count,po.co.inH,po.co.attr⟩
 mo:=⟨po.mo.meth⟩
 ko:=qi po d
 lim:=po.lim
 call:=ih
 sets:=fun h f=>po.sets h C d f rfl r.ctx
 setD:=fun h f e pos h1 h2=>po.setD h C d f rfl r.ctx _ e pos h1 h2
 xe:=fun f nm e φ₀=>po.xe C d f rfl r.ctx nm e φ₀
 xs:=po.xs
 xc:=po.xc
 ex:=po.ex
 sb:=po.sb
theorem qT.deep {C:Ctx} {d:Nat} {env:Env} (hf:C.A.frames=some C.fs) (hh:C.A.handled=none) (h1:C.A.depth+6 * d+15 < recursionLimit) (h2:C.A.units+60 * d+250 < cLine):qT (C.deep env) d where
 frames:=Around.frames_deeper hf
 handled:=hh
 depth:=by refine (?_:C.A.depth+1+6 * d+10 < recursionLimit);exact E7 h1
 units:=by refine (?_:C.A.units+3+60 * d+200 < cLine);exact E6 h2
theorem rh {P:Prog} {C:Ctx} (po:jo C.B P) {d:Nat} (ih:∀ (C':Ctx),C'.B=C.B->qT C' d->∀ f,dg C' (P.at d) f) {fn:Fn} {a:Addr} (fk:qP C.B a fn) {env:Env} {fas:List Addr} {φ₀:List Addr} (hs:env.scope=fn.scope) (hfr:env.frame≠none)
  (r:qT (C.deep env) d):ae (C.deep env) ⟨env,[],fas⟩ φ₀ (execs fn.body env) (a7 (P.at d) fn.body fn.scope []) FlR:=by
 have H:=r5 (C:=C.deep env) po r (ih _ rfl r)
 have h:=iq fn.body H ⟨env,[],fas⟩ ⟨⟨_,rfl⟩,Option.ne_none_iff_exists'.mp hfr,r.frames⟩ (fun x k hx=>fk.nm x k (by refine rwS hs ?_;exact hx)) φ₀
 refine rwS hs ?_
 exact h
theorem oN {P:Prog} {B:Base} (po:jo B P):∀ (d:Nat) (C:Ctx),C.B=B->qT C d->∀ f,dg C (P.at d) f
 | 0,C,hB,r,f,a,args,vs,φ,own,σ,Q,X,s,rs,w,q=>q.elim
 | d+1,C,hB,r,f,a,args,vs,φ,own,σ,Q,X,s,rs,w,q=>by
  subst hB
  obtain⟨H,m⟩:=σ
  have hd:=r.depth
  have hu:=r.units
  have q:P.bP (d+1) a args H (fun v H'=>Q v ⟨H',m⟩) (fun e H'=>X e ⟨H',m⟩):=q
  replace q:iu P (P.bP d) a args H (fun v H'=>Q v ⟨H',m⟩) (fun e H'=>X e ⟨H',m⟩):=q
  unfold iu at q
  have co:bB C.B (P.at d):=⟨po.co.count,po.co.inH,po.co.attr⟩
  have ih:=oN po d
  induction hf:P.fn a with
  | some fn =>
   rw [hf] at q
   have fk:=po.fn a fn hf
   exact rm (K:=P.at d) co fk r.frames (Fc hd) po.lim (fun env fas φ₀ hs hfr=>rh po (fun C' e r'=>ih C' e r') fk hs hfr (qT.deep r.frames r.handled (by exact G5 hd) (E8 hu))) rs w q
  | none =>
   rw [hf] at q
   try dsimp only at q
   induction hs:P.slots a with
   | none=>rw [hs] at q;exact q.elim
   | some sl =>
    induction hi:P.init a with
    | none=>rw [hs,hi] at q;exact q.elim
    | some ini =>
     rw [hs,hi] at q
     try dsimp only at q
     have mk:=po.make a ini hf (by refine rwE hs ?_;exact Option.some_ne_none sl) hi
     induction hfi:P.fn ini with
     | none=>rw [hfi] at q;exact q.elim
     | some fn =>
      rw [hfi] at q
      have fk:=po.fn ini fn hfi
      refine sO (K:=P.at d) co mk fk r.frames (Ef hd) po.lim (fun A' env fas φ₀ h1 h2 h3 h4 hsc hfr=>?_) rs w q
      refine rh (C:=⟨C.B,C.fs,A'⟩) po (fun C' e r'=>ih C' e r') fk hsc hfr (qT.deep (by refine rwS r.frames ?_;exact h2) (by refine rwS r.handled ?_;exact h1) ?_ ?_)
      .refine (?_:A'.depth+6 * d+15 < recursionLimit);refine rwE h3 ?_;exact Fb hd
      .refine (?_:A'.units+60 * d+250 < cLine);refine rwE h4 ?_;exact E9 hu
end Mine
namespace Mine
open PySem PyProof.Rows
theorem rJ {P:Prog} {B:Base} (po:jo B P) {d:Nat} (hd20:d<=20) {fa:Addr} {fn:Fn} (fk:qP B fa fn) {p:Str} (hva:fn.vararg=none) (hps:fn.params=[p]) (hdf:fn.defaults=[])
  {l:Addr} {vs:Array Value} {xs:List V} (hl:B.Fw.IsList l vs) (hI:VRs [] xs vs.toList) {s:Shared} (hs:s.heap=B.Fw) (hg:s.gens=#[]) (hos:s.os=B.os)
  (q:a7 (P.at d) fn.body fn.scope [] ⟨[.frozen xs],fun x=>if x=p then some (.ref 0) else none⟩ (fun fl σ=>fl=.ret (.bool true)) (fun _ _=>False)) :
  codeAny (model B.prog B.w) callerA (.call (.ref fa) ⟨[.ref l],[]⟩) (fun r s'=>r=.ok (.ret (.bool true))/\B.Fw.StaysIn s'.heap/\s'.os=B.os/\s'.gens=#[]) s:=by
 (refine jh (fk.obj) fun o fd hlk hd hsc ζ1=>?_;refine nk ζ1 fun hbd hcl hgl hbl hcode hbind=>?_;clear ζ1)
 have hst:B.Fw.StaysIn s.heap:=fun b o e=>by refine rwE hs ?_;exact e
 have X0:=In.stays po.co.inH hst
 have ho:=X0 _ _ hlk
 refine codeAny_call_function (by decide) ho hd (by refine rwE hsc ?_;exact fk.co) (by refine rwE hsc ?_;exact fk.gen) hbd (PySem.W.codeRec_of X0 hcode) ?_
 refine rwE hsc (rwE hgl (rwE hcl (rwE hbl ?_)))
 have hb:=hbind (model B.prog B.w) callerA.in1 (fun e s'=>Except.error e=(Except.ok (Flow.ret (.bool true)):Result)/\B.Fw.StaysIn s'.heap/\s'.os=B.os/\s'.gens=#[]) (fun binds Fv=>wpAny (model B.prog B.w) callerA.in1 (newFunctionEnv fn.scope mainGlobals [] binds (fd.qualname++Str.ofString ".<locals>.") (some fa) fd.code none builtinsNs) (fun env FI=>FI.heap.NoLimit/\codeAny (model B.prog B.w) callerA (.func fn.body env) (fun r s'=>r=.ok (.ret (.bool true))/\B.Fw.StaysIn s'.heap/\s'.os=B.os/\s'.gens=#[]) FI) (fun e s'=>Except.error e=(Except.ok (Flow.ret (.bool true)):Result)/\B.Fw.StaysIn s'.heap/\s'.os=B.os/\s'.gens=#[]) Fv) s [.ref l] X0
 replace hb:=((hva) ▸ hb)
 refine ao (hb (by refine rwE hps ?_;exact Nat.le_add_right _ _) (by refine rwE hps ?_;exact Nat.succ_pos _)) fun ds hds hb=>?_
 have hds0:ds=[]:=by
  rw [hdf] at hds
  induction ds using List.casesOn with
  | nil=>rfl
  | cons a b=>rw [List.drop_nil] at hds;exact (hds:False).elim
 subst hds0
 refine hb ?_
 refine rwE hps ?_
 refine (?_:wpAny _ _ (newFunctionEnv fn.scope mainGlobals [] [(p,.ref l)] _ _ _ none builtinsNs) _ _ s)
 have hbnd:fn.scope.names.lookup p=some .local\/fn.scope.names.lookup p=some .cell:=fk.bound p (by refine rwE hps ?_;exact .head _)
 refine wpAny_newFunctionEnv_cells fk.kind (fun x hx=>?_) fun env he Fv x=>?_
 .rw [List.mem_singleton] at hx
  subst hx
  rcases hbnd with h | h
  .exact .inl h
  .exact .inr ⟨h,dh (l:=[]) (fk.cellIn _ h)⟩
 have hsc':env.scope=fn.scope:=by refine rwE he ?_;rfl
 have hL:env.locals=s.heap.objs.size:=by refine rwE he ?_;rfl
 have hcl':env.cells=PySem.cellsFrom (s.heap.objs.size+1) fn.scope.names []:=by refine rwE he ?_;rfl
 have hfrm:env.frame=some s.heap.objs.size:=by refine rwE he ?_;rfl
 have hgl':env.globals=mainGlobals:=by refine rwE he ?_;rfl
 have hbl':env.builtins=builtinsNs:=by refine rwE he ?_;rfl
 (refine bq (x.done) fun FA tk ζ2 FL=>?_;obtain rfl:=ζ2)
 have hcellmem:∀ n c,env.cells.lookup n=some c->(n,c)∈env.cells:=fun n c h=>lookup_mem h
 have habove:∀ n c,env.cells.lookup n=some c->s.heap.objs.size < c:=fun n c h=>by have:=x.above n c (hcellmem n c h);rw [hL] at this;exact this
 have hbase:∀ b,s.heap.objs.size<=b->B.Fw.get? b=none:=fun b hb'=>by
  induction h:B.Fw.get? b with
  | none=>rfl
  | some o=>exact absurd (Heap.lt_size (hst b o h)) (Nat.not_lt.mpr hb')
 have hstay:B.Fw.StaysIn FA:=fun b o e=>FL b o (hst b o e)
 refine⟨by refine ao (po.lim) fun mc h1 h2=>?_;exact⟨mc,Ns.stays h1 hstay,h2⟩,codeAny_func ?_⟩
 have hnd:(([(p,Value.ref l)]:List (Str × Value)).map (·.1)).Nodup:=by exact W.kwDistinct_nodup rfl
 have hm:∀ y,VRp [l] (if y=p then some (V.ref 0) else none) (match ([(p,Value.ref l)]:List (Str × Value)).lookup y with | some v=>some v | none=>none):=by
  intro y v hv
  by_cases hy:y=p
  .subst hy
   rw [if_pos rfl] at hv;cases hv
   exact aW (.ref l) (by simp_all) rfl
  .rw [if_neg hy] at hv;exact nS hv
 have w1:W B [env] ⟨env,[],[s.heap.objs.size]⟩ [l] (fun _=>none) [.frozen xs] (fun x=>if x=p then some (V.ref 0) else none) { s with heap:=FA,toks:=tk }:=by
  refine⟨⟨by refine rwE hsc' ?_;exact fk.kind,hgl',hbl',⟨env,[],_,rfl,hfrm,hfrm⟩,fun y z c h1 h2=>?_,fun y c h1=>?_,?_,fun y c h1=>hbase c (G5 (habove y c h1)),by refine rwE he ?_;exact⟨_,hcode⟩⟩,rfl,fun i o b e1 e2=>?_,hstay,
   (fun b i h=>by exact nS h),fun g hg L hL'=>rfl,rfl,fun y c h1=>⟨rfl,?_⟩,?_,⟨⟨_,x.toInCall.ns,fun y hy=>?_⟩,fun y hy=>?_⟩,hg,hos,fun b=>?_⟩
  .exact name_of_addr x.apart (hcellmem y c h1) (hcellmem z c h2)
  .refine (?_:c≠env.locals);refine rwE hL ?_;exact Nat.ne_of_gt (habove y c h1)
  .refine (?_:B.Fw.get? env.locals=none);refine rwE hL ?_;exact hbase _ (Nat.le_refl _)
  .induction i using Nat.casesOn with
   | zero =>
    simp at e1 e2
    subst e1 e2
    exact⟨vs,hl,hI.mono List.nil_prefix⟩
   | succ i=>exact nS e1
  .refine ao (x.cell y c h1) fun o e _=>?_;exact⟨o,e⟩
  .exact .cons (by refine rwE hsc' (rwE fk.kind ?_);decide) (by exact rwE hfrm (rwS hL rfl)) x.toInCall.ns (by refine rwE hL ?_;exact hbase _ (Nat.le_refl _)) trivial
  .have hy':env.kindOf y=some .local:=hy
   refine rwE (jV _ _ _ hy' hnd) ?_
   exact hm y
  .have hy':env.kindOf y=some .cell:=by
    rcases hy with h | h
    .exact h
    .exact absurd (by have:env.scope.names.lookup y=some .free:=h;rw [hsc'] at this;exact this) (fk.noFree y)
   have hs:(env.cells.lookup y).isSome=true:=by
    refine rwE hcl' ?_
    refine dh (l:=[]) (fk.cellIn _ ?_)
    have:env.scope.names.lookup y=some .cell:=hy'
    rw [hsc'] at this;exact this
   obtain⟨c,hc⟩:=Option.isSome_iff_exists.mp hs
   refine jk c _ hc (x.cell y c hc) ?_
   refine rwE (jU _ _ _ hy' hnd) ?_
   exact hm y
  .simp [hfrm]
 have r:qT ⟨B,[env],callerA.deeper env⟩ d:=by
  refine⟨Around.frames_deeper rfl,rfl,?_,?_⟩
  .refine (?_:(1+claimMargin)+1+6 * d+10 < recursionLimit)
   exact w44 (m:=302) (r:=10) hd20 (by decide)
  .refine (?_:4+3+60 * d+200 < cLine)
   exact w44 (m:=7) (r:=200) hd20 (by decide)
 have H:=r5 (C:=⟨B,[env],callerA.deeper env⟩) po r (oN po d _ rfl r)
 have h:=iq fn.body H ⟨env,[],[s.heap.objs.size]⟩ ⟨⟨_,rfl⟩,⟨_,hfrm⟩,r.frames⟩ (fun x k hx=>fk.nm x k (by refine rwS hsc' ?_;exact hx)) [] [l] (fun _=>none) ⟨[.frozen xs],fun x=>if x=p then some (V.ref 0) else none⟩ (fun fl σ=>fl=.ret (.bool true)) (fun _ _=>False) _ List.nil_prefix w1 (by refine (?_:a7 _ _ env.scope [] _ _ _);refine rwE hsc' ?_;exact q)
 refine wpAny_mono h ?_ ?_
 .rintro fl s2 ⟨φ2,own2,σ2,b,k2,w2,r2,rfl⟩
  induction fl<;>first | exact r2.elim | skip
  rename_i v
  have hv:v=.bool true:=VR.bool r2
  subst hv
  exact AQ rfl w2.stays w2.os w2.gens
 .rintro e s2 x;exact EP.no x
end Mine
namespace Mine
open PySem PyProof.Rows
theorem pQ {α:Type} {n:Str} {v:α}:∀ (l:List Str) (r:List (Str × α)),n∉l->(l.filterMap fun x=>(((n,v)::r).lookup x).map (x,·))=(l.filterMap fun x=>(r.lookup x).map (x,·))
 | [],_,_=>rfl
 | y::l,r,h=>by
  have h1:(y == n)=false:=beq_eq_false_iff_ne.mpr fun e=>h (e ▸ .head _)
  refine rwE List.filterMap_cons (rwE List.filterMap_cons (rwE (pQ l r fun hx=>h (.tail _ hx)) ?_))
  simp only [List.lookup_cons,h1]
theorem jg {α:Type}:∀ (ns:List Str) (vs:List α),ns.Nodup->ns.length<=vs.length->(ns.filterMap fun n=>((ns.zip vs).lookup n).map (n,·))=ns.zip vs
 | [],_,_,_=>by simp
 | n::ns,[],_,h=>by exact absurd h (Nat.not_lt_zero _)
 | n::ns,v::vs,hn,h=>by
  obtain⟨h1,h2⟩:=List.nodup_cons.mp hn
  refine rwE List.zip_cons_cons (rwE List.filterMap_cons (rwE (pQ ns _ h1) (rwE (jg ns vs h2 (by simpa using h)) ?_)))
  simp only [List.lookup_cons,beq_self_eq_true,Option.map_some]
theorem uc {α:Type}:∀ (ns:List Str) (vs:List α),ns.length<=vs.length->∀ n∈ns,((ns.zip vs).lookup n).isNone=false
 | n::ns,[],h,_,_=>by exact absurd h (Nat.not_lt_zero _)
 | n::ns,v::vs,h,x,hx=>by
  refine rwE List.zip_cons_cons (rwE List.lookup_cons ?_)
  induction hq:x == n with
  | true=>rfl
  | false =>
   rcases List.mem_cons.mp hx with e | hx
   .subst e;simp at hq
   .exact uc ns vs (by simpa using h) x hx
theorem t9 {α:Type} {c:Prop} [Decidable c] {M:Model} {A:Around} {t e:Sem α} {Q:α->Shared->Prop} {E:Value->Shared->Prop} {s:Shared} (h:¬ c) (q:wpAny M A e Q E s):wpAny M A (if c then t else e) Q E s:=by refine rwE (if_neg h) ?_;exact q
theorem zP {α β:Type} {l:List α} (h:l=[]) {b:β} {f:α->β->Sem (ForInStep β)} {M:Model} {A:Around} {Q:β->Shared->Prop} {E:Value->Shared->Prop} {s:Shared} (q:Q b s):wpAny M A (forIn l b f) Q E s:=by subst h;exact wpAny_pure q
theorem sV {α:Type} {l:List α} {p:α->Bool} {k:Nat} (h:∀ x∈l,p x=false):¬ ((!((l.take k).filter p).isEmpty)=true):=by
 rw [List.filter_eq_nil_iff.mpr fun x hx=>by rw [h x (List.mem_of_mem_take hx)];exact Bool.false_ne_true];exact Bool.false_ne_true
theorem z6 {b c:Bool} (h:c=true->b=false):¬ ((b && c)=true):=by induction b<;>induction c<;>first | exact Bool.false_ne_true | exact Bool.noConfusion (h rfl)
theorem oG {fd:FuncData} {args:List Arg} {va:Option Arg} {kd:List (Option Expr)} {dd:List Expr} (hp:fd.params=⟨[],args,va,[],kd,none,dd⟩) (hd:fd.defaults=.none) (hn:(args.map (·.arg)).Nodup) {vs:List Value} (hl:args.length<=vs.length) (hl2:va=none->vs.length<=args.length)
  {M:Model} {A:Around} {Q:List (Str × Value)->Shared->Prop} {E:Value->Shared->Prop} {s:Shared}
  (q:match (generalizing:=false) va with | none=>Q ((args.map (·.arg)).zip vs) s | some a=>wpAny M A (PySem.newTuple (vs.drop args.length)) (fun t s'=>Q ((args.map (·.arg)).zip vs++[(a.arg,t)]) s') E s) :
  wpAny M A (bindArgs fd ⟨vs,[]⟩) Q E s:=by
 obtain⟨⟩:=fd
 cases hp;cases hd
 have hm:(args.map (fun x:Arg=>x.arg)).length=args.length:=GX _
 have e2:((args.map (fun x:Arg=>x.arg))++[]).filterMap (fun n=>(((args.map (fun x:Arg=>x.arg)).zip vs).lookup n).map (n,·))=(args.map (fun x:Arg=>x.arg)).zip vs:=by
  refine rwE (List.append_nil ..) ?_;exact jg _ vs hn (hm ▸ hl)
 refine wpAny_bind (wpAny_pure (wpAny_bind (wpAny_pure (t9 (z6 fun h=>?_) (t9 (sV fun n h=>uc _ _ (hm ▸ hl) n h) (wpAny_bind (zP ?_ (wpAny_bind (wpAny_pure ?_)))))))))
 .exact decide_eq_false (Nat.not_lt.mpr (hm ▸ hl2 (Option.isNone_iff_eq_none.mp h)))
 .exact (congrArg _ List.drop_nil).trans List.zip_nil_right
 induction va with
 | none=>exact wpAny_pure (e2.symm ▸ q)
 | some a=>exact wpAny_bind (wpAny_mono (hm ▸ q) (fun t s' h=>wpAny_pure (e2.symm ▸ h)) fun _ _ x=>x)
end Mine
namespace Mine
open PySem PyProof.Rows
noncomputable def i0 (fn:Fn):Bool:=!fn.scope.isCoroutine && !fn.scope.isGenerator && fn.scope.kind == .function && decide ((PySem.cellsFrom 0 fn.scope.names []).map (·.1)).Nodup && fn.scope.names.all (fun p=>p.2 != .free && fE p.1) &&
 decide (fn.params++fn.vararg.toList).Nodup && (fn.params++fn.vararg.toList).all (fun x=>fn.scope.names.lookup x == some .local || fn.scope.names.lookup x == some .cell)
theorem rS {B:Base} {a:Addr} {fn:Fn} (hs:i0 fn=true)
  (ho:∃ o fd,B.K.lookup a=some o/\o.data=.func fd/\fd.scope=fn.scope/\fd.body=.stmts fn.body/\fd.closure=[]/\fd.globals=mainGlobals/\fd.builtins=builtinsNs/\PySem.W.codeIn B.K fd.code fd.qualname=true /\
  ∀ (M:Model) (A:Around) (E:Value->Shared->Prop) (Q:List (Str × Value)->Shared->Prop) (s:Shared) (vs:List Value),B.K.In s.heap->match fn.vararg with
   | none=>fn.params.length<=vs.length+fn.defaults.length->vs.length<=fn.params.length->∃ ds,VRs [] (fn.defaults.drop (fn.defaults.length - (fn.params.length - vs.length))) ds/\(Q (fn.params.zip (vs++ds)) s->wpAny M A (bindArgs fd ⟨vs,[]⟩) Q E s)
   | some va=>fn.defaults=[]/\(fn.params.length<=vs.length->wpAny M A (PySem.newTuple (vs.drop fn.params.length)) (fun t s'=>Q (fn.params.zip vs++[(va,t)]) s') E s->wpAny M A (bindArgs fd ⟨vs,[]⟩) Q E s)):qP B a fn:=by
 unfold i0 at hs
 simp only [Bool.and_eq_true,Bool.not_eq_true',beq_iff_eq,decide_eq_true_eq,List.all_eq_true,bne_iff_ne,Bool.or_eq_true] at hs
 obtain⟨⟨⟨⟨⟨⟨h1,h2⟩,h3⟩,h4⟩,h5⟩,h6⟩,h7⟩:=hs
 exact⟨ho,h1,h2,h3,h4,fun x hx=>by
  obtain⟨c,hc⟩:=cD fn.scope.names 0 x (lookup_mem hx)
  exact List.mem_map.mpr ⟨_,hc,rfl⟩,fun x hx=>(h5 _ (lookup_mem hx)).1 rfl,fun x k hx=>(h5 _ (lookup_mem hx)).2,h6,h7⟩
theorem ki {B:Base} {a:Addr} {fn:Fn} {o:Obj} {fd:FuncData} {args:List Arg} {va:Option Arg} {kd:List (Option Expr)} {dd:List Expr} (hs:i0 fn=true) (hK:B.K.lookup a=some o) (hd:o.data=.func fd) (hsc:fd.scope=fn.scope) (hb:fd.body=.stmts fn.body) (hcl:fd.closure=[])
  (hg:fd.globals=mainGlobals) (hbl:fd.builtins=builtinsNs) (hcode:PySem.W.codeIn B.K fd.code fd.qualname=true) (hp:fd.params=⟨[],args,va,[],kd,none,dd⟩) (hdf:fd.defaults=.none) (hps:fn.params=args.map (·.arg)) (hva:fn.vararg=va.map (·.arg)) (hfd:fn.defaults=[]):qP B a fn:=by
 refine rS hs ⟨o,fd,hK,hd,hsc,hb,hcl,hg,hbl,hcode,fun M A E Q s vs hin=>?_⟩
 have hn:(args.map (·.arg)).Nodup:=by
  unfold i0 at hs
  simp only [Bool.and_eq_true,decide_eq_true_eq] at hs
  have:=hs.1.2
  rw [hps] at this
  exact (List.nodup_append.mp this).1
 have hl:fn.params.length=args.length:=by refine rwE hps ?_;exact GX _
 refine rwE hva (rwE hfd ?_)
 induction va with
 | none =>
  intro h1 h2
  refine aW ([]) (by refine rwE List.drop_nil ?_;exact trivial) (fun q=>?_)
  exact oG hp hdf hn (hl ▸ h1) (fun _=>hl ▸ h2) (by rw [hps,List.append_nil] at q;exact q)
 | some a =>
  refine⟨rfl,fun h1 q=>?_⟩
  exact oG hp hdf hn (hl ▸ h1) (fun h=>sN h) (by rw [hps,GX] at q;exact q)
theorem rR {B:Base} {a:Addr} {fn:Fn} {o:Obj} {fd:FuncData} {a1 a2:Arg} {kd:List (Option Expr)} {dd:List Expr} (hs:i0 fn=true) (hK:B.K.lookup a=some o) (hd:o.data=.func fd) (hsc:fd.scope=fn.scope) (hb:fd.body=.stmts fn.body) (hcl:fd.closure=[])
  (hg:fd.globals=mainGlobals) (hbl:fd.builtins=builtinsNs) (hcode:PySem.W.codeIn B.K fd.code fd.qualname=true) (hp:fd.params=⟨[],[a1,a2],none,[],kd,none,dd⟩) {t:Addr} {ot:Obj} {n:Nat} (hdf:fd.defaults=.ref t) (hT:B.K.lookup t=some ot) (hTd:ot.data=.seq #[.none] n)
  (hb1:∀ M A E (Q:List (Str × Value)->Shared->Prop) s x,(∀ {Q':Option (Array Value)->Shared->Prop},Q' (some #[.none]) s->wpAny M A (seqItems? (.ref t)) Q' E s)->Q [(a1.arg,x),(a2.arg,.none)] s->wpAny M A (bindArgs fd ⟨[x],[]⟩) Q E s)
  (hb2:∀ M A E (Q:List (Str × Value)->Shared->Prop) s x y,(∀ {Q':Option (Array Value)->Shared->Prop},Q' (some #[.none]) s->wpAny M A (seqItems? (.ref t)) Q' E s)->Q [(a1.arg,x),(a2.arg,y)] s->wpAny M A (bindArgs fd ⟨[x,y],[]⟩) Q E s)
  (hps:fn.params=[a1.arg,a2.arg]) (hva:fn.vararg=none) (hfd:fn.defaults=[.none]):qP B a fn:=by
 refine rS hs ⟨o,fd,hK,hd,hsc,hb,hcl,hg,hbl,hcode,fun M A E Q s vs hin=>?_⟩
 refine rwE hva (rwE hfd (rwE hps ?_))
 intro h1 h2
 have hseq:∀ {Q:Option (Array Value)->Shared->Prop},Q (some #[.none]) s->wpAny M A (seqItems? (.ref t)) Q E s:=by
  intro Q q
  unfold seqItems?
  refine wpAny_bind (wpAny_load (hin _ _ hT) ?_)
  refine rwE hTd ?_
  exact wpAny_pure q
 match vs,h1,h2 with
 | [],h1,_=>exact absurd h1 (by exact Nat.not_succ_le_self (List.length [Arg.arg a2]))
 | [x],_,_=>exact aW ([.none]) ⟨trivial,trivial⟩ (fun q=>hb1 M A E Q s x hseq q)
 | [x,y],_,_=>exact aW ([]) trivial (fun q=>hb2 M A E Q s x y hseq q)
 | _::_::_::_,_,h2=>exact absurd h2 (by simp_all)
end Mine
namespace Mine
open PySem PySem.W PyProof.Rows
set_option maxHeartbeats 8000000
noncomputable def pw:Program:=PySem.Challenge.pw_mj0226_02
noncomputable def q0:Program:=view pw [0,2,4,5,6,7,8,10,11,12,13,14,15,16]
noncomputable def top (i:Nat):Stmt:=pw.main.body.getD i default
noncomputable def rn (s:Stmt):List Stmt:=if h:s.ctorIdx=2 then Stmt.ClassDef.elim (motive_2:=fun _=>List Stmt) s h fun _ _ _ b _ _ _ _ _ _ _=>b else []
noncomputable def mem (i j:Nat):Stmt:=(rn (top i)).getD j default
noncomputable def fdOf (s:Stmt) (q:Str) (pm code dflt:Value):FuncData:=if h:s.ctorIdx=0 then Stmt.FunctionDef.elim (motive_2:=fun _=>FuncData) s h fun n a b _ _ _ sc _ _ _=>⟨n,q,a,.stmts b,sc,mainGlobals,[],dflt,.none,.none,pm,none,code,.none,builtinsNs⟩
 else default
noncomputable def st (s:String):Str:=Str.ofString s
noncomputable def sv (s:String) (t:Nat):Value:=.str (Str.ofString s) t
noncomputable def de (P:Params) (s:String) (t:Nat) (v:Value):DictEntry:=⟨PyData.keyHash P (Str.ofString s),sv s t,v⟩
noncomputable def co (a:Addr) (l:List Value):Addr × Obj:=(a,⟨.type "code",none,.fields l.toArray,#[]⟩)
noncomputable def di (a:Addr) (l:List DictEntry) (n:Nat):Addr × Obj:=(a,⟨.type "dict",none,.dict l.toArray n,#[]⟩)
noncomputable def fu (a:Addr) (s:Stmt) (q:String) (pm:Value) (c:Addr) (d:Value):Addr × Obj:=(a,⟨.type "function",none,.func (fdOf s (st q) pm (.ref c) d),#[]⟩)
noncomputable def x6 (P:Params):Frag:=[
(2,⟨.none,none,(.dict (List.toArray []) 0),List.toArray []⟩),
di 3 [de P "__name__" 165 (sv "law_mj0226_02" 384),de P "__doc__" 166 .none,de P "__package__" 167 .none,de P "__loader__" 168 (.builtin "__main__.__loader__#opaque"),de P "__spec__" 169 .none,de P "__annotations__" 170 (.ref 6),de P "__builtins__" 171 (.ref 4),de P "__file__" 173 (sv "/claim/cut.py" 172),de P "__cached__" 174 .none,de P "_wall" 193 (.ref 21),de P "_c3_merge" 201 (.ref 26),de P "_NODE_OUT" 206 (.int (-1) 205),de P "_NODE_DONE" 209 (.int (-2) 208),de P "_NodeInfo" 246 (.ref 45),de P "CycleError" 264 (.ref 60),de P "TopologicalSorter" 383 (.ref 142),de P "_law_rows" 391 (.ref 151),de P "_law_sorter" 403 (.ref 158),de P "_law_smooth" 410 (.ref 165),de P "_law_given" 419 (.ref 172),de P "_law_drawn" 432 (.ref 179),de P "_law_others" 438 (.ref 184),de P "law" 444 (.ref 189)] 23,
co 25 [(sv "_c3_merge" 196),(sv "_c3_merge" 197),(sv "/claim/cut.py" 198),(.int 5 0),(.int 1 0),(.int 0 0),(.int 0 0),(.int 3 0),(.ref 22),(.bool true),(.int 181 0),(.ref 23),.none,.none,.none,(.ref 24),(.int 199 0),(.int 5 0),(sv "/claim/cut.py" 200)],
fu 26 (top 2) "_c3_merge" (sv "cpy313.functools" 194) 25 .none,
co 40 [(sv "__init__" 226),(sv "_NodeInfo.__init__" 227),(sv "/claim/cut.py" 228),(.int 31 0),(.int 2 0),(.int 0 0),(.int 0 0),(.int 3 0),(.ref 35),(.bool true),(.int 181 0),(.ref 36),.none,(.ref 37),(.ref 38),(.ref 39),(.int 231 0),(.int 31 0),(sv "/claim/cut.py" 232)],
fu 41 (mem 6 1) "_NodeInfo.__init__" (sv "cpy313.graphlib" 202) 40 .none,
di 44 [de P "__module__" 217 (sv "cpy313.graphlib" 202),de P "__firstlineno__" 221 (.int 28 220),de P "__slots__" 225 (.ref 34),de P "__init__" 233 (.ref 41),de P "__static_attributes__" 237 (.ref 42),de P "node" 239 (.ref 46),de P "npredecessors" 241 (.ref 47),de P "successors" 243 (.ref 48),de P "__doc__" 244 .none] 5,
(45,⟨(.type "type"),none,(.cls { name:=(st "_NodeInfo"),bases:=[(.type "object")],mro:=[(.ref 45),(.type "object")],ns:=44,qualname:=(st "_NodeInfo"),hasDict:=false,slotNames:=[(st "node"),(st "npredecessors"),(st "successors")],subclasses:=[],abstract:=false,collection:=none,hasDel:=false }),List.toArray [none,none,some (sv "_NodeInfo" 210),some (sv "_NodeInfo" 218),some (.builtin "object.__new__"),some (.bool false)]⟩),
(46,⟨(.type "member_descriptor"),none,(.fields (List.toArray [(sv "node" 238),(.ref 45),(.builtin "proto.slot"),(.builtin "proto.slot#set"),(.int 2 0)])),List.toArray []⟩),
(47,⟨(.type "member_descriptor"),none,(.fields (List.toArray [(sv "npredecessors" 240),(.ref 45),(.builtin "proto.slot"),(.builtin "proto.slot#set"),(.int 1 0)])),List.toArray []⟩),
(48,⟨(.type "member_descriptor"),none,(.fields (List.toArray [(sv "successors" 242),(.ref 45),(.builtin "proto.slot"),(.builtin "proto.slot#set"),(.int 0 0)])),List.toArray []⟩),
di 59 [de P "__module__" 254 (sv "cpy313.graphlib" 202),de P "__firstlineno__" 258 (.int 35 257),de P "__static_attributes__" 259 (.ref 58),de P "__weakref__" 261 (.ref 61),de P "__doc__" 262 .none] 3,
(60,⟨(.type "type"),none,(.cls { name:=(st "CycleError"),bases:=[(.type "ValueError")],mro:=[(.ref 60),(.type "ValueError"),(.type "Exception"),(.type "BaseException"),(.type "object")],ns:=59,qualname:=(st "CycleError"),hasDict:=true,slotNames:=[],subclasses:=[],abstract:=false,collection:=none,hasDel:=false }),List.toArray [some (.ref 51),none,some (sv "CycleError" 247),some (sv "CycleError" 255),some (.builtin "ValueError.__new__"),some (.bool true)]⟩),
(71,⟨(.type "tuple"),none,(.seq (List.toArray [.none]) 0),List.toArray []⟩),
co 77 [(sv "__init__" 277),(sv "TopologicalSorter.__init__" 278),(sv "/claim/cut.py" 279),(.int 39 0),(.int 2 0),(.int 0 0),(.int 0 0),(.int 3 0),(.ref 72),(.bool true),(.int 181 0),(.ref 73),.none,(.ref 74),(.ref 75),(.ref 76),(.int 284 0),(.int 39 0),(sv "/claim/cut.py" 285)],
fu 78 (mem 8 0) "TopologicalSorter.__init__" (sv "cpy313.graphlib" 202) 77 (.ref 71),
co 84 [(sv "_get_nodeinfo" 287),(sv "TopologicalSorter._get_nodeinfo" 288),(sv "/claim/cut.py" 289),(.int 48 0),(.int 2 0),(.int 0 0),(.int 0 0),(.int 3 0),(.ref 79),(.bool true),(.int 181 0),(.ref 80),.none,(.ref 81),(.ref 82),(.ref 83),(.int 293 0),(.int 48 0),(sv "/claim/cut.py" 294)],
fu 85 (mem 8 1) "TopologicalSorter._get_nodeinfo" (sv "cpy313.graphlib" 202) 84 .none,
co 91 [(sv "add" 296),(sv "TopologicalSorter.add" 297),(sv "/claim/cut.py" 298),(.int 53 0),(.int 2 0),(.int 0 0),(.int 0 0),(.int 7 0),(.ref 86),(.bool true),(.int 181 0),(.ref 87),.none,(.ref 88),(.ref 89),(.ref 90),(.int 305 0),(.int 53 0),(sv "/claim/cut.py" 306)],
fu 92 (mem 8 2) "TopologicalSorter.add" (sv "cpy313.graphlib" 202) 91 .none,
co 96 [(sv "prepare" 308),(sv "TopologicalSorter.prepare" 309),(sv "/claim/cut.py" 310),(.int 62 0),(.int 1 0),(.int 0 0),(.int 0 0),(.int 3 0),(.ref 93),(.bool true),(.int 181 0),(.ref 94),.none,.none,.none,(.ref 95),(.int 311 0),(.int 62 0),(sv "/claim/cut.py" 312)],
fu 97 (mem 8 3) "TopologicalSorter.prepare" (sv "cpy313.graphlib" 202) 96 .none,
co 103 [(sv "get_ready" 314),(sv "TopologicalSorter.get_ready" 315),(sv "/claim/cut.py" 316),(.int 70 0),(.int 1 0),(.int 0 0),(.int 0 0),(.int 3 0),(.ref 98),(.bool true),(.int 181 0),(.ref 99),.none,(.ref 100),(.ref 101),(.ref 102),(.int 321 0),(.int 70 0),(sv "/claim/cut.py" 322)],
fu 104 (mem 8 4) "TopologicalSorter.get_ready" (sv "cpy313.graphlib" 202) 103 .none,
co 124 [(sv "done" 338),(sv "TopologicalSorter.done" 339),(sv "/claim/cut.py" 340),(.int 89 0),(.int 1 0),(.int 0 0),(.int 0 0),(.int 7 0),(.ref 119),(.bool true),(.int 181 0),(.ref 120),.none,(.ref 121),(.ref 122),(.ref 123),(.int 349 0),(.int 89 0),(sv "/claim/cut.py" 350)],
fu 125 (mem 8 7) "TopologicalSorter.done" (sv "cpy313.graphlib" 202) 124 .none,
co 131 [(sv "_find_cycle" 352),(sv "TopologicalSorter._find_cycle" 353),(sv "/claim/cut.py" 354),(.int 112 0),(.int 1 0),(.int 0 0),(.int 0 0),(.int 3 0),(.ref 126),(.bool true),(.int 181 0),(.ref 127),.none,(.ref 128),(.ref 129),(.ref 130),(.int 362 0),(.int 112 0),(sv "/claim/cut.py" 363)],
fu 132 (mem 8 8) "TopologicalSorter._find_cycle" (sv "cpy313.graphlib" 202) 131 .none,
di 141 [de P "__module__" 272 (sv "cpy313.graphlib" 202),de P "__firstlineno__" 276 (.int 37 275),de P "__init__" 286 (.ref 78),de P "_get_nodeinfo" 295 (.ref 85),de P "add" 307 (.ref 92),de P "prepare" 313 (.ref 97),de P "get_ready" 323 (.ref 104),de P "is_active" 330 (.ref 111),de P "__bool__" 337 (.ref 118),de P "done" 351 (.ref 125),de P "_find_cycle" 364 (.ref 132),de P "static_order" 371 (.ref 139),de P "__static_attributes__" 376 (.ref 140),de P "__dict__" 378 (.ref 143),de P "__weakref__" 380 (.ref 144),de P "__doc__" 381 .none] 4,
(142,⟨(.type "type"),none,(.cls { name:=(st "TopologicalSorter"),bases:=[(.type "object")],mro:=[(.ref 142),(.type "object")],ns:=141,qualname:=(st "TopologicalSorter"),hasDict:=true,slotNames:=[],subclasses:=[],abstract:=false,collection:=none,hasDel:=false }),List.toArray [none,none,some (sv "TopologicalSorter" 265),some (sv "TopologicalSorter" 273),some (.builtin "object.__new__"),some (.bool true)]⟩),
co 150 [(sv "_law_rows" 386),(sv "_law_rows" 387),(sv "/claim/cut.py" 388),(.int 144 0),(.int 1 0),(.int 0 0),(.int 0 0),(.int 3 0),(.ref 147),(.bool true),(.int 181 0),(.ref 148),.none,.none,.none,(.ref 149),(.int 389 0),(.int 144 0),(sv "/claim/cut.py" 390)],
fu 151 (top 10) "_law_rows" (sv "law_mj0226_02" 384) 150 .none,
co 157 [(sv "_law_sorter" 392),(sv "_law_sorter" 393),(sv "/claim/cut.py" 394),(.int 160 0),(.int 2 0),(.int 0 0),(.int 0 0),(.int 3 0),(.ref 152),(.bool true),(.int 181 0),(.ref 153),.none,(.ref 154),(.ref 155),(.ref 156),(.int 401 0),(.int 160 0),(sv "/claim/cut.py" 402)],
fu 158 (top 11) "_law_sorter" (sv "law_mj0226_02" 384) 157 .none,
co 164 [(sv "_law_smooth" 404),(sv "_law_smooth" 405),(sv "/claim/cut.py" 406),(.int 167 0),(.int 1 0),(.int 0 0),(.int 0 0),(.int 3 0),(.ref 159),(.bool true),(.int 181 0),(.ref 160),.none,(.ref 161),(.ref 162),(.ref 163),(.int 408 0),(.int 167 0),(sv "/claim/cut.py" 409)],
fu 165 (top 12) "_law_smooth" (sv "law_mj0226_02" 384) 164 .none,
co 171 [(sv "_law_given" 411),(sv "_law_given" 412),(sv "/claim/cut.py" 413),(.int 173 0),(.int 1 0),(.int 0 0),(.int 0 0),(.int 3 0),(.ref 166),(.bool true),(.int 181 0),(.ref 167),.none,(.ref 168),(.ref 169),(.ref 170),(.int 417 0),(.int 173 0),(sv "/claim/cut.py" 418)],
fu 172 (top 13) "_law_given" (sv "law_mj0226_02" 384) 171 .none,
co 178 [(sv "_law_drawn" 420),(sv "_law_drawn" 421),(sv "/claim/cut.py" 422),(.int 181 0),(.int 3 0),(.int 0 0),(.int 0 0),(.int 3 0),(.ref 173),(.bool true),(.int 181 0),(.ref 174),.none,(.ref 175),(.ref 176),(.ref 177),(.int 430 0),(.int 181 0),(sv "/claim/cut.py" 431)],
fu 179 (top 14) "_law_drawn" (sv "law_mj0226_02" 384) 178 .none,
co 183 [(sv "_law_others" 433),(sv "_law_others" 434),(sv "/claim/cut.py" 435),(.int 191 0),(.int 3 0),(.int 0 0),(.int 0 0),(.int 3 0),(.ref 180),(.bool true),(.int 181 0),(.ref 181),.none,.none,.none,(.ref 182),(.int 436 0),(.int 191 0),(sv "/claim/cut.py" 437)],
fu 184 (top 15) "_law_others" (sv "law_mj0226_02" 384) 183 .none,
co 188 [(sv "law" 439),(sv "law" 440),(sv "/claim/cut.py" 441),(.int 205 0),(.int 1 0),(.int 0 0),(.int 0 0),(.int 3 0),(.ref 185),(.bool true),(.int 181 0),(.ref 186),.none,.none,.none,(.ref 187),(.int 442 0),(.int 205 0),(sv "/claim/cut.py" 443)],
fu 189 (top 16) "law" (sv "law_mj0226_02" 384) 188 .none]
noncomputable def AP:List Addr:=[2,3,25,26,40,41,44,45,46,47,48,59,60,71,77,78,84,85,91,92,96,97,103,104,124,125,131,132,141,142,150,151,157,158,164,165,171,172,178,179,183,184,188,189]
noncomputable def hk:Hook:=kHook x6 AP fun _=>rfl
theorem B7:PySem.Challenge.rw_mj0226_02.row.wellSaid=true:=by decide +kernel
theorem left:LeftO pw q0 [st "_NodeInfo"] (fun s=>xlAt q0 [] s && recOk (RowW.records (OpenRow.toRowW (OpenLaw.row PySem.Challenge.rw_mj0226_02))) s) hk.obs hk.val 2712:=fun w=>by
 obtain⟨s,h1,h2⟩:=Option.map_eq_some_iff.mp (boot_open (p:=pw) (N:=2712) rfl rfl (fun s=>rfl) w)
 have h3:∀ os,(topFrom treeTable pw w 2712 ⟨boot_heap w.params,Array.mk [],boot_drawn,boot_toks,os⟩).map (fun s=>(openSeen q0 [st "_NodeInfo"] (importedModules pw.main.body) (fun s=>xlAt q0 [] s && recOk (RowW.records (OpenRow.toRowW (OpenLaw.row PySem.Challenge.rw_mj0226_02))) s) true s,hk.obs s))=some (openGood q0 [st "_NodeInfo"],hk.val w):=by
  intro os
  kernel_rfl
 unfold openEnds
 rw [h1]
 obtain⟨e1,e2⟩:=Prod.mk.inj h2
 obtain⟨e2,e3⟩:=Prod.mk.inj e2
 obtain⟨e3,e4⟩:=Prod.mk.inj e3
 cases s
 dsimp only at e1 e2 e3 e4
 cases e1;cases e2;cases e3;cases e4
 exact h3 _
end Mine
namespace Mine
open PySem PyProof.Rows
noncomputable def oV (s:Stmt):Option Fn:=if h:s.ctorIdx=0 then Stmt.FunctionDef.elim (motive_2:=fun _=>Option Fn) s h fun _ a b _ _ _ sc _ _ _=>some ⟨a.args.map (·.arg),a.vararg.map (·.arg),[],b,sc⟩ else none
noncomputable def fnN (k:Nat):Fn:=((pw.main.body[k]?).bind oV).getD ⟨[],none,[],[],default⟩
noncomputable def lW (c k:Nat):Fn:=(((pw.main.body[c]?).map rn).bind fun b=>(b[k]?).bind oV).getD ⟨[],none,[],[],default⟩
noncomputable def oK:Fn:=fnN 2
noncomputable def pe:Fn:=lW 6 1
noncomputable def jd:Fn:={ lW 8 0 with defaults:=[.none] }
noncomputable def wL:Fn:=lW 8 1
noncomputable def wK:Fn:=lW 8 2
noncomputable def mP:Fn:=lW 8 3
noncomputable def kX:Fn:=lW 8 4
noncomputable def cB:Fn:=lW 8 7
noncomputable def fH:Fn:=lW 8 8
noncomputable def aC3:Addr:=26
noncomputable def aNI:Addr:=45
noncomputable def aCE:Addr:=60
noncomputable def aTS:Addr:=142
noncomputable def cz:List Str:=[Str.ofString "node",Str.ofString "npredecessors",Str.ofString "successors"]
noncomputable def eU:List Str:=[Str.ofString "_node2info",Str.ofString "_ready_nodes",Str.ofString "_npassedout",Str.ofString "_nfinished"]
noncomputable def uG:Addr->Option Cls:=fun a=>if a=aNI then some ⟨some cz,cz⟩ else if a=aTS then some ⟨none,eU⟩ else none
noncomputable def rU:List (Str × V):=[(Str.ofString "_c3_merge",.glob aC3),(Str.ofString "_NODE_OUT",.int (-1)),(Str.ofString "_NODE_DONE",.int (-2)),(Str.ofString "_NodeInfo",.glob aNI),(Str.ofString "CycleError",.glob aCE),(Str.ofString "TopologicalSorter",.glob aTS),
 (Str.ofString "_law_rows",.glob 151),(Str.ofString "_law_sorter",.glob 158),(Str.ofString "_law_smooth",.glob 165),(Str.ofString "_law_given",.glob 172),(Str.ofString "_law_drawn",.glob 179),(Str.ofString "_law_others",.glob 184)]
noncomputable def oJ:List (Str × V):=[(Str.ofString "ValueError",.ty "ValueError"),(Str.ofString "RuntimeError",.ty "RuntimeError"),(Str.ofString "StopIteration",.ty "StopIteration"),(Str.ofString "len",.bi "len"),(Str.ofString "iter",.bi "iter"),
 (Str.ofString "set",.ty "set"),(Str.ofString "tuple",.ty "tuple"),(Str.ofString "list",.ty "list"),(Str.ofString "range",.ty "range"),(Str.ofString "enumerate",.ty "enumerate"),(Str.ofString "zip",.ty "zip"),(Str.ofString "str",.ty "str"),
 (Str.ofString "sorted",.bi "sorted"),(Str.ofString "divmod",.bi "divmod"),(Str.ofString "max",.bi "max"),(Str.ofString "sum",.bi "sum")]
noncomputable def nF:List (Str × Addr):=[(Str.ofString "_get_nodeinfo",85),(Str.ofString "add",92),(Str.ofString "prepare",97),(Str.ofString "get_ready",104),(Str.ofString "done",125),(Str.ofString "_find_cycle",132)]
noncomputable def AE:List (Addr × Fn):=[(aC3,oK),(41,pe),(78,jd),(85,wL),(92,wK),(97,mP),(104,kX),(125,cB),(132,fH),(151,fnN 10),(158,fnN 11),(165,fnN 12),(172,fnN 13),(179,fnN 14),(184,fnN 15),(189,fnN 16)]
noncomputable def prog:Prog where
 glob:=fun x=>(rU++oJ).lookup x
 meth:=fun c x=>if c=aTS then nF.lookup x else none
 init:=fun c=>if c=aNI then some 41 else if c=aTS then some 78 else none
 slots:=fun c=>(uG c).map (·.slots)
 attr:=fun c x=>(c == aNI && cz.contains x) || (c == aTS && eU.contains x)
 exc:=fun v=>[V.ty "ValueError",.ty "RuntimeError",.glob aCE].contains v
 sub:=fun c t=>decide (c=t) && [V.ty "ValueError",.ty "RuntimeError",.ty "StopIteration",.glob aCE].contains c
 fn:=fun a=>AE.lookup a
 sets:=False
 xe:=fun _ _ _ _ _ _=>False
section
variable {w:World} {Fv:Shared} {mg mb:Str->Option Value}
noncomputable def base (w:World) (Fv:Shared) (mg mb:Str->Option Value):Base where
 prog:=PySem.Challenge.rw_mj0226_02.row.prog
 w:=w
 Fw:=Fv.heap
 K:=x6 w.params
 os:=Fv.os
 cls:=uG
 mg:=mg
 mb:=mb
theorem mem_lookup {α:Type}:∀ {l:List (Addr × α)} {a:Addr} {v:α},l.lookup a=some v->(a,v)∈l
 | [],_,_,h=>by cases h
 | (y,u)::r,x,v,h=>by
  rw [List.lookup] at h
  induction hq:x == y with
  | true=>rw [hq] at h;cases h;refine rwE (beq_iff_eq.mp hq) ?_;exact .head _
  | false=>rw [hq] at h;exact .tail _ (mem_lookup h)
theorem Co {α:Type} {P:α->Prop}:∀ p∈([]:List α),P p:=fun _ h=>nomatch h
theorem xy {α:Type} {P:α->Prop} {a:α} {l:List α} (h:P a) (k:∀ p∈l,P p):∀ p∈a::l,P p:=List.forall_mem_cons.mpr ⟨h,k⟩
theorem AN:∀ p∈AE,qP (base w Fv mg mb) p.1 p.2:=by
 refine xy ?_ (xy ?_ (xy ?_ ?_))
 .exact ki (by kernel_rfl) rfl rfl rfl rfl rfl rfl rfl (by kernel_rfl) rfl rfl rfl rfl rfl
 .exact ki (by kernel_rfl) rfl rfl rfl rfl rfl rfl rfl (by kernel_rfl) rfl rfl rfl rfl rfl
 .exact rR (by kernel_rfl) rfl rfl rfl rfl rfl rfl rfl (by kernel_rfl) rfl rfl rfl rfl (fun M A E Q s x hs q=>wpAny_bind (wpAny_pure (wpAny_bind (hs (wpAny_pure q))))) (fun M A E Q s x y hs q=>wpAny_bind (wpAny_pure (wpAny_bind (hs (wpAny_pure q))))) rfl rfl rfl
 repeat' (first | exact Co | refine xy ?_ ?_)
 all_goals exact ki (by kernel_rfl) rfl rfl rfl rfl rfl rfl rfl (by kernel_rfl) rfl rfl rfl rfl rfl
theorem AO (a:Addr) (fn:Fn) (h:prog.fn a=some fn):qP (base w Fv mg mb) a fn:=AN (a,fn) (mem_lookup h)
theorem iN {α:Type} {P:Str->α->Prop} {l:List (Str × α)} (h:∀ p∈l,P p.1 p.2):∀ (x:Str) (v:α),l.lookup x=some v->P x v:=fun x v e=>h _ (lookup_mem e)
theorem Bv {es:Array DictEntry} {n:Nat} {o:Obj} (hN:Fv.heap.Ns mainGlobals mg) (hK:Fv.heap.get? mainGlobals=some o) (hd:o.data=.dict es n) (x:Str):mg x=nsFind es x:=by
 (refine eE hN fun o' es' ep ζ1=>?_;clear hN;refine ek ζ1 fun g hd' hk hm=>?_;clear ζ1)
 rw [hK] at g;cases g
 rw [hd] at hd';cases hd'
 exact (hm x).symm
theorem xN (KX:(x6 w.params).In Fv.heap) (hN:Fv.heap.Ns mainGlobals mg) (hB:Fv.heap.Ns builtinsNs mb) (hb:∀ x:Str,x≠Str.ofString "__name__" -> mb x=bootBuiltins x):jm (base w Fv mg mb) prog.uE where
 ng:=hN
 nb:=hB
 glob:=by
  have hm:=Bv hN (KX mainGlobals _ rfl) rfl
  refine iN (l:=rU++oJ) (List.forall_mem_append.mpr ⟨?_,?_⟩)
  .repeat' (first | exact Co | refine xy ?_ ?_)
   all_goals first
    | exact aW (.ref _) rfl (.inl ((hm _).trans (by kernel_rfl)))
    | exact aW (.int (-1) 205) rfl (.inl ((hm _).trans (by kernel_rfl)))
    | exact aW (.int (-2) 208) rfl (.inl ((hm _).trans (by kernel_rfl)))
  .repeat' (first | exact Co | refine xy ?_ ?_)
   all_goals first
    | exact aW (.type _) rfl (.inr ⟨(hm _).trans (by kernel_rfl),(hb _ (by decide)).trans (by kernel_rfl)⟩)
    | exact aW (.builtin _) rfl (.inr ⟨(hm _).trans (by kernel_rfl),(hb _ (by decide)).trans (by kernel_rfl)⟩)
theorem uF (KX:(x6 w.params).In Fv.heap):bB (base w Fv mg mb) prog.uE where
 count:=by
  intro c k h
  have h:uG c=some k:=h
  unfold uG at h
  split at h
  .cases h;decide
  .split at h
   .cases h;decide
   .cases h
 inH:=KX
 attr:=by
  intro c name h0
  have h1:((c == aNI && cz.contains name) || (c == aTS && eU.contains name))=true:=h0
  simp only [Bool.or_eq_true,Bool.and_eq_true,beq_iff_eq,List.contains_iff_mem] at h1
  clear h0
  rcases h1 with ⟨rfl,h⟩ | ⟨rfl,h⟩
  .refine D4 ⟨some cz,cz⟩ rfl ?_ (by kernel_rfl) (by kernel_rfl) (by kernel_rfl) (by kernel_rfl)
   unfold cz at h
   simp only [List.mem_cons,List.not_mem_nil,or_false] at h
   rcases h with rfl | rfl | rfl
   .exact .slot cz 46 0 (by kernel_rfl) (fun od=>by kernel_rfl) (by kernel_rfl) rfl (by decide) (by kernel_rfl) (by kernel_rfl)
   .exact .slot cz 47 1 (by kernel_rfl) (fun od=>by kernel_rfl) (by kernel_rfl) rfl (by decide) (by kernel_rfl) (by kernel_rfl)
   .exact .slot cz 48 2 (by kernel_rfl) (fun od=>by kernel_rfl) (by kernel_rfl) rfl (by decide) (by kernel_rfl) (by kernel_rfl)
  .refine D4 ⟨none,eU⟩ rfl ?_ (by kernel_rfl) (by kernel_rfl) (by kernel_rfl) (by kernel_rfl)
   have h':=h
   unfold eU at h
   simp only [List.mem_cons,List.not_mem_nil,or_false] at h
   rcases h with rfl | rfl | rfl | rfl
   all_goals exact .dict _ rfl (by kernel_rfl) (by kernel_rfl) (by kernel_rfl) h'
theorem yS:oA (base w Fv mg mb) prog.uE where
 meth:=by
  intro c name g h0
  have h1:(if c=aTS then nF.lookup name else none)=some g:=h0
  clear h0
  split at h1
  .rename_i hc;subst hc
   revert name g
   refine iN (l:=nF) ?_
   repeat' (first | exact Co | refine xy ?_ ?_)
   all_goals exact⟨⟨none,eU⟩,rfl,rfl,by decide,by kernel_rfl,by kernel_rfl,by kernel_rfl,by kernel_rfl,by kernel_rfl,by kernel_rfl,by kernel_rfl,by kernel_rfl,_,_,rfl,rfl⟩
  .cases h1
theorem yR (c ini:Addr) (h:prog.init c=some ini):oz (base w Fv mg mb) c ini:=by
 have h1:(if c=aNI then some 41 else if c=aTS then some 78 else none)=some ini:=h
 clear h
 split at h1
 .rename_i hc;subst hc;cases h1
  exact⟨by kernel_rfl,by kernel_rfl,by kernel_rfl,⟨some cz,cz⟩,rfl,fun names h=>by cases h;decide⟩
 .split at h1
  .rename_i hc hc2;subst hc2;cases h1
   exact⟨by kernel_rfl,by kernel_rfl,by kernel_rfl,⟨none,eU⟩,rfl,fun names h=>by cases h⟩
  .cases h1
theorem DH {a:Addr} {o:Obj} {es:Array DictEntry} {n:Nat} {h:Heap} (hK:h.get? a=some o) (hd:o.data=.dict es n) (hk:StrKeys es):h.Ns a (nsFind es):=⟨o,es,n,hK,hd,hk,fun _=>rfl⟩
theorem wR (KX:(x6 w.params).In Fv.heap):fW (base w Fv mg mb) (.glob aCE):=
 .own (Str.ofString "CycleError") (Str.ofString "CycleError") aCE 59 _ _ _ _ _ _ _ _ _ _ _ _ _ "ValueError" "ValueError.__new__" "ValueError.__init__" _ PySem.F.excBase_ValueError (KX 60 _ rfl) (DH (KX 59 _ rfl) rfl (by simp [StrKeys,de,sv])) (by kernel_rfl)
theorem AD (KX:(x6 w.params).In Fv.heap) (c:V) (h:prog.exc c=true):fW (base w Fv mg mb) c:=by
 have h1:c∈[V.ty "ValueError",.ty "RuntimeError",.glob aCE]:=List.contains_iff_mem.mp h
 simp only [List.mem_cons,List.not_mem_nil,or_false] at h1
 rcases h1 with rfl | rfl | rfl
 .exact .ty _ _ _ PySem.F.excCall_ValueError PySem.F.excRaise_ValueError
 .exact .ty _ _ _ PySem.F.excCall_RuntimeError PySem.F.excRaise_RuntimeError
 .exact wR KX
theorem Cd (KX:(x6 w.params).In Fv.heap) (c tv:V) (h:prog.sub c tv=true):ip (base w Fv mg mb) c tv:=by
 have h1:(decide (c=tv) && [V.ty "ValueError",.ty "RuntimeError",.ty "StopIteration",.glob aCE].contains c)=true:=h
 simp only [Bool.and_eq_true,decide_eq_true_eq,List.contains_iff_mem] at h1
 obtain⟨rfl,h1⟩:=h1
 simp only [List.mem_cons,List.not_mem_nil,or_false] at h1
 rcases h1 with rfl | rfl | rfl | rfl
 .exact .ty _ _ (by refine (isSubtype_type ..).trans ?_;kernel_rfl) (by refine (isSubtype_type ..).trans ?_;kernel_rfl) (by refine (isSubtype_type ..).trans ?_;kernel_rfl)
 .exact .ty _ _ (by refine (isSubtype_type ..).trans ?_;kernel_rfl) (by refine (isSubtype_type ..).trans ?_;kernel_rfl) (by refine (isSubtype_type ..).trans ?_;kernel_rfl)
 .exact .ty _ _ (by refine (isSubtype_type ..).trans ?_;kernel_rfl) (by refine (isSubtype_type ..).trans ?_;kernel_rfl) (by refine (isSubtype_type ..).trans ?_;kernel_rfl)
 .exact .own _ (wR KX)
end
end Mine
namespace Mine
open PySem
theorem e9 {n k:Nat}:clip n (k:Int)=min k n:=by
 unfold clip
 rw [if_neg (Int.not_lt.mpr (Int.natCast_nonneg k))]
 refine Or.elim (Nat.le_total k n) (fun h=>?_) fun h=>?_
 .rw [Nat.min_eq_left h,Int.min_eq_left (Int.ofNat_le.2 h),Int.max_eq_right (Int.natCast_nonneg k)];rfl
 .rw [Nat.min_eq_right h,Int.min_eq_right (Int.ofNat_le.2 h),Int.max_eq_right (Int.natCast_nonneg n)];rfl
theorem nlt {i n:Nat} (h:i < n) {b:Int} (hb:(n:Int)<=b):(i:Int) < b:=Int.lt_of_lt_of_le (Int.ofNat_lt.2 h) hb
theorem nle {i n:Nat} (h:i<=n) {b:Int} (hb:(n:Int) < b):(i:Int) < b:=Int.lt_of_le_of_lt (Int.ofNat_le.2 h) hb
@[elab_as_elim] theorem lt3 {P:Nat->Prop} {r:Nat} (h:r < 3) (h0:P 0) (h1:P 1) (h2:P 2):P r:=
 Or.elim (Nat.lt_or_eq_of_le (Nat.le_of_lt_succ h)) (fun h=>Or.elim (Nat.lt_or_eq_of_le (Nat.le_of_lt_succ h)) (fun h=>(Nat.lt_one_iff.1 h).symm ▸ h0) (fun e=>e ▸ h1)) (fun e=>e ▸ h2)
theorem sne {a r r':Nat} (h:¬ r'=r):a+r≠a+r':=fun e=>h (Nat.add_left_cancel e).symm
theorem E2 {a r j:Nat} (hr:r < 3) (h:j < a\/a+3<=j):a+r≠j:=fun e=>Or.elim h (fun h=>Nat.not_le.2 h (e ▸ Nat.le_add_right a r)) fun h=>Nat.not_lt.2 h (e ▸ Nat.add_lt_add_left hr a)
theorem cbn {z:Int} {i k:Nat} (h:i<=k) (this:0<=z/\z<=22+143 * (i:Int)):0<=z/\z<=22+143 * (k:Int):=⟨this.1,Int.le_trans this.2 (Int.add_le_add_left (Int.mul_le_mul_of_nonneg_left (Int.ofNat_le.2 h) (by decide)) 22)⟩
theorem cbx {c x:Int} {i:Nat} (h:0<=c/\c<=22+143 * (i:Int)):0<=c+x % 144/\c+x % 144<=22+143 * ((i+1:Nat):Int):=⟨Int.add_nonneg h.1 (Int.emod_nonneg x (by decide)),Int.le_trans (Int.add_le_add h.2 (Int.le_of_lt_add_one (Int.emod_lt_of_pos x (b:=144) (by decide)))) (Int.le_of_eq ((Int.add_assoc ..).trans (congrArg (22+·) (Int.mul_add 143 (i:Int) 1).symm)))⟩
theorem cbd {c:Int} (h:0<=c/\c<=22+143 * 60):0<=c / 3/\c / 3 < 1000000:=⟨Int.ediv_nonneg h.1 (by decide),Int.lt_of_le_of_lt (Int.le_trans (Int.ediv_le_self 3 h.1) h.2) (by decide)⟩
theorem pm9 {i:Nat}:place 9 ((i:Int) % 9)=some (i % 9):=(if_pos (Int.ofNat_nonneg (i % 9))).trans ((if_pos (Int.ofNat_lt.2 (Nat.mod_lt i (by decide)))).trans rfl)
theorem DF {n r k:Nat} (hr:r < 3) (hk:6<=k):n+3+r < n+k:=GU (Nat.add_lt_add_left hr (n+3)) (Nat.add_le_add_left hk n)
theorem npos {i:Nat}:-(2 ^ 62)<=(i:Int):=Int.le_trans (by decide) (Int.natCast_nonneg i)
theorem smN {n:Nat} (h:n<=1000000):small (n:Int):=⟨Int.lt_of_lt_of_le (by decide) (Int.natCast_nonneg n),nle h (by decide)⟩
theorem smS {n:Nat} (h:n<=1000000):-2 ^ 62<=(n:Int) - 1/\(n:Int) - 1 < 2 ^ 62:=⟨Int.le_sub_right_of_add_le (Int.le_trans (by decide) (Int.natCast_nonneg n)),Int.lt_of_le_of_lt (Int.sub_le_self _ (by decide)) (nle h (by decide))⟩
theorem smA {n:Nat} (h:n<=1000000):-2 ^ 62<=(n:Int)+1/\(n:Int)+1 < 2 ^ 62:=⟨npos (i:=n+1),nle (Nat.succ_le_succ h) (by decide)⟩
theorem CA {a b c n:Nat} (h1:a<=b+n) (h2:b<=c+1):a<=c+(n+1):=GS h1 (GS (Nat.add_le_add_right h2 n) (Nat.le_of_eq (Nat.add_right_comm c 1 n)))
theorem smM {n:Nat} (h:n<=1000000):small ((n:Int) - 1):=⟨Int.lt_sub_right_of_add_lt (Int.lt_of_lt_of_le (by decide) (Int.natCast_nonneg n)),(smS h).2⟩
theorem m1N {n:Nat} (h:1<=n):-1+(n:Int)=((n - 1:Nat):Int):=(Int.add_comm _ _).trans (Int.ofNat_sub h).symm
theorem aG {a b:String}:(Str.ofString a=Str.ofString b)=(a=b):=by
 apply propext
 constructor
 .intro h
  rw [Str.ofString_eq_toList,Str.ofString_eq_toList] at h
  have h1:(a.toList.map Char.toNat).toArray=(b.toList.map Char.toNat).toArray:=by injection h
  have h2:a.toList.map Char.toNat=b.toList.map Char.toNat:=by simpa using h1
  have h3:a.toList=b.toList:=by
   have inj:∀ {x y:Char},x.toNat=y.toNat->x=y:=fun {x y} h=>Char.ext (UInt32.toNat_inj.mp h)
   generalize a.toList=l at h2
   generalize b.toList=m at h2
   induction l generalizing m with
   | nil=>induction m using List.casesOn with
    | nil=>rfl
    | cons=>simp at h2
   | cons x l ih=>induction m using List.casesOn with
    | nil=>simp at h2
    | cons y m=>simp only [List.map_cons,List.cons.injEq] at h2;exact rwE (inj h2.1) (rwE (ih m h2.2) rfl)
  exact String.toList_inj.mp h3
 .rintro rfl;rfl
theorem DM {σ:Mine.St} {x y:Str} {v:V}:(σ.put x v).m y=if y=x then some v else σ.m y:=rfl
noncomputable def zB (C:Cfg) (r:List Stmt) (sc:Scope) (ro:List Str) (Q:Fl->St->Prop) (X:V->St->Prop):Fl->St->Prop:=fun f σ'=>(match f with | .next=>a7 C r sc ro | f=>Tr.pure f) σ' Q X
section
variable {C:Cfg} {sc:Scope} {ro:List Str} {σ:Mine.St} {Q:Fl->Mine.St->Prop} {X:V->Mine.St->Prop} {QV:V->Mine.St->Prop} {QU:Unit->Mine.St->Prop} {QB:Bool->Mine.St->Prop} {QL:List V->Mine.St->Prop} {QS:Src->Mine.St->Prop}
theorem cP {r:List Stmt}:zB C r sc ro Q X .next σ=a7 C r sc ro σ Q X:=rfl
theorem wD {r:List Stmt} {v:V}:zB C r sc ro Q X (.ret v) σ=Q (.ret v) σ:=rfl
theorem wC {r:List Stmt}:zB C r sc ro Q X .brk σ=Q .brk σ:=rfl
theorem tL {r:List Stmt}:zB C r sc ro Q X .cont σ=Q .cont σ:=rfl
theorem xm:a7 C [] sc ro σ Q X=Q .next σ:=rfl
theorem bU {s:Stmt} {r:List Stmt}:a7 C (s::r) sc ro σ Q X=awS C s sc ro σ (zB C r sc ro Q X) X:=rfl
theorem B4 {e:Expr} {p:Pos} (h:c9 e=false):awS C (.Expr e p) sc ro σ Q X=awE C e sc ro σ (fun _ σ'=>Q .next σ') X:=by
 have:awS C (.Expr e p) sc ro=if c9 e then fun _ _ _=>False else (awE C e sc ro).bind fun _=>Tr.pure .next:=rfl
 refine rwE this (rwE h ?_);rfl
theorem wA {ts:List Expr} {e:Expr} {p:Pos} (h:(aZ e || ts.any isStar)=false):awS C (.Assign ts e p) sc ro σ Q X=awE C e sc ro σ (fun v σ'=>jS C v sc ro ts σ' (fun _ FQ=>Q .next FQ) X) X:=by
 have:awS C (.Assign ts e p) sc ro=if aZ e || ts.any isStar then fun _ _ _=>False else (awE C e sc ro).bind fun v=>(jS C v sc ro ts).bind fun _=>Tr.pure .next:=rfl
 refine rwE this (rwE h ?_);rfl
theorem tK {t:Expr} {b o:List Stmt} {p:Pos}:awS C (.While t b o p) sc ro σ Q X=pP (awT C t (awE C t sc ro) sc ro) (a7 C b sc ro) (a7 C o sc ro) σ Q X:=rfl
theorem zA {p:Pos}:awS C (.Break p) sc ro σ Q X=Q .brk σ:=rfl
theorem qz {p:Pos}:awS C (.Continue p) sc ro σ Q X=Q .cont σ:=rfl
theorem B5 {p:Pos}:awS C (.Pass p) sc ro σ Q X=Q .next σ:=rfl
theorem wB {o i:Expr} {p q:Pos} {op:Operator} {e:Expr} (h:aF i=false):awS C (.AugAssign (.Subscript o i p) op e q) sc ro σ Q X=awE C o sc ro σ (fun ov σ1=>awE C i sc ro σ1 (fun iv σ2=>ba ov iv σ2.H (fun a H2=>awE C e sc ro ⟨H2,σ2.m⟩ (fun b σ3 =>
  pV op a b σ3 (fun r σ4=>bS ov iv r σ4.H (fun _ H5=>Q .next ⟨H5,σ4.m⟩) (fun e H=>X e ⟨H,σ4.m⟩)) X) X) (fun e H=>X e ⟨H,σ2.m⟩)) X) X:=by
 have:awS C (.AugAssign (.Subscript o i p) op e q) sc ro=if aF i then fun _ _ _=>False else (awE C o sc ro).bind fun ov=>(awE C i sc ro).bind fun iv=>(Tr.lift (ba ov iv)).bind fun a=>(awE C e sc ro).bind fun b =>
   (pV op a b).bind fun r=>(Tr.lift (bS ov iv r)).bind fun _=>Tr.pure .next:=rfl
 refine rwE this (rwE h ?_);rfl
theorem uy {op:Operator} {i j:Int}:pV op (.int i) (.int j) σ QV X=((op=.Add\/op=.Sub)/\jT op (.int i) (.int j) σ.H (fun v H=>QV v ⟨H,σ.m⟩) (fun e H=>X e ⟨H,σ.m⟩)):=by
 apply propext
 constructor
 ·(intro ζ1;obtain⟨h,ζ2⟩:=ζ1;refine fh ζ2 fun i' j' e1 e2 q=>?_;clear ζ2);cases e1;cases e2;exact⟨h,q⟩
 .rintro⟨h,q⟩;exact⟨h,i,j,rfl,rfl,q⟩
theorem DO {o i:Expr} {p q:Pos} (h:aF i=false):awS C (.Delete [.Subscript o i p] q) sc ro σ Q X=awE C o sc ro σ (fun ov σ1=>awE C i sc ro σ1 (fun iv σ2=>dq ov iv σ2.H (fun _ H=>Q .next ⟨H,σ2.m⟩) (fun e H=>X e ⟨H,σ2.m⟩)) X) X:=by
 have:awS C (.Delete [.Subscript o i p] q) sc ro=if aF i then fun _ _ _=>False else (awE C o sc ro).bind fun ov=>(awE C i sc ro).bind fun iv=>(Tr.lift (dq ov iv)).bind fun _=>Tr.pure .next:=rfl
 refine rwE this (rwE h ?_);rfl
theorem DP {b hb:List Stmt} {x:Str} {np hp p:Pos} {n:Option Str}:awS C (.Try b [.ExceptHandler (some (.Name x np)) n hb hp] [] [] p) sc ro σ Q X=((C.ok/\hb.isEmpty=false)/\a7 C b sc ro σ Q (fun e Fq=>∃ i c vs tv,e=.ref i/\Fq.H[i]?=some (.exc c vs) /\
   bH C sc x Fq (fun v Fj=>v=tv/\Fj=Fq) (fun _ _=>False)/\C.sub c tv=true/\nu n ro sc (a7 (noRaise C) hb sc ro) e Fq Q)):=rfl
theorem rX {body:Tr Fl} {e:V}:nu none ro sc body e σ Q=body σ Q (fun _ _=>False):=rfl
theorem rY {x:Str} {body:Tr Fl} {e:V}:nu (some x) ro sc body e σ Q=(x∉ro/\sc.names.lookup x=some .local/\body (σ.put x e) (fun f FF=>Q f ⟨FF.H,fun y=>if y=x then none else FF.m y⟩) (fun _ _=>False)):=rfl
theorem z8 {v:V}:jS C v sc ro [] σ QU X=QU () σ:=rfl
theorem z4 {x:Str} {p:Pos} {v:V}:awA C (.Name x p) v sc ro σ QU X=bI sc ro x v σ QU X:=rfl
theorem Cz {o i:Expr} {p:Pos} {v:V} (h:aF i=false):awA C (.Subscript o i p) v sc ro σ QU X=awE C o sc ro σ (fun ov σ1=>awE C i sc ro σ1 (fun iv σ2=>bS ov iv v σ2.H (fun _ H=>QU () ⟨H,σ2.m⟩) (fun e H=>X e ⟨H,σ2.m⟩)) X) X:=by refine rwE (q6 i h) ?_;rfl
theorem xw {es:List Expr} {k:Nat} {p:Pos} {v:V}:awA C (.Tuple es k p) v sc ro σ QU X=(C.ok/\∃ ns vs,namesOf es=some ns/\er σ.H v=some vs/\ns.length<=8/\storeAll sc ro ns vs σ QU X):=rfl
theorem gA {x:Str} {p:Pos} {v:V}:cy C sc ro (.Name x p) (.one v) σ QU X=bI sc ro x v σ QU X:=rfl
theorem yb {es:List Expr} {k:Nat} {p:Pos} {v:V}:cy C sc ro (.Tuple es k p) (.one v) σ QU X=(C.ok/\∃ ns vs,namesOf es=some ns/\er σ.H v=some vs/\ns.length<=8/\storeAll sc ro ns vs σ QU X):=rfl
theorem AS {es:List Expr} {k:Nat} {p:Pos} {a b:V}:cy C sc ro (.Tuple es k p) (.pair a b) σ QU X=(C.ok/\∃ x y,namesOf es=some [x,y]/\storeAll sc ro [x,y] [a,b] σ QU X):=rfl
theorem B6:storeAll sc ro [] [] σ QU X=QU () σ:=rfl
theorem E5 {x:Str} {v:V} (h:sc.names.lookup x=some .local):bI sc ro x v σ QU X=(x∉ro/\QU () (σ.put x v)):=by unfold bI;refine rwE h ?_;simp
theorem E4 {x:Str} {v:V} (h:sc.names.lookup x=some .cell):bI sc ro x v σ QU X=(x∉ro/\QU () (σ.put x v)):=by unfold bI;refine rwE h ?_;simp
theorem As {x:Str} {p:Pos}:awE C (.Name x p) sc ro σ QV X=bH C sc x σ QV X:=rfl
theorem CJ {i:Int} {k:Nat} {p:Pos}:awE C (.Constant (.int i) k p) sc ro σ QV X=QV (.int i) σ:=rfl
theorem Aw {k:Nat} {p:Pos}:awE C (.Constant .none k p) sc ro σ QV X=QV .none σ:=rfl
theorem Au {b:Bool} {k:Nat} {p:Pos}:awE C (.Constant (.bool b) k p) sc ro σ QV X=QV (.bool b) σ:=rfl
theorem CK {s:Str} {k:Nat} {p:Pos}:awE C (.Constant (.str s) k p) sc ro σ QV X=QV (.str s) σ:=rfl
theorem CH {i:Int} {k:Nat} {p q:Pos}:awE C (.UnaryOp .USub (.Constant (.int i) k p) q) sc ro σ QV X=QV (.int (-i)) σ:=rfl
theorem CI {o i:Expr} {p:Pos} (h:aF i=false):awE C (.Subscript o i p) sc ro σ QV X=awE C o sc ro σ (fun ov σ1=>awE C i sc ro σ1 (fun iv σ2=>ba ov iv σ2.H (fun v H=>QV v ⟨H,σ2.m⟩) (fun e H=>X e ⟨H,σ2.m⟩)) X) X:=by refine rwE (q9 i h) ?_;rfl
theorem BG:awO C none sc ro σ QV X=QV .none σ:=rfl
theorem BH {e:Expr}:awO C (some e) sc ro σ QV X=awE C e sc ro σ QV X:=rfl
theorem DL:bJ C [] sc ro σ QU X=QU () σ:=rfl
theorem CR {leaf:Tr Unit}:bu C [] sc ro leaf σ QU X=leaf σ QU X:=rfl
theorem vP {α:Type} {a:α} {Q:α->Mine.St->Prop}:(Tr.pure a) σ Q X=Q a σ:=rfl
theorem yd:eZ C [] sc ro σ QB X=QB true σ:=rfl
theorem Ay:mY C [] sc ro σ QL X=QL [] σ:=rfl
theorem xX {e:Expr} {r:List Expr} (h:isStar e=false):mY C (e::r) sc ro σ QL X=awE C e sc ro σ (fun v σ1=>mY C r sc ro σ1 (fun vs σ2=>QL (v::vs) σ2) X) X:=by
 have:mY C (e::r) sc ro=if isStar e then fun _ _ _=>False else (awE C e sc ro).bind fun v=>(mY C r sc ro).bind fun vs=>Tr.pure (v::vs):=rfl
 refine rwE this (rwE h ?_);rfl
theorem z7:aI C [] sc ro σ QL X=QL [] σ:=rfl
theorem xB {e:Expr} {r:List Expr} (h:isStar e=false):aI C (e::r) sc ro σ QL X=awE C e sc ro σ (fun v σ1=>aI C r sc ro σ1 (fun vs σ2=>QL (v::vs) σ2) X) X:=by refine rwE (ly h) ?_;rfl
theorem Cf {op:BoolOp} {vs:List Expr} {p:Pos} {w:Tr V}:awT C (.BoolOp op vs p) w sc ro σ QB X=xM C op vs sc ro σ QB X:=rfl
theorem zK {e:Expr} {w:Tr V} (h:dQ e=true):awT C e w sc ro σ QB X=w σ (fun v σ1=>∃ b,gJ σ1.H v=some b/\QB b σ1) X:=by refine rwE (lz h) ?_;rfl
theorem xo {op:BoolOp}:xM C op [] sc ro σ QB X=QB (op == .And) σ:=rfl
theorem vd {e:Expr} {w:Tr V} (h:cL e=true):bw C e w sc ro σ QS X=w σ (fun v σ1=>QS (.one v) σ1) X:=by refine rwE (fY h) ?_;rfl
theorem nA {s:String} {np p:Pos} {args:List Expr} {w:Tr V}:bw C (.Call (.Name (Str.ofString s) np) args [] p) w sc ro σ QS X=(if s = "enumerate" then bH C sc (Str.ofString s) σ (fun fv σ1=>aI C args sc ro σ1 (fun vs σ2=>fv=.ty "enumerate" /\ ∃ v,vs=[v]/\QS (.enum v) σ2) X) X
  else if s = "zip" then bH C sc (Str.ofString s) σ (fun fv σ1=>aI C args sc ro σ1 (fun vs σ2=>fv=.ty "zip" /\ ∃ v w,vs=[v,w]/\QS (.zip v w) σ2) X) X else w σ (fun v σ1=>QS (.one v) σ1) X):=by
 refine rwE ez ?_
 by_cases h1:s = "enumerate"
 .subst h1;refine rwE (if_pos rfl) (rwE (if_pos rfl) ?_);rfl
 .refine rwE (if_neg h1) (rwE (if_neg (by rw [aG];exact h1)) ?_)
  by_cases h2:s = "zip"
  .subst h2;refine rwE (if_pos rfl) (rwE (if_pos rfl) ?_);rfl
  .refine rwE (if_neg h2) (rwE (if_neg (by rw [aG];exact h2)) ?_);rfl
end
section
variable {H:List O} {Q:V->List O->Prop} {QB:Bool->List O->Prop} {X:V->List O->Prop} {i j:Int}
theorem DI:jT .Add (.int i) (.int j) H Q X=Q (.int (i+j)) H:=rfl
theorem DK:jT .Sub (.int i) (.int j) H Q X=Q (.int (i - j)) H:=rfl
theorem BD:jT .FloorDiv (.int i) (.int j) H Q X=(0 < j/\j < 2 ^ 30/\Q (.int (i / j)) H):=rfl
theorem DJ:jT .Mod (.int i) (.int j) H Q X=(0 < j/\j < 2 ^ 30/\Q (.int (i % j)) H):=rfl
theorem BE {a b:Nat}:jT .Add (.ref a) (.ref b) H Q X=∃ xs ys,H[a]?=some (.list xs)/\H[b]?=some (.list ys)/\newList (xs++ys) H Q X:=rfl
theorem BF {a:Nat} {k:Int}:jT .Mult (.ref a) (.int k) H Q X=∃ xs,H[a]?=some (.list xs)/\0<=k/\k<=100/\newList (List.replicate k.toNat xs).flatten H Q X:=rfl
theorem By {xs:List V}:newList xs H Q X=(xs.length<=big/\Q (.ref H.length) (H++[.list xs])):=rfl
theorem BC {xs:List V}:newTuple xs H Q X=(xs.length<=big/\Q (.ref H.length) (H++[.tuple xs])):=rfl
theorem BB {o:O}:mV o H Q X=Q (.ref H.length) (H++[o]):=rfl
theorem j6:PyData.eqv (.int i) (.int j)=decide (i=j):=by
 simp only [PyData.eqv];rfl
theorem rK {a b:Int} {r:Bool}:eqV H (.int a) (.int b) r=(r=decide (a=b)):=by
 apply propext
 constructor
 .rintro⟨da,db,h1,h2,-,-,rfl⟩
  have e1:da=.int a:=by cases da<;>first | (cases h1;rfl) | (obtain⟨_,_,h,_⟩:=h1;exact V.noConfusion h) | cases h1
  have e2:db=.int b:=by cases db<;>first | (cases h2;rfl) | (obtain⟨_,_,h,_⟩:=h2;exact V.noConfusion h) | cases h2
  subst e1 e2
  exact j6
 .rintro rfl
  exact⟨.int a,.int b,rfl,rfl,rfl,rfl,j6.symm⟩
theorem CB {a b:Int}:f9 .Eq (.int a) (.int b) H QB X=QB (decide (a=b)) H:=by
 refine (?_:(∃ r,eqV H (.int a) (.int b) r/\QB r H)=_)
 simp only [rK,exists_eq_left]
theorem CC {a b:Int}:f9 .NotEq (.int a) (.int b) H QB X=QB (!decide (a=b)) H:=by
 refine (?_:(∃ r,eqV H (.int a) (.int b) r/\QB (!r) H)=_)
 simp only [rK,exists_eq_left]
theorem Ek:f9 .Lt (.int i) (.int j) H QB X=QB (decide (i < j)) H:=by
 refine (?_:(∃ a b,V.int i=.int a/\V.int j=.int b/\QB (decide (a < b)) H)=_)
 simp only [V.int.injEq,exists_eq_left']
 apply propext;constructor
 ·(intro ζ3;refine bq ζ3 fun a b ζ4 ζ5=>?_;clear ζ3;obtain rfl:=ζ4;obtain⟨ζ6,h⟩:=ζ5;obtain rfl:=ζ6);exact h
 .intro h;exact jk _ _ rfl rfl h
theorem Ej:f9 .GtE (.int i) (.int j) H QB X=QB (decide (i ≥ j)) H:=by
 apply propext;constructor
 ·(intro ζ7;refine fh ζ7 fun a b h1 h2 h=>?_;clear ζ7);cases h1;cases h2;exact h
 .intro h;exact⟨_,_,rfl,rfl,h⟩
theorem D0 {a b:V}:f9 .In a b H QB X=∃ r,inV H a b r/\QB r H:=rfl
theorem rl {a b:V}:f9 .NotIn a b H QB X=∃ r,inV H a b r/\QB (!r) H:=rfl
end
section
variable {C:Cfg} {sc:Scope} {ro:List Str} {σ:Mine.St} {Q:Fl->Mine.St->Prop} {X:V->Mine.St->Prop} {QV:V->Mine.St->Prop} {QU:Unit->Mine.St->Prop} {QB:Bool->Mine.St->Prop} {QL:List V->Mine.St->Prop} {QS:Src->Mine.St->Prop}
end
section
variable {C:Cfg} {H:List O} {i:Nat} {xs:List V} {es:List (Int × V)} {ks:List Int} {k:Int} {v:V} {Q X:V->List O->Prop} {ok:Prop}
theorem sP:bX i es (Str.ofString "get") [.int k] H Q X=Q ((dF es k).getD .none) H:=by
 simp [bX,aG]
theorem sQ:bX i es (Str.ofString "values") [] H Q X=Q (.ref H.length) (H++[.dvals i]):=by
 simp [bX,aG,mV]
theorem lY:bf i xs (Str.ofString "append") [v] H Q X=(0 < i/\xs.length < big/\Q .none (H.set i (.list (xs++[v])))):=by
 simp [bf,aG]
theorem yU:bf i xs (Str.ofString "pop") [] H Q X=(0 < i/\xs.length < big/\∃ v,xs.getLast?=some v/\Q v (H.set i (.list xs.dropLast))):=by
 simp [bf,aG]
theorem yV:bf i xs (Str.ofString "pop") [.int k] H Q X=(0 < i/\xs.length < big/\∃ j v,place xs.length k=some j/\-(2 ^ 62)<=k/\k < 2 ^ 62/\xs[j]?=some v/\Q v (H.set i (.list (xs.eraseIdx j)))):=by
 simp [bf,aG]
theorem vK:bf i xs (Str.ofString "clear") [] H Q X=(0 < i/\xs.length < big/\Q .none (H.set i (.list []))):=by
 simp [bf,aG]
theorem yW:bf i xs (Str.ofString "sort") [] H Q X=(0 < i/\xs.length < big/\∃ ks,intsOf xs=some ks/\ks.length < 64/\∀ ks':List Int,ks'.Perm ks->ks'.Pairwise (·<=·)->Q .none (H.set i (.list (ks'.map .int)))):=by
 simp [bf,aG]
theorem Bw:fS i ks (Str.ofString "add") [.int k] H Q X=(0 < i/\ks.length < 1000/\Q .none (H.set i (.set (if k∈ks then ks else k::ks)))):=by
 simp [fS]
theorem xT:ee "list" [v] H Q X=∃ xs,er H v=some xs/\newList xs H Q X:=rfl
theorem uK:ee "tuple" [.ref i] H Q X=∃ xs,H[i]?=some (.list xs)/\newTuple xs H Q X:=rfl
theorem Ao:ee "set" [] H Q X=Q (.ref H.length) (H++[.set []]):=by
 refine (?_:(0<=1000/\mV (.set []) H Q X)=_)
 simp [mV]
theorem rA:ee "range" [.int k] H Q X=(small k/\Q (.ref H.length) (H++[.range 0 k])):=rfl
theorem rB {j:Int}:ee "range" [.int j,.int k] H Q X=(small j/\small k/\Q (.ref H.length) (H++[.range j k])):=rfl
theorem Aq:ee "str" [.ref i] H Q X=∃ s,H[i]?=some (.exc (.ty "RuntimeError") [.str s])/\Q (.str s) H:=rfl
theorem Ak:jr ok "len" [v] H Q X=∃ k,DC H v=some k/\k<=big/\Q (.int k) H:=rfl
theorem xR:jr ok "iter" [.ref i] H Q X=((∃ xs,H[i]?=some (.list xs))/\Q (.ref H.length) (H++[.liter i 0])):=rfl
theorem vG:DC H (.ref i)=H[i]?.bind zX:=rfl
theorem yO:zX (.list xs)=some xs.length:=rfl
theorem vI:zX (.tuple xs)=some xs.length:=rfl
theorem yN {n:Nat}:zX (.dict es n)=some es.length:=rfl
theorem jL:gJ H (.ref i)=H[i]?.bind Cg:=rfl
theorem zL:Cg (.list xs)=some (!xs.isEmpty):=rfl
theorem wJ:Cg (.tuple xs)=some (!xs.isEmpty):=rfl
theorem bV:er H (.ref i)=H[i]?.bind ou:=rfl
theorem zO:ou (.list xs)=some xs:=rfl
theorem wM:ou (.tuple xs)=some xs:=rfl
theorem vg:aY H (.one (.ref i))=H[i]?.bind (lO H):=rfl
theorem yg:lO H (.list xs)=some (xs.map .one):=rfl
theorem u9:lO H (.tuple xs)=some (xs.map .one):=rfl
theorem yf {n:Nat}:lO H (.dict es n)=some (es.map fun e=>.one (.int e.1)):=rfl
theorem u0 {d:Nat}:lO H (.dvals d)=H[d]?.bind ve:=rfl
theorem u7 {a b:Int}:lO H (.range a b)=some ((List.range (b - a).toNat).map fun (k:Nat)=>.one (.int (a+k))):=rfl
theorem yc {n:Nat}:ve (.dict es n)=some (es.map fun e=>.one e.2):=rfl
theorem yh:aY H (.enum (.ref i))=(H[i]?.bind lU).map fun xs=>xs.zipIdx.map fun e=>.pair (.int e.2) e.1:=rfl
theorem yK:lU (.list xs)=some xs:=rfl
theorem rT:ba (.ref i) (.int k) H Q X=H[i]?.elim False (giO k Q H):=rfl
theorem x9:giO k Q H (.list xs)=∃ j v,place xs.length k=some j/\xs[j]?=some v/\-(2 ^ 62)<=k/\k < 2 ^ 62/\Q v H:=rfl
theorem x8 {n:Nat}:giO k Q H (.dict es n)=∃ v,dF es k=some v/\Q v H:=rfl
theorem B9 {QU:Unit->List O->Prop}:bS (.ref i) (.int k) v H QU X=(0 < i/\H[i]?.elim False (siO i k v QU H)):=rfl
theorem zC {QU:Unit->List O->Prop} {n:Nat}:siO i k v QU H (.dict es n)=(es.length<=big/\∀ n',QU () (H.set i (.dict (lE es k v) n'))):=rfl
theorem zD {QU:Unit->List O->Prop}:siO i k v QU H (.list xs)=(0<=k/\k < xs.length/\QU () (H.set i (.list (xs.set k.toNat v)))):=rfl
theorem Ar {QU:Unit->List O->Prop}:dq (.ref i) (.int k) H QU X=(0 < i/\H[i]?.elim False (diO i k QU H)):=rfl
theorem xW {QU:Unit->List O->Prop}:diO i k QU H (.list xs)=∃ j,place xs.length k=some j/\-(2 ^ 62)<=k/\k < 2 ^ 62/\QU () (H.set i (.list (xs.eraseIdx j))):=rfl
theorem xV {QU:Unit->List O->Prop} {n:Nat}:diO i k QU H (.dict es n)=(es.length<=big/\(dF es k).isSome=true/\∀ n',QU () (H.set i (.dict (xU es k) n'))):=rfl
theorem Cc {lo hi:V}:pK (.ref i) lo hi H Q X=∃ xs l h,(H[i]?=some (.list xs)\/H[i]?=some (.frozen xs))/\xs.length<=big/\l0 lo=some l/\l0 hi=some h /\
 (∀ k,l=some k->-(2 ^ 62)<=k/\k < 2 ^ 62)/\(∀ k,h=some k->-(2 ^ 62)<=k/\k < 2 ^ 62)/\newList (sliceOf xs l h) H Q X:=by
 apply propext;constructor
 ·(intro Fp;refine gP Fp fun j xs l h Fx=>?_;clear Fp;obtain⟨e,r⟩:=Fx);cases e;exact Er xs l h r
 ·(intro Fy;refine eE Fy fun xs l h r=>?_;clear Fy);exact⟨i,xs,l,h,rfl,r⟩
theorem vQ {l:Nat} {QU:Unit->List O->Prop}:ql l v H QU X=∃ xs,H[l]?=some (.list xs)/\xs.length < big/\QU () (H.set l (.list (xs++[v]))):=rfl
theorem zc {l:Nat} {a:V} {QU:Unit->List O->Prop}:zY l a v H QU X=∃ es n i,H[l]?=some (.dict es n)/\a=.int i/\es.length<=big/\∀ n',QU () (H.set l (.dict (lE es i v) n')):=rfl
end
end Mine
namespace Mine
open PySem
theorem xE {d:Nat} {c:Addr} {x:Str}:(prog.at d).attr c x=prog.attr c x:=rfl
theorem aj {d:Nat}:(prog.at d).ok=True:=rfl
theorem xF {d:Nat} {a:Addr} {vs:List V}:(prog.at d).call a vs=prog.bP d a vs:=rfl
theorem xG:prog.attr aNI (Str.ofString "node")=true:=by kernel_rfl
theorem uw:prog.attr aNI (Str.ofString "npredecessors")=true:=by kernel_rfl
theorem xH:prog.attr aNI (Str.ofString "successors")=true:=by kernel_rfl
theorem z9:prog.attr aTS (Str.ofString "_node2info")=true:=by kernel_rfl
theorem Ac:prog.attr aTS (Str.ofString "_ready_nodes")=true:=by kernel_rfl
theorem Ab:prog.attr aTS (Str.ofString "_npassedout")=true:=by kernel_rfl
theorem Aa:prog.attr aTS (Str.ofString "_nfinished")=true:=by kernel_rfl
theorem CP:prog.fn aNI=none:=by kernel_rfl
theorem CQ:prog.fn aTS=none:=by kernel_rfl
theorem CL:prog.fn 85=some wL:=by rfl
theorem CM:prog.fn 92=some wK:=by rfl
theorem CN:prog.fn 97=some mP:=by rfl
theorem AF:prog.fn 104=some kX:=by rfl
theorem wU:prog.fn 125=some cB:=by rfl
theorem AG:prog.fn 132=some fH:=by rfl
theorem CO:prog.fn aC3=some oK:=by rfl
theorem bx {d:Nat} {a:Addr} {fn:Fn} {args:List V} {H:List O} {Q X:V->List O->Prop} (h:prog.fn a=some fn):prog.bP (d+1) a args H Q X=eN (prog.at d) fn args H Q X:=by
 refine (?_:iu prog (prog.bP d) a args H Q X=_);unfold iu;refine rwE h ?_;rfl
theorem uB {d:Nat} {args:List V} {H:List O} {Q X:V->List O->Prop}:prog.bP (d+1) aNI args H Q X=eN (prog.at d) pe (.ref H.length::args) (H++[.inst aNI fun _=>none]) (fun v H'=>v=.none/\Q (.ref H.length) H') X:=by
 refine (?_:iu prog (prog.bP d) aNI args H Q X=_);unfold iu;refine rwE CP ?_;rfl
theorem uC {d:Nat} {args:List V} {H:List O} {Q X:V->List O->Prop}:prog.bP (d+1) aTS args H Q X=eN (prog.at d) jd (.ref H.length::args) (H++[.inst aTS fun _=>none]) (fun v H'=>v=.none/\Q (.ref H.length) H') X:=by
 refine (?_:iu prog (prog.bP d) aTS args H Q X=_);unfold iu;refine rwE CQ ?_;rfl
noncomputable def fr (l:List (Str × V)):Str->Option V:=fun x=>l.lookup x
section
variable {α:Type}
theorem au {l:List α} {i:Nat} {a:α} (h:i < l.length):(l.set i a)[i]?=some a:=by exact (List.getElem?_set).trans ((if_pos rfl).trans (if_pos h))
theorem jA {l t:List α} {i:Nat} (h:i < l.length):(l++t)[i]?=l[i]?:=GR h
theorem fP {l:List α} {a:α} {i:Nat} (h:i=l.length):(l++[a])[i]?=some a:=by subst h;exact List.getElem?_concat_length
theorem qb {l:List α} {a b:α} {i:Nat} (h:i=l.length+1):(l++[a,b])[i]?=some b:=by subst h;simp
end
theorem i6 {C:Cfg} {i:Nat} {name:Str} {v:V} {H:List O} {Q:Unit->List O->Prop} {X:V->List O->Prop}:bZ C (.ref i) name v H Q X=(0 < i/\∃ c fs,H[i]?=some (.inst c fs)/\C.attr c name=true/\Q () (H.set i (.inst c fun x=>if x=name then some v else fs x))):=by
 apply propext
 constructor
 ·(intro ζ3;refine eE ζ3 fun j c fs ζ4=>?_;clear ζ3;refine aJ ζ4 fun e h0 h=>?_;clear ζ4);cases e;exact⟨h0,c,fs,h⟩
 ·(intro ζ5;obtain⟨h0,ζ6⟩:=ζ5;refine pZ ζ6 fun c fs h=>?_;clear ζ6);exact⟨i,c,fs,rfl,h0,h⟩
theorem iG {C:Cfg} {i:Nat} {name:Str} {H:List O} {Q X:V->List O->Prop}:cV C (.ref i) name H Q X=(match H[i]? with
  | some (.inst c fs)=>∃ v,C.attr c name=true/\fs name=some v/\BA v=true/\Q v H
  | some (.liter _ _)=>name=Str.ofString "__next__" /\ mV (.nextof i) H Q X
  | _=>False):=by
 apply propext
 constructor
 ·(intro ζ7;refine ao ζ7 fun j e h=>?_;clear ζ7);cases e;exact h
 .intro h;exact⟨i,rfl,h⟩
section
variable {C:Cfg} {H:List O} {o:V} {name:Str} {args:List V} {Q X:V->List O->Prop} {i:Nat}
theorem yY:methP C .list (.ref i) name args H Q X=∃ xs,H[i]?=some (.list xs)/\bf i xs name args H Q X:=by
 apply propext;constructor
 ·(intro ζ8;refine bq ζ8 fun j xs e h=>?_;clear ζ8);cases e;exact⟨xs,h⟩
 .rintro⟨xs,h⟩;exact⟨i,xs,rfl,h⟩
theorem yX:methP C .dict (.ref i) name args H Q X=∃ es n,H[i]?=some (.dict es n)/\bX i es name args H Q X:=by
 apply propext;constructor
 ·(intro ζ9;refine eE ζ9 fun j es n Ft=>?_;clear ζ9;obtain⟨e,h⟩:=Ft);cases e;exact zS es n h
 ·(intro Fp;refine pZ Fp fun es n h=>?_;clear Fp);exact⟨i,es,n,rfl,h⟩
theorem w9:methP C .set (.ref i) name args H Q X=∃ ks,H[i]?=some (.set ks)/\fS i ks name args H Q X:=by
 apply propext;constructor
 ·(intro Fx;refine bq Fx fun j ks e h=>?_;clear Fx);cases e;exact⟨ks,h⟩
 .rintro⟨ks,h⟩;exact⟨i,ks,rfl,h⟩
theorem DG {f:Addr}:methP C (.fn f) o name args H Q X=C.call f (o::args) H Q X:=rfl
theorem oM {few:Bool}:jW C few H (.ref i) name=(match H[i]? with
  | some (.list _)=>if few then (dE name).map fun _=>.list else none
  | some (.dict _ _)=>if few then (fg name).map fun _=>.dict else none
  | some (.set _)=>if few then (mC name).map fun _=>.set else none
  | some (.inst c _)=>(C.meth c name).map .fn
  | _=>none):=rfl
theorem CG {n:String}:iw C (.ty n) args H Q X=ee n args H Q X:=rfl
theorem CF {n:String}:iw C (.bi n) args H Q X=jr C.ok n args H Q X:=rfl
theorem xS {a:Addr}:iw C (.glob a) args H Q X=C.call a args H Q X:=rfl
theorem An:iw C (.ref i) args H Q X=(args=[]/\gW C i H Q X):=rfl
end
noncomputable def gQ (R:Mine.St->Prop) (Q:Fl->Mine.St->Prop):Fl->Mine.St->Prop:=fun f Fj=>match f with
 | .next=>R Fj
 | .cont=>R Fj
 | .brk=>Q .next Fj
 | .ret r=>Q (.ret r) Fj
section
variable {R:Mine.St->Prop} {Q:Fl->Mine.St->Prop} {σ:Mine.St} {X:V->Mine.St->Prop}
theorem yM:gQ R Q .next σ=R σ:=rfl
theorem yL:gQ R Q .cont σ=R σ:=rfl
theorem Bs:gQ R Q .brk σ=Q .next σ:=rfl
theorem Bt {v:V}:gQ R Q (.ret v) σ=Q (.ret v) σ:=rfl
theorem lK {asg:Item->Tr Unit} {body orelse:Tr Fl} {Fo:List O} {src:Src} {x:Item} {xs:List Item}:mU asg body orelse Fo src (x::xs) σ Q X=(kZ Fo src σ.H/\asg x σ (fun _ Fq=>body Fq (gQ (fun Fj=>mU asg body orelse Fo src xs Fj Q X) Q) X) X):=by
 have:gQ (fun Fj=>mU asg body orelse Fo src xs Fj Q X) Q=(fun f Fj=>match f with
  | .next | .cont=>mU asg body orelse Fo src xs Fj Q X
  | .brk=>Q .next Fj
  | .ret r=>Q (.ret r) Fj):=by
  funext f Fj;induction f<;>rfl
 refine rwE this ?_;rfl
theorem br {asg:Item->Tr Unit} {body orelse:Tr Fl} {Fo:List O} {src:Src} {items:List Item} (I:Nat->Mine.St->Prop) (h0:I 0 σ)
  (step:∀ i x σ (R:Mine.St->Prop),items[i]?=some x->I i σ->(∀ Fj,I (i+1) Fj->R Fj)->kZ Fo src σ.H/\asg x σ (fun _ Fq=>body Fq (gQ R Q) X) X)
  (done:∀ σ,I items.length σ->kZ Fo src σ.H/\orelse σ Q X):mU asg body orelse Fo src items σ Q X:=by
 have main:∀ (n i:Nat) (σ:Mine.St),items.length - i=n->i<=items.length->I i σ->mU asg body orelse Fo src (items.drop i) σ Q X:=by
  intro n
  induction n with
  | zero =>
   intro i σ hn hi hI
   have:i=items.length:=nsE hn hi
   subst this
   refine rwE List.drop_length ?_
   exact done σ hI
  | succ n ih =>
   intro i σ hn hi hI
   have hlt:i < items.length:=by exact Nat.lt_of_sub_eq_succ hn
   refine rwE (List.drop_eq_getElem_cons hlt) (rwE lK ?_)
   exact step i _ σ _ (G6 hlt) hI fun Fj h=>ih (i+1) Fj (nsS hn) hlt h
 have:=main _ 0 σ rfl (Nat.zero_le _) h0
 rwa [List.drop_zero] at this
theorem pW {asg:Item->Tr Unit} {ifs:Tr Bool} {inner:Tr Unit} {Fo:List O} {src:Src} {x:Item} {xs:List Item} {QU:Unit->Mine.St->Prop}:dj asg ifs inner Fo src (x::xs) σ QU X=(kZ Fo src σ.H/\asg x σ (fun _ Fq=>ifs Fq (fun b Fj=>(b=true->inner Fj (fun _ FF=>dj asg ifs inner Fo src xs FF QU X) X)/\(b=false->dj asg ifs inner Fo src xs Fj QU X)) X) X):=by
 have:(fun (b:Bool) (Fj:Mine.St)=>(b=true->inner Fj (fun _ FF=>dj asg ifs inner Fo src xs FF QU X) X)/\(b=false->dj asg ifs inner Fo src xs Fj QU X))=(fun b Fj=>if b then inner Fj (fun _ FF=>dj asg ifs inner Fo src xs FF QU X) X else dj asg ifs inner Fo src xs Fj QU X):=by
  funext b Fj;induction b<;>simp
 refine rwE this ?_;rfl
theorem uJ {asg:Item->Tr Unit} {ifs:Tr Bool} {inner:Tr Unit} {Fo:List O} {src:Src} {items:List Item} {QU:Unit->Mine.St->Prop} (I:Nat->Mine.St->Prop) (h0:I 0 σ)
  (step:∀ i x σ (R:Mine.St->Prop),items[i]?=some x->I i σ->(∀ Fj,I (i+1) Fj->R Fj)->kZ Fo src σ.H/\asg x σ (fun _ Fq=>ifs Fq (fun b Fj=>(b=true->inner Fj (fun _ FF=>R FF) X)/\(b=false->R Fj)) X) X)
  (done:∀ σ,I items.length σ->kZ Fo src σ.H/\QU () σ):dj asg ifs inner Fo src items σ QU X:=by
 have main:∀ (n i:Nat) (σ:Mine.St),items.length - i=n->i<=items.length->I i σ->dj asg ifs inner Fo src (items.drop i) σ QU X:=by
  intro n
  induction n with
  | zero =>
   intro i σ hn hi hI
   have:i=items.length:=nsE hn hi
   subst this
   refine rwE List.drop_length ?_
   exact done σ hI
  | succ n ih =>
   intro i σ hn hi hI
   have hlt:i < items.length:=Nat.lt_of_sub_eq_succ hn
   refine rwE (List.drop_eq_getElem_cons hlt) (rwE pW ?_)
   exact step i _ σ _ (G6 hlt) hI fun Fj h=>ih (i+1) Fj (nsS hn) hlt h
 have:=main _ 0 σ rfl (Nat.zero_le _) h0
 rwa [List.drop_zero] at this
theorem t8 {test:Tr Bool} {body orelse:Tr Fl} (I:Nat->Mine.St->Prop) {n:Nat} (h0:I n σ)
  (step:∀ n σ,I n σ->test σ (fun b Fq=>(b=true->body Fq (gQ (fun Fj=>∃ k,k < n/\I k Fj) Q) X)/\(b=false->orelse Fq Q X)) X):pP test body orelse σ Q X:=by
 refine⟨I,⟨n,h0⟩,fun n σ' h=>?_⟩
 have h2:=step n σ' h
 have e:(fun (b:Bool) (Fq:Mine.St)=>(b=true->body Fq (gQ (fun Fj=>∃ k,k < n/\I k Fj) Q) X)/\(b=false->orelse Fq Q X))=(fun b Fq=>if b then body Fq (fun f Fj=>match f with
  | .next | .cont=>∃ k,k < n/\I k Fj
  | .brk=>Q .next Fj
  | .ret r=>Q (.ret r) Fj) X else orelse Fq Q X):=by
  funext b Fq
  have:gQ (fun Fj=>∃ k,k < n/\I k Fj) Q=(fun f Fj=>match f with
   | .next | .cont=>∃ k,k < n/\I k Fj
   | .brk=>Q .next Fj
   | .ret r=>Q (.ret r) Fj):=by
   funext f Fj;induction f<;>rfl
  refine rwS this ?_
  induction b<;>simp
 rw [e] at h2
 exact h2
end
theorem aq {Fo H:List O} {i:Nat} {o:O} (h:Fo[i]?=some o) (hn:pY o=none) (h':H[i]?=some o):kZ Fo (.one (.ref i)) H:=by
 intro j hj
 have hj:j∈i::(Fo[i]?.bind pY).toList:=hj
 rw [h,Option.bind_some,hn] at hj
 obtain rfl:=List.mem_singleton.mp hj
 exact h'.trans h.symm
theorem bA {ps:List Int} {i:Nat} {x:Item} (h:((ps.map V.int).map Item.one)[i]?=some x):∃ p,ps[i]?=some p/\x=.one (.int p):=by
 simp only [G3,Option.map_eq_some_iff] at h
 (refine ao h fun _ ζ1 ζ2=>?_;clear h;obtain⟨p,h1,rfl⟩:=ζ1;obtain rfl:=ζ2)
 exact aW p h1 rfl
theorem take_snoc {α:Type} {l:List α} {i:Nat} {a:α} (h:l[i]?=some a):l.take (i+1)=l.take i++[a]:=by
 refine rwE List.take_succ (rwE h ?_);rfl
theorem tX (s:String) (h:s.length<=100:=by decide):(Str.ofString s).length<=100:=by refine rwE (ofString_length ..) ?_;exact h
theorem ny {H:List O} {a:V} {i:Nat} {r:Bool}:inV H a (.ref i) r=H[i]?.elim False (inO H a r):=rfl
theorem in_list {H:List O} {a:V} {r:Bool} {xs:List V}:inO H a r (.list xs)=∃ d ds,Rd H d a/\Rds H ds xs/\SeqAt.shaped d=true/\SeqAt.shaped (.list ds)=true/\r=ds.any (fun y=>PyData.eqv y d):=rfl
theorem jE {xs:List V} {v:V}:place (xs++[v]).length (-1)=some xs.length/\(xs++[v])[xs.length]?=some v:=by
 constructor
 .unfold place;simp;simp +arith
 .exact fP rfl
theorem Al {C:Cfg} {H:List O} {i it l k:Nat} {xs:List V} {Q X:V->List O->Prop} (h1:H[i]?=some (.nextof it)) (h2:H[it]?=some (.liter l k)) (h3:H[l]?=some (.list xs)) (h0:0 < it) (hz:xs.length<=big)
  (h:match xs[k]? with | some v=>Q v (H.set it (.liter l (k+1))) | none=>C.ok/\X (.ref H.length) (H.set it .dead++[.exc (.ty "StopIteration") []])):gW C i H Q X:=
 ⟨it,l,k,xs,h1,h0,h2,h3,hz,h⟩
noncomputable def bodyOf (s:Stmt):List Stmt:=if h:s.ctorIdx=9 then Stmt.For.elim (motive_2:=fun _=>List Stmt) s h fun _ _ b _ _=>b
 else if h:s.ctorIdx=11 then Stmt.While.elim (motive_2:=fun _=>List Stmt) s h fun _ b _ _=>b else []
noncomputable def nth (l:List Stmt) (k:Nat):Stmt:=(l[k]?).getD (.Pass ⟨0,0,0,0⟩)
end Mine
namespace Mine
open PySem
noncomputable def ldV (C:Cfg) (m:Str->Option V) (x:Str) (n:NameKind):Option V:=match n with
 | .local | .cell | .free=>m x
 | .globalImplicit=>C.glob x
 | _=>none
noncomputable def pm (m:Str->Option V) (x:Str) (v:V):Str->Option V:=fun y=>if y=x then some v else m y
noncomputable def bk {α β:Type} (g:α->Tr β) (Q:β->Mine.St->Prop) (X:V->Mine.St->Prop):α->Mine.St->Prop:=fun a σ=>g a σ Q X
noncomputable def runK (Q:V->List O->Prop):Fl->Mine.St->Prop:=fun fl σ=>Q (match fl with | .ret v=>v | _=>.none) σ.H
noncomputable def xK (X:V->List O->Prop):V->Mine.St->Prop:=fun e σ=>X e σ.H
noncomputable def Cr:V->Tr Bool:=fun v σ Q _=>∃ b,gJ σ.H v=some b/\Q b σ
noncomputable def D3 (C:Cfg) (t:Expr) (b o:List Stmt) (sc:Scope) (ro:List Str):Src->Tr Fl:=fun v σ Q X=>C.ok/\∃ items,aY σ.H v=some items/\mU (cy C sc ro t) (a7 C b sc ro) (a7 C o sc ro) σ.H v items σ Q X
noncomputable def DU (C:Cfg) (sc:Scope) (ro:List Str) (x:Str) (n:Option Str) (hb:List Stmt) (Q:Fl->Mine.St->Prop):V->Mine.St->Prop:=fun e Fq=>∃ i c vs tv,e=.ref i/\Fq.H[i]?=some (.exc c vs) /\
   bH C sc x Fq (fun v Fj=>v=tv/\Fj=Fq) (fun _ _=>False)/\C.sub c tv=true/\nu n ro sc (a7 (noRaise C) hb sc ro) e Fq Q
noncomputable def cpK (Q:V->Mine.St->Prop) (n:Nat) (m:Str->Option V):Unit->Mine.St->Prop:=fun _ σ'=>Q (.ref n) ⟨σ'.H,m⟩
noncomputable def lcT (C:Cfg) (elt t:Expr) (ifs:List Expr) (gs:List Comprehension) (inner sc:Scope):Src->Tr V:=fun v σ Q _=>∃ items,aY σ.H v=some items /\
   dj (cy C (az sc inner) (freeNames inner) t) (eZ C ifs (az sc inner) (freeNames inner))
    (bu C gs (az sc inner) (freeNames inner) ((awE C elt (az sc inner) (freeNames inner)).bind fun x=>Tr.lift (ql σ.H.length x)))
    σ.H v items ⟨σ.H++[.list []],aS inner σ.m⟩ (cpK Q σ.H.length σ.m) (fun _ _=>False)
noncomputable def dcT (C:Cfg) (key val t:Expr) (ifs:List Expr) (gs:List Comprehension) (inner sc:Scope):Src->Tr V:=fun v σ Q _=>∃ items,aY σ.H v=some items /\
   dj (cy C (az sc inner) (freeNames inner) t) (eZ C ifs (az sc inner) (freeNames inner))
    (bu C gs (az sc inner) (freeNames inner) ((awE C key (az sc inner) (freeNames inner)).bind fun k=>(awE C val (az sc inner) (freeNames inner)).bind fun x=>Tr.lift (zY σ.H.length k x)))
    σ.H v items ⟨σ.H++[.dict [] 0],aS inner σ.m⟩ (cpK Q σ.H.length σ.m) (fun _ _=>False)
noncomputable def geT (C:Cfg) (t:Expr) (ifs:List Expr) (gs:List Comprehension) (sc:Scope) (ro:List Str) (leaf:Tr Unit):Src->Tr Unit:=fun v σ Q X=>∃ items,aY σ.H v=some items /\
   dj (cy C sc ro t) (eZ C ifs sc ro) (bu C gs sc ro leaf) σ.H v items σ Q X
noncomputable def enT (fv:V) (vs:List V):Tr Src:=fun σ Q _=>fv=.ty "enumerate" /\ ∃ v,vs=[v]/\Q (.enum v) σ
noncomputable def zpT (fv:V) (vs:List V):Tr Src:=fun σ Q _=>fv=.ty "zip" /\ ∃ v w,vs=[v,w]/\Q (.zip v w) σ
section
variable {C:Cfg} {sc:Scope} {ro:List Str} {σ:Mine.St} {Q:Fl->Mine.St->Prop} {X:V->Mine.St->Prop} {QV:V->Mine.St->Prop} {QU:Unit->Mine.St->Prop} {QB:Bool->Mine.St->Prop} {QL:List V->Mine.St->Prop} {QS:Src->Mine.St->Prop} {e l r o i x:Expr} {p q:Pos} {v w:V} {es:List Expr} {op:Operator} {k:Nat}
theorem D9 {α β:Type} {g:α->Tr β} {a:α} {Q:β->Mine.St->Prop}:bk g Q X a σ=g a σ Q X:=rfl
theorem A8 {α β:Type} {a:Tr α} {g:α->Tr β} {Q:β->Mine.St->Prop}:(a.bind g) σ Q X=a σ (bk g Q X) X:=rfl
theorem Bf {α:Type} {p:PH α} {Q:α->Mine.St->Prop}:(Tr.lift p) σ Q X=p σ.H (lf Q σ.m) (lf X σ.m):=rfl
theorem EL {α:Type} {Q:α->Mine.St->Prop} {m:Str->Option V} {a:α} {H:List O}:lf Q m a H=Q a ⟨H,m⟩:=rfl
theorem Dq {v:V} {Q:V->List O->Prop}:runK Q (.ret v) σ=Q v σ.H:=rfl
theorem Bk {Q:V->List O->Prop}:runK Q .next σ=Q .none σ.H:=rfl
theorem k_x {X:V->List O->Prop}:xK X v σ=X v σ.H:=rfl
theorem EC {n:Nat} {m:Str->Option V} {u:Unit}:cpK QV n m u σ=QV (.ref n) ⟨σ.H,m⟩:=rfl
theorem AX (h:c9 e=false):awS C (.Expr e p) sc ro σ Q X=awE C e sc ro σ (bk (fun _=>Tr.pure .next) Q X) X:=B4 h
theorem vp:awS C (.Return (some e) p) sc ro σ Q X=awE C e sc ro σ (bk (fun v=>Tr.pure (.ret v)) Q X) X:=rfl
theorem vm {ts:List Expr} (h:(aZ e || ts.any isStar)=false):awS C (.Assign ts e p) sc ro σ Q X=awE C e sc ro σ (bk (fun v=>(jS C v sc ro ts).bind fun _=>Tr.pure .next) Q X) X:=wA h
theorem Ex {t:Expr} {b o:List Stmt}:awS C (.If t b o p) sc ro σ Q X=awT C t (awE C t sc ro) sc ro σ (bk (fun r=>if r then a7 C b sc ro else a7 C o sc ro) Q X) X:=rfl
theorem CX {t i:Expr} {b o:List Stmt}:awS C (.For t i b o p) sc ro σ Q X=bw C i (awE C i sc ro) sc ro σ (bk (D3 C t b o sc ro) Q X) X:=rfl
theorem sD {x:Str}:awS C (.AugAssign (.Name x p) op e q) sc ro σ Q X=bH C sc x σ (bk (fun a=>(awE C e sc ro).bind fun b=>(pV op a b).bind fun r=>(bI sc ro x r).bind fun _=>Tr.pure .next) Q X) X:=rfl
theorem sC {name:Str}:awS C (.AugAssign (.Attribute o name p) op e q) sc ro σ Q X=awE C o sc ro σ (bk (fun ov=>(Tr.lift (cV C ov name)).bind fun a=>(awE C e sc ro).bind fun b=>(pV op a b).bind fun r=>(Tr.lift (bZ C ov name r)).bind fun _=>Tr.pure .next) Q X) X:=rfl
theorem vn (h:aF i=false):awS C (.AugAssign (.Subscript o i p) op e q) sc ro σ Q X=awE C o sc ro σ (bk (fun ov=>(awE C i sc ro).bind fun iv=>(Tr.lift (ba ov iv)).bind fun a=>(awE C e sc ro).bind fun b=>(pV op a b).bind fun r=>(Tr.lift (bS ov iv r)).bind fun _=>Tr.pure .next) Q X) X:=wB h
theorem C3 {i j:Int} (h:op=.Add\/op=.Sub):pV op (.int i) (.int j) σ QV X=jT op (.int i) (.int j) σ.H (lf QV σ.m) (lf X σ.m):=uy.trans (propext ⟨fun q=>q.2,fun q=>⟨h,q⟩⟩)
theorem CW (h:aF i=false):awS C (.Delete [.Subscript o i p] q) sc ro σ Q X=awE C o sc ro σ (bk (fun ov=>(awE C i sc ro).bind fun iv=>(Tr.lift (dq ov iv)).bind fun _=>Tr.pure .next) Q X) X:=DO h
theorem C0 {b hb:List Stmt} {x:Str} {np hp:Pos} {n:Option Str} (h:C.ok/\hb.isEmpty=false):awS C (.Try b [.ExceptHandler (some (.Name x np)) n hb hp] [] [] p) sc ro σ Q X=a7 C b sc ro σ Q (DU C sc ro x n hb Q):=DP.trans (propext ⟨fun q=>q.2,fun q=>⟨h,q⟩⟩)
theorem EB {t:Expr} {r:List Expr}:jS C v sc ro (t::r) σ QU X=awA C t v sc ro σ (bk (fun _=>jS C v sc ro r) QU X) X:=rfl
theorem yp {name:Str}:awA C (.Attribute o name p) v sc ro σ QU X=awE C o sc ro σ (bk (fun ov=>Tr.lift (bZ C ov name v)) QU X) X:=rfl
theorem AZ (h:aF i=false):awA C (.Subscript o i p) v sc ro σ QU X=awE C o sc ro σ (bk (fun ov=>(awE C i sc ro).bind fun iv=>Tr.lift (bS ov iv v)) QU X) X:=Cz h
theorem EW {x:Str} {xs:List Str} {vs:List V}:storeAll sc ro (x::xs) (v::vs) σ QU X=bI sc ro x v σ (bk (fun _=>storeAll sc ro xs vs) QU X) X:=rfl
theorem wX {ns:List Str} {vs:List V} (h:C.ok/\namesOf es=some ns/\ns.length<=8) (hv:er σ.H v=some vs):awA C (.Tuple es k p) v sc ro σ QU X=storeAll sc ro ns vs σ QU X:=by
 refine xw.trans ?_;apply propext;constructor
 ·(intro ζ1;obtain⟨_,ζ2⟩:=ζ1;refine jh ζ2 fun a b h1 h2 _ q=>?_;clear ζ2);rw [h.2.1] at h1;rw [hv] at h2;cases h1;cases h2;exact q
 .intro q;exact⟨h.1,_,_,h.2.1,hv,h.2.2,q⟩
theorem yt {a b:V} {x y:Str} (h:C.ok/\namesOf es=some [x,y]):cy C sc ro (.Tuple es k p) (.pair a b) σ QU X=storeAll sc ro [x,y] [a,b] σ QU X:=by
 refine AS.trans ?_;apply propext;constructor
 ·(intro ζ3;obtain⟨_,ζ4⟩:=ζ3;refine bq ζ4 fun a b h1 q=>?_;clear ζ4);rw [h.2] at h1;cases h1;exact q
 .intro q;exact⟨h.1,_,_,h.2,q⟩
theorem wY {x:Str} {n:NameKind} (hk:sc.names.lookup x=some n) (h:ldV C σ.m x n=some w):bH C sc x σ QV X=QV w σ:=by
 have e:∀ {f:Option V},f=some w->(∃ v,f=some v/\QV v σ)=QV w σ:=fun {f} hf=>propext ⟨fun ⟨v,a,q⟩=>by rw [hf] at a;cases a;exact q,fun q=>⟨w,hf,q⟩⟩
 unfold bH;refine rwE hk ?_
 induction n<;>first | exact e h | exact nS h
theorem dN {x:Str} {n:NameKind} (hk:sc.names.lookup x=some n) (h:n=.local\/n=.cell) (hr:x∉ro):bI sc ro x v σ QU X=QU () ⟨σ.H,pm σ.m x v⟩:=by
 rcases h with rfl | rfl
 .refine (E5 hk).trans ?_;exact propext ⟨fun q=>q.2,fun q=>⟨hr,q⟩⟩
 .refine (E4 hk).trans ?_;exact propext ⟨fun q=>q.2,fun q=>⟨hr,q⟩⟩
theorem yl {x:Str}:awE C (.NamedExpr (.Name x p) e q) sc ro σ QV X=awE C e sc ro σ (bk (fun a=>(bI sc ro x a).bind fun _=>Tr.pure a) QV X) X:=rfl
theorem CU (h:op=.BitOr->C.sets):awE C (.BinOp l op r p) sc ro σ QV X=awE C l sc ro σ (bk (fun a=>(awE C r sc ro).bind fun b=>Tr.lift (jT op a b)) QV X) X:=propext ⟨fun q=>q.2,fun q=>⟨h,q⟩⟩
theorem CY:awE C (.UnaryOp .Not x p) sc ro σ QV X=awE C x sc ro σ (bk (fun a=>(Cr a).bind fun b=>Tr.pure (.bool !b)) QV X) X:=rfl
theorem CV {op:CmpOp} (h:behindInMarks op r=false):awE C (.Compare l [op] [r] p) sc ro σ QV X=awE C l sc ro σ (bk (fun a=>(awE C r sc ro).bind fun b=>(Tr.lift (f9 op a b)).bind fun r=>Tr.pure (.bool r)) QV X) X:=propext ⟨fun q=>q.2,fun q=>⟨h,q⟩⟩
theorem yi {name:Str} {ap:Pos} {args:List Expr} (h:baseOk o=true/\(ap.endLine == p.line)=true):awE C (.Call (.Attribute o name ap) args [] p) sc ro σ QV X=awE C o sc ro σ (bk (fun ov=>(eB C (c8 args) ov name).bind fun c=>(aI C args sc ro).bind fun vs=>Tr.lift (methP C c ov name vs)) QV X) X:=propext ⟨fun q=>q.2,fun q=>⟨h,q⟩⟩
theorem yj {x:Str} {np:Pos} {args:List Expr}:awE C (.Call (.Name x np) args [] p) sc ro σ QV X=bH C sc x σ (bk (fun fv=>(aI C args sc ro).bind fun vs=>Tr.lift (iw C fv vs)) QV X) X:=rfl
theorem yk {sp:Pos} {args:List Expr}:awE C (.Call (.Subscript o i sp) args [] p) sc ro σ QV X=awE C (.Subscript o i sp) sc ro σ (bk (fun fv=>(aI C args sc ro).bind fun vs=>Tr.lift (iw C fv vs)) QV X) X:=rfl
theorem AV {name:Str} (h:baseOk o=true):awE C (.Attribute o name p) sc ro σ QV X=awE C o sc ro σ (bk (fun ov=>Tr.lift (cV C ov name)) QV X) X:=propext ⟨fun q=>q.2,fun q=>⟨h,q⟩⟩
theorem yn {lo hi:Option Expr} {sp:Pos}:awE C (.Subscript o (.Slice lo hi none sp) p) sc ro σ QV X=awE C o sc ro σ (bk (fun ov=>(awO C lo sc ro).bind fun l=>(awO C hi sc ro).bind fun h=>Tr.lift (pK ov l h)) QV X) X:=rfl
theorem CZ (h:aF i=false):awE C (.Subscript o i p) sc ro σ QV X=awE C o sc ro σ (bk (fun ov=>(awE C i sc ro).bind fun iv=>Tr.lift (ba ov iv)) QV X) X:=CI h
theorem AY:awE C (.List es p) sc ro σ QV X=mY C es sc ro σ (bk (fun vs=>Tr.lift (newList vs)) QV X) X:=rfl
theorem yo:awE C (.Tuple es k p) sc ro σ QV X=mY C es sc ro σ (bk (fun vs=>Tr.lift (newTuple vs)) QV X) X:=rfl
theorem AW:awE C (.Dict [] [] p) sc ro σ QV X=mV (.dict [] 0) σ.H (lf QV σ.m) (lf X σ.m):=rfl
theorem Ez {elt t it:Expr} {ifs:List Expr} {a:Int} {gs:List Comprehension} {inner:Scope} (h:a=0/\C.ok/\cH sc inner=true):awE C (.ListComp elt (⟨t,it,ifs,a⟩::gs) inner p) sc ro σ QV X=bw C it (awE C it sc ro) sc ro σ (bk (lcT C elt t ifs gs inner sc) QV X) X:=propext ⟨fun q=>q.2,fun q=>⟨h,q⟩⟩
theorem Ew {key val t it:Expr} {ifs:List Expr} {a:Int} {gs:List Comprehension} {inner:Scope} (h:a=0/\C.ok/\cH sc inner=true):awE C (.DictComp key val (⟨t,it,ifs,a⟩::gs) inner p) sc ro σ QV X=bw C it (awE C it sc ro) sc ro σ (bk (dcT C key val t ifs gs inner sc) QV X) X:=propext ⟨fun q=>q.2,fun q=>⟨h,q⟩⟩
theorem k_g {t it:Expr} {ifs:List Expr} {a:Int} {gs:List Comprehension} {leaf:Tr Unit} (h:a=0):bu C (⟨t,it,ifs,a⟩::gs) sc ro leaf σ QU X=bw C it (awE C it sc ro) sc ro σ (bk (geT C t ifs gs sc ro leaf) QU X) X:=propext ⟨fun q=>q.2,fun q=>⟨h,q⟩⟩
theorem De {x:Expr} {r:List Expr}:eZ C (x::r) sc ro σ QB X=awT C x (awE C x sc ro) sc ro σ (bk (fun b=>if b then eZ C r sc ro else Tr.pure false) QB X) X:=rfl
theorem EE {r:List Expr} (h:isStar e=false):mY C (e::r) sc ro σ QL X=awE C e sc ro σ (bk (fun v=>(mY C r sc ro).bind fun vs=>Tr.pure (v::vs)) QL X) X:=xX h
theorem EA {r:List Expr} (h:isStar e=false):aI C (e::r) sc ro σ QL X=awE C e sc ro σ (bk (fun v=>(aI C r sc ro).bind fun vs=>Tr.pure (v::vs)) QL X) X:=xB h
theorem C2 {r:List Expr}:aI C (.Starred e p::r) sc ro σ QL X=awE C e sc ro σ (bk (fun v=>(om C v).bind fun vs=>(aI C r sc ro).bind fun ws=>Tr.pure (vs++ws)) QL X) X:=rfl
theorem Bm {w:Tr V}:awT C (.UnaryOp .Not x p) w sc ro σ QB X=awT C x (awE C x sc ro) sc ro σ (bk (fun b=>Tr.pure (!b)) QB X) X:=rfl
theorem Bl {op:CmpOp} {w:Tr V} (h:behindInMarks op r=false):awT C (.Compare l [op] [r] p) w sc ro σ QB X=awE C l sc ro σ (bk (fun a=>(awE C r sc ro).bind fun b=>Tr.lift (f9 op a b)) QB X) X:=propext ⟨fun q=>q.2,fun q=>⟨h,q⟩⟩
theorem k_t {w:Tr V} (h:dQ e=true):awT C e w sc ro σ QB X=w σ (bk Cr QB X) X:=zK h
theorem EX {op:BoolOp} {r:List Expr}:xM C op (x::r) sc ro σ QB X=awT C x (awE C x sc ro) sc ro σ (bk (fun b=>if b=(op == .Or) then Tr.pure b else xM C op r sc ro) QB X) X:=rfl
theorem EK {w:Tr V} (h:cL e=true):bw C e w sc ro σ QS X=w σ (bk (fun v=>Tr.pure (.one v)) QS X) X:=vd h
theorem Dh {s:String} {np:Pos} {args:List Expr} {w:Tr V} (h1:s ≠ "enumerate") (h2:s ≠ "zip"):bw C (.Call (.Name (Str.ofString s) np) args [] p) w sc ro σ QS X=w σ (bk (fun v=>Tr.pure (.one v)) QS X) X:=by
 refine nA.trans ((if_neg h1).trans ((if_neg h2).trans ?_));rfl
theorem Di {np:Pos} {args:List Expr} {w:Tr V}:bw C (.Call (.Name (Str.ofString "enumerate") np) args [] p) w sc ro σ QS X=bH C sc (Str.ofString "enumerate") σ (bk (fun fv=>(aI C args sc ro).bind fun vs=>enT fv vs) QS X) X:=by
 refine nA.trans ((if_pos rfl).trans ?_);rfl
theorem Dj {np:Pos} {args:List Expr} {w:Tr V}:bw C (.Call (.Name (Str.ofString "zip") np) args [] p) w sc ro σ QS X=bH C sc (Str.ofString "zip") σ (bk (fun fv=>(aI C args sc ro).bind fun vs=>zpT fv vs) QS X) X:=by
 refine nA.trans ((if_neg (by decide)).trans ((if_pos rfl).trans ?_));rfl
theorem ED:enT (.ty "enumerate") [v] σ QS X=QS (.enum v) σ:=propext ⟨fun ⟨_,_,e,q⟩=>by cases e;exact q,fun q=>⟨rfl,_,rfl,q⟩⟩
theorem EZ:zpT (.ty "zip") [v,w] σ QS X=QS (.zip v w) σ:=propext ⟨fun ⟨_,_,_,e,q⟩=>by cases e;exact q,fun q=>⟨rfl,_,_,rfl,q⟩⟩
theorem zW {α:Type} {f:Option α} {a:α} {P:α->Prop} (h:f=some a):(∃ b,f=some b/\P b)=P a:=propext ⟨fun ⟨b,e,q⟩=>by rw [h] at e;cases e;exact q,fun q=>⟨a,h,q⟩⟩
theorem Bo {b:Bool} (h:gJ σ.H v=some b):Cr v σ QB X=QB b σ:=zW h
theorem Bp {i:Nat} {xs:List V} (h:σ.H[i]?=some (.list xs)):Cr (.ref i) σ QB X=QB (!xs.isEmpty) σ:=Bo (by refine rwE jL (rwE h ?_);rfl)
theorem wZ {vs:List V} (h:er σ.H v=some vs) (h2:C.ok/\vs.length<=big):om C v σ QL X=QL vs σ:=propext ⟨fun ⟨_,e,_,_,q⟩=>by rw [h] at e;cases e;exact q,fun q=>⟨_,h,h2.1,h2.2,q⟩⟩
theorem k_T {α:Type} {A B:Tr α} {Q:α->Mine.St->Prop}:(if true=true then A else B) σ Q X=A σ Q X:=rfl
theorem k_F {α:Type} {A B:Tr α} {Q:α->Mine.St->Prop}:(if false=true then A else B) σ Q X=B σ Q X:=rfl
theorem EY {α:Type} {c:Prop} [Decidable c] {A B:Tr α} {Q:α->Mine.St->Prop} (h:c):(if c then A else B) σ Q X=A σ Q X:=by exact rwE (if_pos h) rfl
theorem Ea {α:Type} {c:Prop} [Decidable c] {A B:Tr α} {Q:α->Mine.St->Prop} (h:¬ c):(if c then A else B) σ Q X=B σ Q X:=by exact rwE (if_neg h) rfl
theorem Dk {α:Type} {c:Prop} [Decidable c] {A B:Tr α} {Q:α->Mine.St->Prop}:(if c then A else B) σ Q X=((c->A σ Q X)/\(¬ c->B σ Q X)):=by
 by_cases h:c
 .refine rwE (if_pos h) ?_;exact propext ⟨fun q=>⟨fun _=>q,fun n=>absurd h n⟩,fun q=>q.1 h⟩
 .refine rwE (if_neg h) ?_;exact propext ⟨fun q=>⟨fun n=>absurd n h,fun _=>q⟩,fun q=>q.2 h⟩
theorem Bb {i:Nat} {xs:List V} {name:Str} {few:Bool} {QC:Callee->Mine.St->Prop} (h:σ.H[i]?=some (.list xs)) (h2:few=true/\(dE name).isSome=true):eB C few (.ref i) name σ QC X=QC .list σ:=zW (P:=fun c=>QC c σ) (by
 obtain⟨rfl,h2⟩:=h2
 refine rwE oM (rwE h ?_);induction e:dE name
 .rw [e] at h2;exact Bool.noConfusion h2
 .rfl)
theorem A9 {i:Nat} {es:List (Int × V)} {n:Nat} {name:Str} {few:Bool} {QC:Callee->Mine.St->Prop} (h:σ.H[i]?=some (.dict es n)) (h2:few=true/\(fg name).isSome=true):eB C few (.ref i) name σ QC X=QC .dict σ:=zW (P:=fun c=>QC c σ) (by
 obtain⟨rfl,h2⟩:=h2
 refine rwE oM (rwE h ?_);induction e:fg name
 .rw [e] at h2;exact Bool.noConfusion h2
 .rfl)
theorem Ba {i:Nat} {c a:Addr} {fs:Str->Option V} {name:Str} {few:Bool} {QC:Callee->Mine.St->Prop} (h:σ.H[i]?=some (.inst c fs)) (h2:C.meth c name=some a):eB C few (.ref i) name σ QC X=QC (.fn a) σ:=zW (P:=fun c=>QC c σ) (by refine rwE oM (rwE h ?_);refine (?_:(C.meth c name).map Callee.fn=_);refine rwE h2 ?_;rfl)
end
section
variable {C:Cfg} {H:List O} {i:Nat} {xs:List V} {es:List (Int × V)} {n:Nat} {name:Str} {v w:V} {args:List V} {c:Addr} {fs:Str->Option V} {Q X:V->List O->Prop} {QU:Unit->List O->Prop} {QB:Bool->List O->Prop}
theorem EN (h:H[i]?=some (.list xs)):methP C .list (.ref i) name args H Q X=bf i xs name args H Q X:=by
 refine yY.trans ?_;apply propext;constructor
 ·(intro ζ5;refine ao ζ5 fun a e q=>?_;clear ζ5);rw [h] at e;cases e;exact q
 .intro q;exact aW _ h q
theorem EM (h:H[i]?=some (.dict es n)):methP C .dict (.ref i) name args H Q X=bX i es name args H Q X:=by
 refine yX.trans ?_;apply propext;constructor
 ·(intro ζ6;refine bq ζ6 fun a b e q=>?_;clear ζ6);rw [h] at e;cases e;exact q
 .intro q;exact wV _ _ h q
theorem Dd (h:H[i]?=some (.inst c fs)) (h2:C.attr c name=true) (h3:fs name=some w) (h4:BA w=true):cV C (.ref i) name H Q X=Q w H:=by
 refine rwE iG (rwE h ?_);apply propext;constructor
 ·(intro ζ7;refine bW ζ7 fun a _ e _ q=>?_;clear ζ7);rw [h3] at e;cases e;exact q
 .intro q;exact zR _ h2 h3 h4 q
theorem ER (h:xs.length<=big):newList xs H Q X=Q (.ref H.length) (H++[.list xs]):=propext ⟨fun q=>q.2,fun q=>⟨h,q⟩⟩
theorem ES (h:xs.length<=big):newTuple xs H Q X=Q (.ref H.length) (H++[.tuple xs]):=propext ⟨fun q=>q.2,fun q=>⟨h,q⟩⟩
theorem Dm {i j:Int} (h:0 < j/\j < 2 ^ 30):jT .Mod (.int i) (.int j) H Q X=Q (.int (i % j)) H:=propext ⟨fun q=>q.2.2,fun q=>⟨h.1,h.2,q⟩⟩
theorem C9 {i j:Int} (h:0 < j/\j < 2 ^ 30):jT .FloorDiv (.int i) (.int j) H Q X=Q (.int (i / j)) H:=propext ⟨fun q=>q.2.2,fun q=>⟨h.1,h.2,q⟩⟩
theorem EJ {a:V}:f9 .Is a .none H QB X=QB (decide (a=.none)) H:=propext ⟨fun q=>q.2,fun q=>⟨rfl,q⟩⟩
theorem yu {a:V}:f9 .IsNot a .none H QB X=QB (decide (a≠.none)) H:=propext ⟨fun q=>q.2,fun q=>⟨rfl,q⟩⟩
end
noncomputable def cmB (inner:Tr Unit) (R:Mine.St->Prop) (X:V->Mine.St->Prop):Bool->Mine.St->Prop:=fun b Fj=>(b=true->inner Fj (fun _=>R) X)/\(b=false->R Fj)
noncomputable def whB (body orelse:Tr Fl) (R:Mine.St->Prop) (Q:Fl->Mine.St->Prop) (X:V->Mine.St->Prop):Bool->Mine.St->Prop:=fun b Fq=>(b=true->body Fq (gQ R Q) X)/\(b=false->orelse Fq Q X)
section
variable {R:Mine.St->Prop} {σ:Mine.St} {X:V->Mine.St->Prop} {Q:Fl->Mine.St->Prop}
theorem C6 {inner:Tr Unit} {b:Bool} (h:b=true):cmB inner R X b σ=inner σ (fun _=>R) X:=by subst h;exact propext ⟨fun q=>q.1 rfl,fun q=>⟨fun _=>q,nofun⟩⟩
theorem C5 {inner:Tr Unit} {b:Bool} (h:b=false):cmB inner R X b σ=R σ:=by subst h;exact propext ⟨fun q=>q.2 rfl,fun q=>⟨nofun,fun _=>q⟩⟩
theorem Du {body orelse:Tr Fl} {b:Bool} (h:b=true):whB body orelse R Q X b σ=body σ (gQ R Q) X:=by subst h;exact propext ⟨fun q=>q.1 rfl,fun q=>⟨fun _=>q,nofun⟩⟩
theorem Dt {body orelse:Tr Fl} {b:Bool} (h:b=false):whB body orelse R Q X b σ=orelse σ Q X:=by subst h;exact propext ⟨fun q=>q.2 rfl,fun q=>⟨nofun,fun _=>q⟩⟩
theorem aO {asg:Item->Tr Unit} {ifs:Tr Bool} {inner:Tr Unit} {Fo:List O} {src:Src} {items:List Item} {QU:Unit->Mine.St->Prop} (I:Nat->Mine.St->Prop) (h0:I 0 σ)
  (step:∀ i x σ (R:Mine.St->Prop),items[i]?=some x->I i σ->(∀ Fj,I (i+1) Fj->R Fj)->kZ Fo src σ.H/\asg x σ (bk (fun _=>ifs) (cmB inner R X) X) X)
  (done:∀ σ,I items.length σ->kZ Fo src σ.H/\QU () σ):dj asg ifs inner Fo src items σ QU X:=uJ I h0 step done
theorem dZ {test:Tr Bool} {body orelse:Tr Fl} (I:Nat->Mine.St->Prop) {n:Nat} (h0:I n σ)
  (step:∀ n σ,I n σ->test σ (whB body orelse (fun Fj=>∃ k,k < n/\I k Fj) Q X) X):pP test body orelse σ Q X:=t8 I h0 step
end
theorem cO {C:Cfg} {fn:Fn} {args:List V} {H:List O} {Q X:V->List O->Prop} {body:List Stmt} {ps:List Str} (hb:fn.body=body) (hp:fn.params=ps) (hv:fn.vararg=none) (hd:fn.defaults=[]) (hl:args.length=ps.length) :
  eN C fn args H Q X=a7 C body fn.scope [] ⟨H,fun x=>(ps.zip args).lookup x⟩ (runK Q) (xK X):=by
 unfold eN jq
 refine rwE hb (rwE hp (rwE hv (rwE hd ?_)))
 have h1:args.take ps.length=args:=List.take_of_length_le (by simp_all)
 simp only [h1,hl,List.length_nil,List.drop_nil,List.append_nil,Nat.sub_self,Nat.add_zero,ge_iff_le,Nat.le_refl,true_and]
 rfl
theorem Dl {α:Type} {Q:α->Mine.St->Prop} {m:Str->Option V} {a:α} {H:List O} (h:Q a ⟨H,m⟩):lf Q m a H:=h
theorem C4 {α β:Type} {g:α->Tr β} {a:α} {Q:β->Mine.St->Prop} {X:V->Mine.St->Prop} {σ:Mine.St} (h:g a σ Q X):bk g Q X a σ:=h
section
variable {C:Cfg} {H:List O} {i j:Nat} {k:Int} {xs:List V} {es:List (Int × V)} {n:Nat} {name:Str} {v:V} {c:Addr} {fs:Str->Option V} {Q X:V->List O->Prop} {QU:Unit->List O->Prop}
theorem EG (h:H[i]?=some (.dict es n)) (h2:dF es k=some v):ba (.ref i) (.int k) H Q X=Q v H:=by
 refine rwE rT (rwE h ?_);exact zW (P:=fun v=>Q v H) h2
theorem EH (h:H[i]?=some (.list xs)) (h1:place xs.length k=some j) (h2:xs[j]?=some v) (h3:-(2 ^ 62)<=k/\k < 2 ^ 62):ba (.ref i) (.int k) H Q X=Q v H:=by
 refine rwE rT (rwE h ?_);apply propext;constructor
 ·(intro ζ8;refine jh ζ8 fun a b e1 e2 _ ζ9=>?_;clear ζ8;obtain⟨_,q⟩:=ζ9);rw [h1] at e1;cases e1;rw [h2] at e2;cases e2;exact q
 .intro q;exact zT _ _ h1 h2 h3.1 h3.2 q
theorem Dr (h:H[i]?=some (.inst c fs)) (h2:C.attr c name=true) (h3:0 < i):bZ C (.ref i) name v H QU X=QU () (H.set i (.inst c fun x=>if x=name then some v else fs x)):=by
 refine i6.trans ?_;apply propext;constructor
 ·(intro Ft;obtain⟨_,Fp⟩:=Ft;refine fh Fp fun a b e _ q=>?_;clear Fp);rw [h] at e;cases e;exact q
 .intro q;exact⟨h3,_,_,h,h2,q⟩
end
section
variable {H:List O} {i:Nat} {k:Int} {es:List (Int × V)} {v:V} {Q X:V->List O->Prop}
theorem C8 (h:dF es k=some v):bX i es (Str.ofString "get") [.int k] H Q X=Q v H:=by refine rwE sP (rwE h ?_);rfl
theorem C7 (h:dF es k=none):bX i es (Str.ofString "get") [.int k] H Q X=Q .none H:=by refine rwE sP (rwE h ?_);rfl
end
noncomputable def exT (c:V):List V->Tr Fl:=fun vs σ _ X=>vs.length<=10/\X (.ref σ.H.length) ⟨σ.H++[.exc c vs],σ.m⟩
noncomputable def raT (C:Cfg) (args:List Expr) (sc:Scope) (ro:List Str):V->Tr Fl:=fun c σ Q X=>(c8 args=true/\C.ok/\C.exc c=true)/\aI C args sc ro σ (bk (exT c) Q X) X
noncomputable def joT:Unit->Tr V:=fun _ σ Q _=>∀ s:Str,s.length<=10000->Q (.str s) σ
noncomputable def fmT (C:Cfg) (cv:Int) (r:List Expr) (sc:Scope) (ro:List Str):V->Tr Unit:=fun v σ Q X=>cv=114/\(∃ k,v=.int k/\small k)/\bJ C r sc ro σ Q X
section
variable {C:Cfg} {sc:Scope} {ro:List Str} {σ:Mine.St} {Q:Fl->Mine.St->Prop} {X:V->Mine.St->Prop} {QV:V->Mine.St->Prop} {QU:Unit->Mine.St->Prop} {p:Pos} {c:V} {vs:List V} {args es:List Expr}
theorem ym {x:Str} {np cp:Pos}:awS C (.Raise (some (.Call (.Name x np) args [] cp)) none p) sc ro σ Q X=bH C sc x σ (bk (raT C args sc ro) Q X) X:=rfl
theorem EV (h:c8 args=true/\C.ok/\C.exc c=true):raT C args sc ro c σ Q X=aI C args sc ro σ (bk (exT c) Q X) X:=propext ⟨fun q=>q.2,fun q=>⟨h,q⟩⟩
theorem Dc (h:vs.length<=10):exT c vs σ Q X=X (.ref σ.H.length) ⟨σ.H++[.exc c vs],σ.m⟩:=propext ⟨fun q=>q.2,fun q=>⟨h,q⟩⟩
theorem Ey (h:es.length<=20):awE C (.JoinedStr es p) sc ro σ QV X=bJ C es sc ro σ (bk joT QV X) X:=propext ⟨fun q=>q.2,fun q=>⟨h,q⟩⟩
theorem EU {s:Str} {k:Nat} (h:s.length<=100):bJ C (.Constant (.str s) k p::es) sc ro σ QU X=bJ C es sc ro σ QU X:=propext ⟨fun q=>q.2,fun q=>⟨h,q⟩⟩
theorem ET {e:Expr} {cv:Int}:bJ C (.FormattedValue e cv none p::es) sc ro σ QU X=awE C e sc ro σ (bk (fmT C cv es sc ro) QU X) X:=rfl
theorem EF {cv k:Int} (h:cv=114/\small k):fmT C cv es sc ro (.int k) σ QU X=bJ C es sc ro σ QU X:=propext ⟨fun q=>q.2.2,fun q=>⟨h.1,⟨k,rfl,h.2⟩,q⟩⟩
end
section
variable {H:List O} {i:Nat} {xs:List V} {v:V} {Q X:V->List O->Prop}
theorem C1 (h0:0 < i) (h:xs.length < big):bf i xs (Str.ofString "append") [v] H Q X=Q .none (H.set i (.list (xs++[v]))):=lY.trans (propext ⟨fun q=>q.2.2,fun q=>⟨h0,h,q⟩⟩)
end
noncomputable def hsK (Q:Fl->Mine.St->Prop) (x:Str):Fl->Mine.St->Prop:=fun f FF=>Q f ⟨FF.H,fun y=>if y=x then none else FF.m y⟩
section
variable {C:Cfg} {sc:Scope} {ro:List Str} {σ:Mine.St} {Q:Fl->Mine.St->Prop}
theorem Ds {x:Str} {n:Option Str} {hb:List Stmt} {m:NameKind} {i:Nat} {c tv:V} {vs:List V} (hk:sc.names.lookup x=some m) (hv:ldV C σ.m x m=some tv) (h:σ.H[i]?=some (.exc c vs)) (hs:C.sub c tv=true) :
  DU C sc ro x n hb Q (.ref i) σ=nu n ro sc (a7 (noRaise C) hb sc ro) (.ref i) σ Q:=by
 apply propext;constructor
 ·(intro Fx;refine gP Fx fun _ _ _ _ Fy=>?_;clear Fx;refine rH Fy fun _ _ _ _ q=>?_;clear Fy);exact q
 .intro q;exact⟨i,c,vs,tv,rfl,h,by rw [wY hk hv];exact⟨rfl,rfl⟩,hs,q⟩
theorem Bd {x:Str} {body:Tr Fl} {e:V} (h:x∉ro) (hk:sc.names.lookup x=some .local):nu (some x) ro sc body e σ Q=body ⟨σ.H,pm σ.m x e⟩ (hsK Q x) (fun _ _=>False):=by
 refine rY.trans ?_;exact propext ⟨fun q=>q.2.2,fun q=>⟨h,hk,q⟩⟩
theorem EI {x:Str} {f:Fl}:hsK Q x f σ=Q f ⟨σ.H,fun y=>if y=x then none else σ.m y⟩:=rfl
end
section
variable {H:List O} {i:Nat} {k:Int} {ks:List Int} {es:List (Int × V)} {n:Nat} {QB:Bool->List O->Prop} {X:V->List O->Prop}
theorem Eb {r:Bool} {b:V} (h:∀ r',inV H (.int k) b r'=(r'=r)):f9 .In (.int k) b H QB X=QB r H:=by
 refine D0.trans ?_;simp only [h,exists_eq_left]
theorem Bg {r:Bool} {b:V} (h:∀ r',inV H (.int k) b r'=(r'=r)):f9 .NotIn (.int k) b H QB X=QB (!r) H:=by
 refine rl.trans ?_;simp only [h,exists_eq_left]
theorem inS (h:H[i]?=some (.set ks)) (r:Bool):inV H (.int k) (.ref i) r=(r=decide (k∈ks)):=by
 refine rwE ny (rwE h ?_);exact propext ⟨fun ⟨_,e,q⟩=>by cases e;exact q,fun q=>⟨k,rfl,q⟩⟩
theorem inD (h:H[i]?=some (.dict es n)) (r:Bool):inV H (.int k) (.ref i) r=(r=(dF es k).isSome):=by
 refine rwE ny (rwE h ?_);exact propext ⟨fun ⟨_,e,q⟩=>by cases e;exact q,fun q=>⟨k,rfl,q⟩⟩
theorem Dg (h:H[i]?=some (.set ks)):f9 .In (.int k) (.ref i) H QB X=QB (decide (k∈ks)) H:=Eb (inS h)
theorem Df (h:H[i]?=some (.dict es n)):f9 .In (.int k) (.ref i) H QB X=QB (dF es k).isSome H:=Eb (inD h)
theorem Bj (h:H[i]?=some (.set ks)):f9 .NotIn (.int k) (.ref i) H QB X=QB (!decide (k∈ks)) H:=Bg (inS h)
theorem Bh (h:H[i]?=some (.dict es n)):f9 .NotIn (.int k) (.ref i) H QB X=QB (!(dF es k).isSome) H:=Bg (inD h)
end
theorem Bc {C:Cfg} {σ:Mine.St} {X:V->Mine.St->Prop} {i:Nat} {ks:List Int} {name:Str} {few:Bool} {QC:Callee->Mine.St->Prop} (h:σ.H[i]?=some (.set ks)) (h2:few=true/\(mC name).isSome=true):eB C few (.ref i) name σ QC X=QC .set σ:=zW (P:=fun c=>QC c σ) (by
 obtain⟨rfl,h2⟩:=h2
 refine rwE oM (rwE h ?_);induction e:mC name
 .rw [e] at h2;exact Bool.noConfusion h2
 .rfl)
theorem EO {C:Cfg} {H:List O} {i:Nat} {ks:List Int} {name:Str} {args:List V} {Q X:V->List O->Prop} (h:H[i]?=some (.set ks)):methP C .set (.ref i) name args H Q X=fS i ks name args H Q X:=by
 refine w9.trans ?_;apply propext;constructor
 ·(intro Fz;refine ao Fz fun a e q=>?_;clear Fz);rw [h] at e;cases e;exact q
 .intro q;exact aW _ h q
theorem Dn {o:O} {H:List O} {Q X:V->List O->Prop} (h:Q (.ref H.length) (H++[o])):mV o H Q X:=h
section
variable {C:Cfg} {sc:Scope} {ro:List Str} {σ:Mine.St} {X:V->Mine.St->Prop} {QU:Unit->Mine.St->Prop} {es:List Expr} {k i:Nat} {p:Pos} {ns:List Str} {vs:List V}
theorem Be (h0:C.ok) (h1:namesOf es=some ns) (h2:ns.length<=8) (h:σ.H[i]?=some (.list vs)):cy C sc ro (.Tuple es k p) (.one (.ref i)) σ QU X=storeAll sc ro ns vs σ QU X:=by
 refine yb.trans ?_;apply propext;constructor
 ·(intro FD;obtain⟨_,FE⟩:=FD;refine jh FE fun a b e1 e2 _ q=>?_;clear FE);rw [h1] at e1;replace e2:=(show er σ.H (.ref i)=some vs by refine rwE bV (rwE h ?_);rfl).symm.trans e2;cases e1;cases e2;exact q
 .intro q;exact⟨h0,_,_,h1,by refine rwE bV (rwE h ?_);rfl,h2,q⟩
theorem yr (h0:C.ok) (h1:namesOf es=some ns) (h2:ns.length<=8) (h:σ.H[i]?=some (.tuple vs)):awA C (.Tuple es k p) (.ref i) sc ro σ QU X=storeAll sc ro ns vs σ QU X:=wX ⟨h0,h1,h2⟩ (by refine rwE bV (rwE h ?_);rfl)
theorem yq (h0:C.ok) (h1:namesOf es=some ns) (h2:ns.length<=8) (h:σ.H[i]?=some (.list vs)):awA C (.Tuple es k p) (.ref i) sc ro σ QU X=storeAll sc ro ns vs σ QU X:=wX ⟨h0,h1,h2⟩ (by refine rwE bV (rwE h ?_);rfl)
end
theorem yw {C:Cfg} {σ:Mine.St} {X:V->Mine.St->Prop} {i:Nat} {vs:List V} {QL:List V->Mine.St->Prop} (h:σ.H[i]?=some (.tuple vs)) (h2:C.ok) (h3:vs.length<=big):om C (.ref i) σ QL X=QL vs σ:=wZ (by refine rwE bV (rwE h ?_);rfl) ⟨h2,h3⟩
theorem yv {C:Cfg} {σ:Mine.St} {X:V->Mine.St->Prop} {i:Nat} {vs:List V} {QL:List V->Mine.St->Prop} (h:σ.H[i]?=some (.list vs)) (h2:C.ok) (h3:vs.length<=big):om C (.ref i) σ QL X=QL vs σ:=wZ (by refine rwE bV (rwE h ?_);rfl) ⟨h2,h3⟩
theorem Dp {σ:Mine.St} {x:Str} {v:V}:σ.put x v=⟨σ.H,pm σ.m x v⟩:=rfl
local macro_rules
 | `(tactic| wp_walk using 6)=>do
  let a <- ("xm bU cP wD wC tL yM yL Bs Bt D9 A8 Bf EL vP Dq Bk k_x EC AX vp vm Ex CX tK zA qz B5 sD sC vn C3 CW C0 z8 EB z4 yp AZ gA yt B6 EW wY dN As CJ Aw Au CK CH yl CU CY CV yi yj yk AV yn CZ AY yo AW BB Ez Ew CR k_g yd De Ay EE z7 EA C2 Bm Cf Bl k_t xo EX EK Dh Di Dj ED EZ Bo Bp yw yv BG BH k_T k_F EY Ea C6 C5 Du Dt Bb A9 Ba EN EM DG Dd EG EH Dr ER ES DI DK Dm C9 EJ yu CB CC Ek Ej CG CF xS xF C8 C7 ym EV Dc Ey DL EU ET EF C1 Ds rX Bd EI Dg Df Bj Bh Bc EO Be yr yq Dp".splitOn " ").toArray.mapM fun s=>`(Lean.Parser.Tactic.simpLemma| ↓ $(Lean.mkIdent s.toName):term)
  `(tactic| simp (disch:=with_unfolding_all (apply id;first | apply Eq.refl | assumption | exact⟨rfl,rfl⟩ | exact List.not_mem_nil | exact Or.inl rfl | exact Or.inr rfl | decide | exact⟨rfl,trivial,by kernel_rfl⟩ | exact trivial | exact⟨trivial,rfl⟩ | exact⟨trivial,rfl,Nat.le_of_ble_eq_true rfl⟩ | exact Nat.le_of_ble_eq_true rfl | (intro h;cases h;done) | exact Bool.false_ne_true | exact tX _ | exact⟨rfl,by assumption⟩ | fail)) only [$a,*])
local macro_rules
 | `(tactic| wp_walk using 7,$ts,*)=>do
  let a <- ("rT x9 x8 zC zD xW xV Option.elim_some zL wJ zO wM in_list Option.bind_some Option.map_some yg u9 yf u0 u7 yc yK yO vI yN B9 Ar Cc i6 iG By BC BD DJ BE BF D0 rl ny vG jL bV Ak xR xT uK Ao rA rB Aq lY yU yV vK yW sP sQ Bw w9 vQ zc vg yh D3 lcT dcT geT DU om aj xE xG uw xH z9 Ac Ab Aa Dk cmB whB joT fmT exT exists_and_left exists_eq_left exists_eq_left' true_and and_true and_assoc Option.some.injEq O.inst.injEq O.list.injEq O.dict.injEq O.tuple.injEq O.set.injEq O.exc.injEq O.liter.injEq V.ref.injEq V.int.injEq V.glob.injEq reduceCtorEq Bool.not_eq_true' decide_eq_true_eq decide_eq_false_iff_not List.length_map List.isEmpty_cons List.dropLast_concat List.getLast?_concat if_true if_false not_false_eq_true or_false true_or or_true".splitOn " ").toArray.mapM fun s=>`(Lean.Parser.Tactic.simpLemma| $(Lean.mkIdent s.toName):term)
  let b <- ts.getElems.mapM fun t=>`(Lean.Parser.Tactic.simpLemma| $(⟨t⟩):term)
  let c:=a++b
  `(tactic| simp only [$c,*])
local macro_rules
 | `(tactic| wp_walk using 6,$ts,*)=>`(tactic| ((try wp_walk using 6);(try (wp_walk using 7,$ts,*;try (with_reducible first | refine Dl ?_ | refine C4 ?_ | refine Dn ?_);(try wp_walk using 6);(try wp_walk using 7,$ts,*)))))
theorem run_eq {C:Cfg} {fn:Fn} {args:List V} {H:List O} {Q X:V->List O->Prop} {body:List Stmt} {ps:List Str} (hb:fn.body=body) (hp:fn.params=ps) (hv:fn.vararg=none) (hd:fn.defaults=[]) (hl:args.length=ps.length) :
  eN C fn args H Q X=a7 C body fn.scope [] ⟨H,fun x=>(ps.zip args).lookup x⟩ (fun fl σ=>Q (match fl with | .ret v=>v | _=>.none) σ.H) (fun e σ=>X e σ.H):=by
 unfold eN jq
 refine rwE hb (rwE hp (rwE hv (rwE hd ?_)))
 have h1:args.take ps.length=args:=List.take_of_length_le (by simp_all)
 simp only [h1,hl,List.length_nil,List.drop_nil,List.append_nil,Nat.sub_self,Nat.add_zero,ge_iff_le,Nat.le_refl,true_and]
 first | done | rfl
theorem Bx {d:Nat} {H:List O} {x:Int} {Q X:V->List O->Prop} (hH:0 < H.length) (h:∀ fs,fs (Str.ofString "node")=some (.int x)->fs (Str.ofString "npredecessors")=some (.int 0)->fs (Str.ofString "successors")=some (.ref (H.length+1))->Q (.ref H.length) (H++[.inst aNI fs,.list []])) :
  prog.bP (d+1) aNI [.int x] H Q X:=by
 rw [uB]
 have hb:pe.body=pe.body:=rfl
 conv at hb=>rhs;whnf
 rw [cO hb (ps:=[Str.ofString "self",Str.ofString "node"]) rfl rfl rfl rfl]
 clear hb
 wp_walk using 6,aj
 refine⟨hH,_,_,fP rfl,rfl,?_⟩
 wp_walk using 6,aj
 refine⟨hH,_,_,au (by simp),rfl,?_⟩
 wp_walk using 6,aj
 refine⟨hH,_,_,by rw [jA (by simp)];exact au (by simp),rfl,?_⟩
 wp_walk using 6,aj
 have e2:∀ (o o1 o2 o3:O) ,((((H++[o]).set H.length o1).set H.length o2++[O.list []]).set H.length o3)=H++[o3,O.list []]:=by intros;simp
 refine rwE (e2 ..) ?_
 exact h _ rfl rfl (by simp)
theorem Ci {d:Nat} {H:List O} {Q X:V->List O->Prop} (hH:0 < H.length) (h:∀ fs,fs (Str.ofString "_node2info")=some (.ref (H.length+1))->fs (Str.ofString "_ready_nodes")=some .none->fs (Str.ofString "_npassedout")=some (.int 0)->fs (Str.ofString "_nfinished")=some (.int 0)->Q (.ref H.length) (H++[.inst aTS fs,.dict [] 0])) :
  prog.bP (d+1) aTS [] H Q X:=by
 rw [uC]
 have hb:jd.body=jd.body:=rfl
 conv at hb=>rhs;whnf
 unfold eN
 refine rwE hb ?_
 clear hb
 unfold jq
 have hp:jd.params=[Str.ofString "self",Str.ofString "graph"]:=by rfl
 have hv:jd.vararg=none:=by rfl
 have hd:jd.defaults=[.none]:=by rfl
 refine rwE hp (rwE hv (rwE hd ?_))
 simp only [List.length_cons,List.length_nil,List.take_succ_cons,List.take_zero,List.take_nil,List.drop_nil,List.append_nil,List.zip_cons_cons,List.zip_nil_right,Nat.zero_add,Nat.reduceAdd,Nat.reduceSub,Nat.sub_self,List.drop_zero,List.cons_append,List.nil_append]
 refine⟨by decide,by decide,?_⟩
 refine (?_:a7 _ _ _ _ _ (runK fun v H'=>v=V.none/\Q (V.ref H.length) H') (xK X))
 wp_walk using 6,aj
 refine⟨hH,_,_,by rw [jA (by simp)];exact fP rfl,rfl,?_⟩
 refine rwE EL (rwE D9 (rwE z8 (rwE D9 (rwE vP (rwE cP (rwE bU ?_))))))
 wp_walk using 6,aj
 refine⟨hH,_,_,au (by simp),rfl,?_⟩
 refine rwE EL (rwE D9 (rwE z8 (rwE D9 (rwE vP (rwE cP (rwE bU ?_))))))
 wp_walk using 6,aj
 refine⟨hH,_,_,au (by simp),rfl,?_⟩
 refine rwE EL (rwE D9 (rwE z8 (rwE D9 (rwE vP (rwE cP (rwE bU ?_))))))
 wp_walk using 6,aj
 refine⟨hH,_,_,au (by simp),rfl,?_⟩
 refine rwE EL (rwE D9 (rwE z8 (rwE D9 (rwE vP (rwE cP (rwE bU ?_))))))
 wp_walk using 6,aj
 have e2:∀ (o o1 o2 o3 o4 p:O) ,(((((H++[o]++[p]).set H.length o1).set H.length o2).set H.length o3).set H.length o4)=H++[o4,p]:=by intros;simp
 refine rwE (e2 ..) ?_
 exact h _ (by simp [aG]) rfl rfl rfl
structure SR where
 s:Nat
 d:Nat
 q:Nat
 ir:Int->Nat
 lr:Int->Nat
noncomputable def Own (r:SR) (ns:List Int) (j:Nat):Prop:=j=r.s\/j=r.d\/j=r.q\/∃ x∈ns,j=r.ir x\/j=r.lr x
noncomputable def rdV (r:SR):Option (List Int)->V
 | none=>.none
 | some _=>.ref r.q
structure Srt (H:List O) (r:SR) (ns:List Int) (np:Int->Int) (su:Int->List Int) (rd:Option (List Int)):Prop where
 pos:0 < r.s/\0 < r.d/\0 < r.q/\∀ x∈ns,0 < r.ir x/\0 < r.lr x
 nd:ns.Nodup
 inst:∃ fs,H[r.s]?=some (.inst aTS fs)/\fs (Str.ofString "_node2info")=some (.ref r.d)/\fs (Str.ofString "_ready_nodes")=some (rdV r rd)/\(∃ k,fs (Str.ofString "_npassedout")=some (.int k))/\∃ k,fs (Str.ofString "_nfinished")=some (.int k)
 dict:∃ n,H[r.d]?=some (.dict (ns.map fun x=>(x,V.ref (r.ir x))) n)
 info:∀ x∈ns,∃ gs,H[r.ir x]?=some (.inst aNI gs)/\gs (Str.ofString "node")=some (.int x)/\gs (Str.ofString "npredecessors")=some (.int (np x))/\gs (Str.ofString "successors")=some (.ref (r.lr x))
 succ:∀ x∈ns,H[r.lr x]?=some (.list ((su x).map .int))
 ready:match rd with | none=>r.q=r.s | some l=>H[r.q]?=some (.list (l.map .int))/\∀ x∈ns,r.lr x≠r.q
 inj:∀ x∈ns,∀ y∈ns,r.lr x=r.lr y->x=y
 out:∀ x,x∉ns->np x=0/\su x=[]
structure Apart (H:List O) (r:SR) (ns:List Int) (H':List O) (r':SR) (ns':List Int):Prop where
 len:H.length<=H'.length
 keep:∀ j,j < H.length->¬ Own r ns j->H'[j]?=H[j]?
 own:∀ j,Own r' ns' j->Own r ns j\/H.length<=j
 s:r'.s=r.s
theorem Apart.refl {H:List O} {r:SR} {ns:List Int}:Apart H r ns H r ns:=⟨Nat.le_refl _,fun _ _ _=>rfl,fun _ h=>.inl h,rfl⟩
theorem Apart.trans {H H' H'':List O} {r r' r'':SR} {ns ns' ns'':List Int} (a:Apart H r ns H' r' ns') (b:Apart H' r' ns' H'' r'' ns''):Apart H r ns H'' r'' ns'' where
 len:=GS a.len b.len
 keep:=fun j hj ho=>by
  rw [b.keep j (GU hj a.len) fun h=>?_,a.keep j hj ho]
  rcases a.own j h with h | h
  .exact ho h
  .exact absurd hj (Nat.not_lt.2 h)
 own:=fun j h=>by
  rcases b.own j h with h | h
  .exact a.own j h
  .exact .inr (GS a.len h)
 s:=b.s.trans a.s
section
variable {H:List O} {r:SR} {ns:List Int} {np:Int->Int} {su:Int->List Int} {rd:Option (List Int)}
theorem aa {α:Type} {l:List α} {i:Nat} {a:α} (h:l[i]?=some a):i < l.length:=(List.getElem?_eq_some_iff.mp h).1
theorem Srt.aU (S:Srt H r ns np su rd) {j:Nat} (h:Own r ns j):j < H.length:=by
 have hs:r.s < H.length:=by refine ao (S.inst) fun fs h _=>?_;exact aa h
 rcases h with rfl | rfl | rfl | ⟨x,hx,rfl | rfl⟩
 .exact hs
 .obtain⟨n,h⟩:=S.dict;exact aa h
 .have:=S.ready
  induction rd with
  | none=>refine rwE this ?_;exact hs
  | some l=>exact aa this.1
 .refine ao (S.info x hx) fun gs h _=>?_;exact aa h
 .exact aa (S.succ x hx)
theorem Srt.congr (S:Srt H r ns np su rd) {H':List O} (h:∀ j,Own r ns j->H'[j]?=H[j]?):Srt H' r ns np su rd where
 pos:=S.pos
 nd:=S.nd
 inst:=by refine rwE (h _ (.inl rfl)) ?_;exact S.inst
 dict:=by refine rwE (h _ (.inr (.inl rfl))) ?_;exact S.dict
 info:=fun x hx=>by refine rwE (h _ (.inr (.inr (.inr ⟨x,hx,.inl rfl⟩)))) ?_;exact S.info x hx
 succ:=fun x hx=>by refine (h _ (.inr (.inr (.inr ⟨x,hx,.inr rfl⟩)))).trans ?_;exact S.succ x hx
 ready:=by
  have:=S.ready
  induction rd with
  | none=>exact this
  | some l=>exact⟨by refine (h _ (.inr (.inr (.inl rfl)))).trans ?_;exact this.1,this.2⟩
 inj:=S.inj
 out:=S.out
theorem Srt.app (S:Srt H r ns np su rd) (t:List O):Srt (H++t) r ns np su rd:=S.congr fun j h=>GR (S.aU h)
theorem Srt.AU (S:Srt H r ns np su rd) {x y:Int} (hx:x∈ns) (hy:y∈ns) (e:r.ir x=r.ir y):x=y:=by
 refine d8 (S.info x hx) fun gs h1 h2 _=>?_
 refine d8 (S.info y hy) fun gs' h1' h2' _=>?_
 rw [e,h1'] at h1
 cases h1
 rw [h2] at h2'
 cases h2';rfl
theorem Srt.nz (S:Srt H r ns np su rd) {x:Int} (hx:x∈ns):r.ir x≠r.s:=fun e=>by
 refine ao (S.info x hx) fun gs h1 _=>?_
 refine ao (S.inst) fun fs h2 _=>?_
 rw [e,h2] at h1
 injection h1 with h1
 injection h1 with h3
 exact absurd h3 (by decide)
theorem Srt.sf (S:Srt H r ns np su rd) {x:Int} (hx:x∈ns):r.ir x≠r.d:=fun e=>by
 refine ao (S.info x hx) fun gs h1 _=>?_
 obtain⟨n,h2⟩:=S.dict
 rw [e,h2] at h1;simp at h1
theorem Srt.o7 (S:Srt H r ns np su rd) {x y:Int} (hx:x∈ns) (hy:y∈ns):r.ir x≠r.lr y:=fun e=>by
 refine ao (S.info x hx) fun gs h1 _=>?_
 rw [e,S.succ y hy] at h1;simp at h1
theorem Srt.nD (S:Srt H r ns np su rd) {x:Int} (hx:x∈ns):r.lr x≠r.s:=fun e=>by
 refine ao (S.inst) fun fs h2 _=>?_
 have h1:=S.succ x hx
 rw [e,h2] at h1;simp at h1
theorem Srt.sM (S:Srt H r ns np su rd) {x:Int} (hx:x∈ns):r.lr x≠r.d:=fun e=>by
 obtain⟨n,h2⟩:=S.dict
 have h1:=S.succ x hx
 rw [e,h2] at h1;simp at h1
theorem Srt.rC (S:Srt H r ns np su rd):r.d≠r.s:=fun e=>by
 obtain⟨n,h2⟩:=S.dict
 refine ao (S.inst) fun fs h1 _=>?_
 rw [e,h1] at h2;simp at h2
theorem Srt.sZ {l:List Int} (S:Srt H r ns np su (some l)):r.q≠r.s:=fun e=>by
 refine ao (S.inst) fun fs h1 _=>?_
 have h2:=S.ready.1
 rw [e,h1] at h2;simp at h2
theorem Srt.xf {l:List Int} (S:Srt H r ns np su (some l)):r.q≠r.d:=fun e=>by
 obtain⟨n,h1⟩:=S.dict
 have h2:=S.ready.1
 rw [e,h1] at h2;simp at h2
theorem Srt.sY {l:List Int} (S:Srt H r ns np su (some l)) {x:Int} (hx:x∈ns):r.q≠r.ir x:=fun e=>by
 refine ao (S.info x hx) fun gs h1 _=>?_
 have h2:=S.ready.1
 rw [e,h1] at h2;simp at h2
theorem af {l:List O} {i j:Nat} {o:O} (h:i≠j):(l.set i o)[j]?=l[j]?:=by exact (List.getElem?_set).trans (if_neg h)
noncomputable def upd (f:Int->α) (x:Int) (v:α):Int->α:=fun y=>if y=x then v else f y
theorem Srt.pH (S:Srt H r ns np su rd) {x:Int} (hx:x∈ns) {gs:Str->Option V} (hg:H[r.ir x]?=some (.inst aNI gs)) (k:Int) :
  Srt (H.set (r.ir x) (.inst aNI fun y=>if y=Str.ofString "npredecessors" then some (.int k) else gs y)) r ns (upd np x k) su rd where
 pos:=S.pos
 nd:=S.nd
 inst:=by refine rwE (af (S.nz hx)) ?_;exact S.inst
 dict:=by refine rwE (af (S.sf hx)) ?_;exact S.dict
 info:=fun y hy=>by
  refine bW (S.info y hy) fun gs' h1 h2 h3 h4=>?_
  by_cases e:y=x
  .subst e
   rw [hg] at h1;cases h1
   exact zR _ (au (aa hg)) (by exact (fun {α} {a} {b}=>Iff.mp Option.mem_def) h2) (by simp [upd]) (by exact (fun {α} {a} {b}=>Iff.mp Option.mem_def) h4)
  .refine rwE (af fun h=>e (S.AU hy hx h.symm)) ?_
   exact zR gs' h1 h2 (by rw [upd,if_neg e];exact h3) h4
 succ:=fun y hy=>by refine (af (S.o7 hx hy)).trans ?_;exact S.succ y hy
 ready:=by
  have:=S.ready
  induction rd with
  | none=>exact this
  | some l=>exact⟨by refine (af (Ne.symm (S.sY hx))).trans ?_;exact this.1,this.2⟩
 inj:=S.inj
 out:=fun y hy=>by
  have:y≠x:=fun e=>hy (e ▸ hx)
  rw [upd,if_neg this];exact S.out y hy
theorem Srt.B8 (S:Srt H r ns np su rd) {x:Int} (hx:x∈ns) (l:List Int):Srt (H.set (r.lr x) (.list (l.map .int))) r ns np (upd su x l) rd where
 pos:=S.pos
 nd:=S.nd
 inst:=by refine rwE (af (S.nD hx)) ?_;exact S.inst
 dict:=by refine rwE (af (S.sM hx)) ?_;exact S.dict
 info:=fun y hy=>by refine rwE (af fun h=>S.o7 hy hx h.symm) ?_;exact S.info y hy
 succ:=fun y hy=>by
  by_cases e:y=x
  .subst e
   rw [au (aa (S.succ y hy)),upd,if_pos rfl]
  .rw [af fun h=>e (S.inj y hy x hx h.symm),upd,if_neg e];exact S.succ y hy
 ready:=by
  have:=S.ready
  induction rd with
  | none=>exact this
  | some l=>exact⟨by refine (af (this.2 x hx)).trans ?_;exact this.1,this.2⟩
 inj:=S.inj
 out:=fun y hy=>by
  have:y≠x:=fun e=>hy (e ▸ hx)
  rw [upd,if_neg this];exact S.out y hy
theorem Srt.xj {l:List Int} (S:Srt H r ns np su (some l)) (m:List Int):Srt (H.set r.q (.list (m.map .int))) r ns np su (some m) where
 pos:=S.pos
 nd:=S.nd
 inst:=by refine rwE (af S.sZ) ?_;exact S.inst
 dict:=by refine rwE (af S.xf) ?_;exact S.dict
 info:=fun y hy=>by refine rwE (af (S.sY hy)) ?_;exact S.info y hy
 succ:=fun y hy=>by refine (af (Ne.symm (S.ready.2 y hy))).trans ?_;exact S.succ y hy
 ready:=⟨au (aa S.ready.1),S.ready.2⟩
 inj:=S.inj
 out:=S.out
theorem Srt.xh (S:Srt H r ns np su rd) {fs:Str->Option V} (h0:fs (Str.ofString "_node2info")=some (.ref r.d)/\fs (Str.ofString "_ready_nodes")=some (rdV r rd)/\(∃ k,fs (Str.ofString "_npassedout")=some (.int k))/\∃ k,fs (Str.ofString "_nfinished")=some (.int k)) :
  Srt (H.set r.s (.inst aTS fs)) r ns np su rd where
 pos:=S.pos
 nd:=S.nd
 inst:=⟨fs,au (S.aU (.inl rfl)),h0⟩
 dict:=by refine rwE (af (Ne.symm S.rC)) ?_;exact S.dict
 info:=fun y hy=>by refine rwE (af (Ne.symm (S.nz hy))) ?_;exact S.info y hy
 succ:=fun y hy=>by refine (af (Ne.symm (S.nD hy))).trans ?_;exact S.succ y hy
 ready:=by
  have:=S.ready
  induction rd with
  | none=>exact this
  | some l=>exact⟨by refine (af (Ne.symm S.sZ)).trans ?_;exact this.1,this.2⟩
 inj:=S.inj
 out:=S.out
theorem Apart.set {H:List O} {r:SR} {ns:List Int} {i:Nat} {o:O} (h:Own r ns i):Apart H r ns (H.set i o) r ns:=
 ⟨by simp,fun j _ ho=>af fun e=>ho (e ▸ h),fun _ h=>.inl h,rfl⟩
theorem Apart.app {H t:List O} {r:SR} {ns:List Int}:Apart H r ns (H++t) r ns:=
 ⟨by simp,fun j hj _=>GR hj,fun _ h=>.inl h,rfl⟩
end
theorem du {ns:List Int} (f:Int->Nat) (x:Int):dF (ns.map fun y=>(y,V.ref (f y))) x=if x∈ns then some (V.ref (f x)) else none:=by
 unfold dF
 induction ns with
 | nil=>rfl
 | cons y ns ih =>
  simp only [List.map_cons,List.find?_cons]
  by_cases e:y=x
  .subst e;simp
  .simp only [e,decide_false]
   refine ih.trans ?_
   have:x≠y:=fun h=>e h.symm
   simp [this]
theorem j0 {es:List (Int × V)} {x:Int} {v:V} (h:∀ e∈es,e.1≠x):lE es x v=es++[(x,v)]:=by
 unfold lE
 rw [if_neg]
 simp only [List.any_eq_true,decide_eq_true_eq,not_exists,not_and]
 exact h
noncomputable def ins (ns:List Int) (x:Int):List Int:=if x∈ns then ns else ns++[x]
section
variable {H:List O} {r:SR} {ns:List Int} {np:Int->Int} {su:Int->List Int} {rd:Option (List Int)}
theorem Srt.vL (S:Srt H r ns np su rd) {x:Int} (hx:x∉ns) {gs:Str->Option V} (g1:gs (Str.ofString "node")=some (.int x)) (g2:gs (Str.ofString "npredecessors")=some (.int 0)) (g3:gs (Str.ofString "successors")=some (.ref (H.length+1))) (n':Nat) :
  Srt ((H++[O.inst aNI gs,O.list []]).set r.d (O.dict (lE (ns.map fun x=>(x,V.ref (r.ir x))) x (.ref H.length)) n')) { r with ir:=upd r.ir x H.length,lr:=upd r.lr x (H.length+1) } (ns++[x]) np su rd /\
  Apart H r ns ((H++[O.inst aNI gs,O.list []]).set r.d (O.dict (lE (ns.map fun x=>(x,V.ref (r.ir x))) x (.ref H.length)) n')) { r with ir:=upd r.ir x H.length,lr:=upd r.lr x (H.length+1) } (ns++[x]):=by
 have hne:∀ y∈ns,y≠x:=fun y hy e=>hx (e ▸ hy)
 have uo:∀ y∈ns,∀ {f:Int->Nat} {v:Nat},upd f x v y=f y:=fun y hy f v=>by rw [upd,if_neg (hne y hy)]
 have ux:∀ {f:Int->Nat} {v:Nat},upd f x v x=v:=fun {f v}=>by rw [upd,if_pos rfl]
 have S2:=S.app [O.inst aNI gs,O.list []]
 have lt:∀ {j},Own r ns j->j < H.length:=fun h=>S.aU h
 have hd:r.d < H.length:=lt (.inr (.inl rfl))
 have hdn:H.length≠r.d:=by exact Nat.ne_of_gt hd
 have hdn1:H.length+1≠r.d:=by exact aV2 hd
 have hds:lE (ns.map fun x=>(x,V.ref (r.ir x))) x (.ref H.length)=(ns++[x]).map fun y=>(y,V.ref (upd r.ir x H.length y)):=by
  rw [j0]
  .refine rwE List.map_append ?_
   congr 1
   .apply List.map_congr_left
    intro y hy;exact rwE (uo y hy) rfl
   .simp [ux]
  .intro e he
   (refine ao (List.mem_map.mp he) fun y hy ζ1=>?_;obtain rfl:=ζ1)
   exact hne y hy
 refine rwE hds ?_
 constructor
 .refine⟨?_,?_,?_,?_,?_,?_,?_,?_,?_⟩
  .refine ek (S.pos) fun p1 p2 p3 p4=>?_
   refine AQ p1 p2 p3 (fun y hy=>?_)
   rcases List.mem_append.mp hy with hy | hy
   .simp only [uo y hy];exact p4 y hy
   .rw [List.mem_singleton] at hy;subst hy;simp only [ux];exact⟨Nat.zero_lt_of_lt hd,Nat.succ_pos _⟩
  .refine Iff.mpr List.nodup_append ?_;exact⟨S.nd,by simp,fun a ha b hb=>by rw [List.mem_singleton] at hb;refine rwE hb ?_;exact hne a ha⟩
  .refine ao (S2.inst) fun fs h1 h2=>?_
   refine aW fs ?_ ?_
   .refine (af S.rC).trans ?_;exact h1
   .induction rd<;>exact h2
  .exact⟨n',au (by simp;exact aT5 Nat.le.refl hd)⟩
  .intro y hy
   rcases List.mem_append.mp hy with hy | hy
   .obtain⟨gs',h⟩:=S2.info y hy
    refine⟨gs',?_⟩
    simp only [uo y hy]
    refine rwE (af (Ne.symm (S.sf hy))) ?_;exact h
   .rw [List.mem_singleton] at hy;subst hy
    refine zR gs ?_ g1 ?_ ?_
    .simp only [ux];refine (af (Ne.symm hdn)).trans ?_;simp
    .refine rwE ((S.out y hx).1) ?_;exact g2
    .simp only [ux];exact g3
  .intro y hy
   rcases List.mem_append.mp hy with hy | hy
   .simp only [uo y hy]
    refine (af (Ne.symm (S.sM hy))).trans ?_;exact S2.succ y hy
   .rw [List.mem_singleton] at hy;subst hy
    simp only [ux]
    refine rwE (af (Ne.symm hdn1)) (rwE ((S.out y hx).2) ?_)
    refine (List.getElem?_append_right (by exact Nat.le.step Nat.le.refl)).trans ?_
    simp
  .have:=S2.ready
   induction rd with
   | none=>exact this
   | some l =>
    have hq:=S.aU (j:=r.q) (.inr (.inr (.inl rfl)))
    refine⟨?_,fun y hy=>?_⟩
    .refine (?_:((H++_).set r.d _)[r.q]?=_)
     refine (af (Ne.symm S.xf)).trans ?_;exact this.1
    .rcases List.mem_append.mp hy with hy | hy
     .simp only [uo y hy];exact this.2 y hy
     .rw [List.mem_singleton] at hy;subst hy;simp only [ux];exact aV2 hq
  .intro a ha b hb e
   rcases List.mem_append.mp ha with ha1 | ha1<;>rcases List.mem_append.mp hb with hb1 | hb1
   .simp only [uo a ha1,uo b hb1] at e;exact S.inj a ha1 b hb1 e
   .rw [List.mem_singleton] at hb1;subst hb1
    simp only [uo a ha1,ux] at e
    have:=lt (j:=r.lr a) (.inr (.inr (.inr ⟨a,ha1,.inr rfl⟩)))
    simp_all +arith
   .rw [List.mem_singleton] at ha1;subst ha1
    simp only [uo b hb1,ux] at e
    exact absurd (lt (j:=r.lr b) (.inr (.inr (.inr ⟨b,hb1,.inr rfl⟩)))) (Nat.not_lt.2 (GS (Nat.le_succ _) (Nat.le_of_eq e)))
   .rw [List.mem_singleton] at ha1 hb1;exact rwE ha1 (rwE hb1 rfl)
  .intro y hy
   exact S.out y fun h=>hy (List.mem_append_left _ h)
 .refine⟨by simp,fun j hj ho=>?_,fun j h=>?_,rfl⟩
  .have hne2:r.d≠j:=fun e=>ho (by subst e;exact .inr (.inl rfl))
   exact (af hne2).trans (GR hj)
  .rcases h with h | h | h | ⟨y,hy,h⟩
   .exact .inl (.inl h)
   .exact .inl (.inr (.inl h))
   .exact .inl (.inr (.inr (.inl h)))
   .rcases List.mem_append.mp hy with hy | hy
    .simp only [uo y hy] at h;exact .inl (.inr (.inr (.inr ⟨y,hy,h⟩)))
    .rw [List.mem_singleton] at hy;subst hy;simp only [ux] at h;exact .inr (h.elim (fun e=>Nat.le_of_eq e.symm) fun e=>GS (Nat.le_succ _) (Nat.le_of_eq e.symm))
end
theorem oW {d:Nat} {H:List O} {r:SR} {ns:List Int} {np:Int->Int} {su:Int->List Int} {rd:Option (List Int)} {x:Int} {Q X:V->List O->Prop} (S:Srt H r ns np su rd) (hz:ns.length<=big)
  (h:∀ H' r',Srt H' r' (ins ns x) np su rd->Apart H r ns H' r' (ins ns x)->Q (.ref (r'.ir x)) H'):prog.bP (d+2) 85 [.ref r.s,.int x] H Q X:=by
 refine rwE (bx CL) ?_
 have hb:wL.body=wL.body:=rfl
 conv at hb=>rhs;whnf
 rw [cO hb (ps:=[Str.ofString "self",Str.ofString "node"]) rfl rfl rfl rfl]
 clear hb
 refine bW (S.inst) fun fs h1 h2 h3 h4=>?_
 obtain⟨n,hd⟩:=S.dict
 wp_walk using 6,h1,h2,hd
 have hs:=S.aU (j:=r.s) (.inl rfl)
 have hdl:=S.aU (j:=r.d) (.inr (.inl rfl))
 refine⟨fun he=>?_,fun he=>?_⟩
 .rw [du] at he
  have hx:x∉ns:=fun hx=>by rw [if_pos hx] at he;exact V.noConfusion he
  wp_walk using 6,aj
  refine Bx (by exact Nat.zero_lt_of_lt hs) fun gs g1 g2 g3=>?_
  have k1:(H++[O.inst aNI gs,O.list []])[r.s]?=some (.inst aTS fs):=by refine (GR hs).trans ?_;exact h1
  have k2:(H++[O.inst aNI gs,O.list []])[r.d]?=some (.dict (ns.map fun x=>(x,V.ref (r.ir x))) n):=by refine (GR hdl).trans ?_;exact hd
  wp_walk using 6,k1,k2,h2
  refine⟨S.pos.2.1,by simpa using hz,fun n'=>?_⟩
  wp_walk using 6,aj
  obtain⟨S',A'⟩:=S.vL hx g1 g2 g3 n'
  have hi:ins ns x=ns++[x]:=if_neg hx
  have:=h _ _ (hi ▸ S') (hi ▸ A')
  simpa [upd] using this
 .rw [du] at he ⊢
  have hx:x∈ns:=by
   by_cases hx:x∈ns
   .exact hx
   .rw [if_neg hx] at he;exact absurd rfl he
  have hi:ins ns x=ns:=if_pos hx
  refine rwE (if_pos hx) ?_
  wp_walk using 6,aj
  exact h H r (hi.symm ▸ S) (hi.symm ▸ Apart.refl)
theorem tu {C:Cfg} {fn:Fn} {args:List V} {H:List O} {Q X:V->List O->Prop} {body:List Stmt} {ps:List Str} {va:Str} (hb:fn.body=body) (hp:fn.params=ps) (hv:fn.vararg=some va) (hd:fn.defaults=[]) (hl:ps.length<=args.length) :
  eN C fn args H Q X=((args.drop ps.length).length<=big/\a7 C body fn.scope [] ⟨H++[.tuple (args.drop ps.length)],fun x=>if x=va then some (.ref H.length) else (ps.zip (args.take ps.length)).lookup x⟩ (runK Q) (xK X)):=by
 unfold eN jq
 refine rwE hb (rwE hp (rwE hv (rwE hd ?_)))
 have h2:min ps.length args.length=ps.length:=Nat.min_eq_left hl
 simp only [List.length_nil,List.drop_nil,List.append_nil,Nat.add_zero,List.length_take,h2,Nat.sub_self,ge_iff_le,Nat.le_refl,true_and]
 first | done | rfl
noncomputable def jQ (ns:List Int) (x:Int) (ps:List Int):List Int:=ps.foldl ins (ins ns x)
noncomputable def d7 (su:Int->List Int) (x:Int) (ps:List Int):Int->List Int:=ps.foldl (fun s p=>upd s p (s p++[x])) su
theorem sd {ns:List Int} {x y:Int}:y∈ins ns x↔y∈ns\/y=x:=by
 unfold ins
 split
 .rename_i h
  constructor
  .exact .inl
  .rintro (h1 | rfl)
   .exact h1
   .exact h
 .simp
theorem jB {ns:List Int} {x:Int}:(ins ns x).length<=ns.length+1:=by
 unfold ins;split<;>simp
theorem iF {ps:List Int}:∀ {ns:List Int},(ps.foldl ins ns).length<=ns.length+ps.length:=by
 induction ps with
 | nil=>exact Nat.le_refl _
 | cons p ps ih=>intro ns;refine rwE List.foldl_cons ?_;exact CA (@ih (ins ns p)) (@jB ns p)
theorem qY {x:Int} {ps:List Int}:∀ {su:Int->List Int} {y:Int},(d7 su x ps y).length<=(su y).length+ps.length:=by
 unfold d7
 induction ps with
 | nil=>exact Nat.le_refl _
 | cons p ps ih =>
  intro su y
  refine rwE List.foldl_cons ?_
  have h1:=@ih (upd su p (su p++[x])) y
  have h2:(upd su p (su p++[x]) y).length<=(su y).length+1:=by
   unfold upd;split
   .rename_i h;subst h;simp
   .exact Nat.le.step Nat.le.refl
  exact CA h1 h2
noncomputable def zG:O->Bool
 | .inst ..=>true
 | .dict ..=>true
 | .list ..=>true
 | _=>false
theorem Srt.kind {H:List O} {r:SR} {ns:List Int} {np:Int->Int} {su:Int->List Int} {rd:Option (List Int)} (S:Srt H r ns np su rd) {j:Nat} {o:O} (h:H[j]?=some o) (hk:zG o=false):¬ Own r ns j:=by
 have hs:j≠r.s:=fun e=>by refine ao (S.inst) fun fs h1 _=>?_;rw [e,h1] at h;cases h;exact Bool.noConfusion hk
 rintro (rfl | rfl | rfl | ⟨x,hx,rfl | rfl⟩)
 .exact hs rfl
 .obtain⟨n,h1⟩:=S.dict;rw [h1] at h;cases h;exact Bool.noConfusion hk
 .have:=S.ready
  induction rd with
  | none=>exact hs this
  | some l=>rw [this.1] at h;cases h;exact Bool.noConfusion hk
 .refine ao (S.info x hx) fun gs h1 _=>?_;rw [h1] at h;cases h;exact Bool.noConfusion hk
 .rw [S.succ x hx] at h;cases h;exact Bool.noConfusion hk
theorem oE {d:Nat} {H:List O} {r:SR} {ns:List Int} {np:Int->Int} {su:Int->List Int} {x:Int} {ps:List Int} {Q X:V->List O->Prop} (S:Srt H r ns np su none) (hz:ns.length+ps.length+1<=big) (hs:∀ y,(su y).length+ps.length < big)
  (h:∀ H' r',Srt H' r' (jQ ns x ps) (upd np x (np x+ps.length)) (d7 su x ps) none->Apart H r ns H' r' (jQ ns x ps)->Q .none H'):prog.bP (d+3) 92 (.ref r.s::.int x::ps.map .int) H Q X:=by
 refine rwE (bx CM) ?_
 have hb:wK.body=wK.body:=rfl
 conv at hb=>rhs;whnf
 rw [tu hb (ps:=[Str.ofString "self",Str.ofString "node"]) rfl rfl rfl (by exact Nat.le_add_left _ _)]
 clear hb
 simp only [List.zip_cons_cons,List.zip_nil_right,List.length_cons,List.length_nil,Nat.zero_add,Nat.reduceAdd,List.take_succ_cons,List.take_zero,List.drop_succ_cons,List.drop_zero,GX]
 refine⟨GS (GS (Nat.le_add_left _ _) (Nat.le_succ _)) hz,?_⟩
 have S0:=S.app [O.tuple (ps.map V.int)]
 refine bW (S0.inst) fun fs h1 h2 h3 h4=>?_
 have h3:fs (Str.ofString "_ready_nodes")=some V.none:=h3
 wp_walk using 6,h1,h3
 refine oW S0 (by exact aT3 (aT3 hz)) fun H1 r1 S1 A1=>?_
 have hx1:x∈ins ns x:=sd.mpr (.inr rfl)
 refine bW (S1.info x hx1) fun gs i1 i2 i3 i4=>?_
 have ht:H1[H.length]?=some (.tuple (ps.map .int)):=by
  refine (A1.keep _ (by simp) fun ho=>absurd (S.aU ho) (by exact Nat.lt_irrefl (List.length H))).trans ?_
  exact List.getElem?_concat_length
 have hne:r1.ir x≠H.length:=fun e=>by rw [e,ht] at i1;simp at i1
 wp_walk using 6,i1,i3,ht
 have S2:=S1.pH hx1 i1 (np x+ps.length)
 have A2:Apart (H++[O.tuple (ps.map V.int)]) r ns _ _ _:=A1.trans (Apart.set (o:=O.inst aNI fun y=>if y=Str.ofString "npredecessors" then some (.int (np x+ps.length)) else gs y) (.inr (.inr (.inr ⟨x,hx1,.inl rfl⟩))))
 refine⟨GS (GS (Nat.le_add_left _ _) (Nat.le_succ _)) hz,?_⟩
 wp_walk using 6,i1
 refine⟨(S1.pos.2.2.2 x hx1).1,?_⟩
 generalize hH2:H1.set (r1.ir x) (O.inst aNI fun y=>if y=Str.ofString "npredecessors" then some (V.int (np x+ps.length)) else gs y)=H2 at S2 A2
 have hl:H.length < H2.length:=by
  have:=A2.len
  simp only [GY,List.length_singleton] at this
  assumption
 have ht2:H2[H.length]?=some (.tuple (ps.map V.int)):=by refine rwS hH2 (rwE (af hne) ?_);exact ht
 have A0:Apart H r ns H2 r1 (ins ns x):=(Apart.app (t:=[O.tuple (ps.map V.int)])).trans A2
 wp_walk using 6,ht2
 refine br (fun i σ=>∃ r',Srt σ.H r' ((ps.take i).foldl ins (ins ns x)) (upd np x (np x+ps.length)) (d7 su x (ps.take i)) none/\Apart H r ns σ.H r' ((ps.take i).foldl ins (ins ns x))/\σ.m (Str.ofString "self")=some (.ref r.s)/\σ.m (Str.ofString "node")=some (.int x)/\σ.H[H.length]?=some (.tuple (ps.map V.int)))
  ⟨r1,by simpa [d7] using S2,by simpa using A0,rfl,rfl,ht2⟩ ?_ ?_
 ·(intro i it σ R hi ζ2;refine bW ζ2 fun r' S' A' m1 ζ3=>?_;clear ζ2;obtain⟨m2,ht'⟩:=ζ3;intro hR)
  (refine ao (bA hi) fun p hp ζ1=>?_;obtain rfl:=ζ1)
  refine⟨aq ht2 rfl ht',?_⟩
  have hs':=A'.s
  have hpl:i < ps.length:=aa hp
  have hlen:((ps.take i).foldl ins (ins ns x)).length<=big:=by
   have h1:=@iF (ps.take i) (ins ns x)
   have h2:=@jB ns x
   have h3:(ps.take i).length<=i:=List.length_take_le _ _
   exact GS h1 (GS (Nat.add_le_add h2 (GS h3 (G5 hpl))) (GS (Nat.le_of_eq (Nat.add_right_comm ..)) hz))
  wp_walk using 6,m1,m2
  refine ao (S'.inst) fun fs' f1 _=>?_
  rw [hs'] at f1
  wp_walk using 6,f1
  refine rwS hs' ?_
  refine oW S' hlen fun H3 r3 S3 A3=>?_
  have hp3:p∈ins ((ps.take i).foldl ins (ins ns x)) p:=sd.mpr (.inr rfl)
  refine bW (S3.info p hp3) fun gs3 j1 j2 j3 j4=>?_
  have j5:=S3.succ p hp3
  wp_walk using 6,m1,m2,j1,j4,j5
  have hso:(d7 su x (ps.take i) p).length < big:=by
   have h1:=@qY x (ps.take i) su p
   have h2:=hs p
   have h3:(ps.take i).length<=i:=List.length_take_le _ _
   exact GV (GS h1 (Nat.add_le_add_left (GS h3 (G5 hpl)) _)) h2
  refine⟨(S3.pos.2.2.2 p hp3).2,hso,?_⟩
  wp_walk using 6,aj
  refine hR _ ⟨r3,?_,?_,?_,?_,?_⟩
  .refine rwE (take_snoc hp) (rwE List.foldl_append ?_)
   have:=S3.B8 hp3 (d7 su x (ps.take i) p++[x])
   rw [List.map_append] at this
   have e:d7 su x (ps.take i++[p])=upd (d7 su x (ps.take i)) p (d7 su x (ps.take i) p++[x]):=by unfold d7;refine List.foldl_append.trans ?_;rfl
   refine rwE e ?_
   exact this
  .refine rwE (take_snoc hp) (rwE List.foldl_append ?_)
   exact (A'.trans A3).trans (Apart.set (.inr (.inr (.inr ⟨p,hp3,.inr rfl⟩))))
  .exact m1
  .exact m2
  .have h3:H3[H.length]?=some (.tuple (ps.map V.int)):=by refine (A3.keep _ (aa ht') (S'.kind ht' rfl)).trans ?_;exact ht'
   have hne3:r3.lr p≠H.length:=fun e=>by rw [e,h3] at j5;simp at j5
   refine rwE (af hne3) ?_;exact h3
 ·(intro σ ζ4;refine bW ζ4 fun r' S' A' m1 ζ5=>?_;clear ζ4;obtain⟨m2,ht'⟩:=ζ5)
  refine⟨aq ht2 rfl ht',?_⟩
  wp_walk using 6,m1
  rw [GX,GX,List.take_length] at S' A'
  exact h _ _ S' A'
noncomputable def outs (np:Int->Int) (l:List Int):Int->Int:=fun y=>if y∈l then -1 else np y
theorem dY {d:Nat} {H:List O} {r:SR} {ns:List Int} {np:Int->Int} {su:Int->List Int} {l:List Int} {Q X:V->List O->Prop} (S:Srt H r ns np su (some l)) (hl:∀ x∈l,x∈ns) (hz:l.length < big)
  (h:∀ H',Srt H' r ns (outs np l) su (some [])->Apart H r ns H' r ns->H'[H.length]?=some (.tuple (l.map .int))->Q (.ref H.length) H'):prog.bP (d+1) 104 [.ref r.s] H Q X:=by
 rw [bx AF]
 have hb:kX.body=kX.body:=rfl
 conv at hb=>rhs;whnf
 rw [cO hb (ps:=[Str.ofString "self"]) rfl rfl rfl rfl]
 clear hb
 (refine bW (S.inst) fun fs h1 h2 h3 ζ1=>?_;obtain⟨ζ2,ζ3⟩:=ζ1;obtain⟨k4,h4⟩:=ζ2;obtain⟨k5,h5⟩:=ζ3)
 have h3:fs (Str.ofString "_ready_nodes")=some (V.ref r.q):=h3
 obtain⟨n,hd⟩:=S.dict
 have hq:=S.ready.1
 have hs:=S.aU (j:=r.s) (.inl rfl)
 have hdl:=S.aU (j:=r.d) (.inr (.inl rfl))
 have hql:=S.aU (j:=r.q) (.inr (.inr (.inl rfl)))
 have e1:(H++[O.tuple (l.map V.int)])[r.s]?=some (.inst aTS fs):=by refine (GR hs).trans ?_;exact h1
 have e2:(H++[O.tuple (l.map V.int)])[H.length]?=some (.tuple (l.map V.int)):=by exact List.getElem?_concat_length
 wp_walk using 6,hq
 refine⟨by exact G5 hz,?_⟩
 wp_walk using 6,e2
 refine br (fun i σ=>Srt σ.H r ns (outs np (l.take i)) su (some l)/\Apart H r ns σ.H r ns/\σ.m (Str.ofString "self")=some (.ref r.s)/\σ.m (Str.ofString "n2i")=some (.ref r.d)/\σ.m (Str.ofString "result")=some (.ref H.length)/\σ.H[H.length]?=some (.tuple (l.map V.int)))
  ⟨by refine rwE (show outs np (l.take 0)=np by funext y;rfl) ?_;exact S.app _,Apart.app,rfl,rfl,rfl,e2⟩ ?_ ?_
 ·(intro i it σ R hi ζ8;refine nk ζ8 fun S' A' m1 m2 m3 ht'=>?_;clear ζ8;intro hR)
  (refine ao (bA hi) fun p hp ζ4=>?_;obtain rfl:=ζ4)
  refine⟨aq e2 rfl ht',?_⟩
  have hpn:p∈ns:=hl p (G0 hp)
  obtain⟨n',hd'⟩:=S'.dict
  refine bW (S'.info p hpn) fun gs i1 i2 i3 i4=>?_
  have hg:dF (ns.map fun x=>(x,V.ref (r.ir x))) p=some (.ref (r.ir p)):=by exact (du ..).trans ((if_pos hpn) ..)
  wp_walk using 6,m1,m2,hd',hg,i1
  refine⟨(S'.pos.2.2.2 p hpn).1,?_⟩
  wp_walk using 6,aj
  refine hR _ ⟨?_,A'.trans (Apart.set (.inr (.inr (.inr ⟨p,hpn,.inl rfl⟩)))),?_,?_,?_,?_⟩
  .have:=S'.pH hpn i1 (-1)
   have e:outs np (l.take (i+1))=upd (outs np (l.take i)) p (-1):=by
    funext y
    refine rwE (take_snoc hp) ?_
    unfold outs upd
    by_cases hy:y=p
    .simp [hy]
    .simp [hy]
   refine rwE e ?_;exact this
  .exact m1
  .exact m2
  .exact m3
  .have hne:r.ir p≠H.length:=fun e=>by rw [e,ht'] at i1;simp at i1
   show (σ.H.set _ _)[_]?=_
   refine (af hne).trans ?_;exact ht'
 ·(intro σ ζ9;refine nk ζ9 fun S' A' m1 m2 m3 ht'=>?_;clear ζ9)
  refine⟨aq e2 rfl ht',?_⟩
  (refine bW (S'.inst) fun fs' f1 f2 f3 ζ5=>?_;obtain⟨ζ6,ζ7⟩:=ζ5;obtain⟨k4',f4⟩:=ζ6;obtain⟨k5',f5⟩:=ζ7)
  have f3:fs' (Str.ofString "_ready_nodes")=some (V.ref r.q):=f3
  have hq':=S'.ready.1
  have hqs:=S'.sZ
  have hqt:r.q≠H.length:=fun e=>by rw [e,ht'] at hq';simp at hq'
  have e3:(σ.H.set r.q (O.list []))[r.s]?=some (.inst aTS fs'):=by refine (af hqs).trans ?_;exact f1
  have e4:(σ.H.set r.q (O.list []))[H.length]?=some (.tuple (l.map V.int)):=by refine (af hqt).trans ?_;exact ht'
  wp_walk using 6,hq'
  refine⟨S.pos.2.2.1,hz,?_⟩
  wp_walk using 6,e3,e4
  refine⟨by exact G5 hz,?_⟩
  wp_walk using 6,e3
  refine⟨S.pos.1,?_⟩
  wp_walk using 6,aj
  rw [GX,GX,List.take_length] at S'
  have S2:=S'.xj []
  have S3:=S2.xh (fs:=fun x=>if x=Str.ofString "_npassedout" then some (.int (k4'+l.length)) else fs' x) ⟨by trivial,by trivial,⟨k4'+l.length,by rfl⟩,⟨k5',by trivial⟩⟩
  refine h _ S3 ((A'.trans (Apart.set (.inr (.inr (.inl rfl))))).trans (Apart.set (.inl rfl))) ?_
  have hst:r.s≠H.length:=by exact Nat.ne_of_lt hs
  refine rwE (af hst) ?_;exact e4
noncomputable def gy (s:(Int->Int) × List Int) (y:Int):(Int->Int) × List Int:=(upd s.1 y (s.1 y - 1),if s.1 y - 1=0 then s.2++[y] else s.2)
noncomputable def bG (su:Int->List Int) (s:(Int->Int) × List Int) (x:Int):(Int->Int) × List Int:=(su x).foldl gy (upd s.1 x (-2),s.2)
noncomputable def jn (su:Int->List Int) (ns:List Int):((Int->Int) × List Int)->List Int->Prop
 | _,[]=>True
 | s,x::xs=>x∈ns/\s.1 x=-1/\jn su ns (bG su s x) xs
theorem rE {ys:List Int}:∀ {s:(Int->Int) × List Int},(ys.foldl gy s).2.length<=s.2.length+ys.length:=by
 induction ys with
 | nil=>exact Nat.le_refl _
 | cons y ys ih =>
  intro s
  refine rwE List.foldl_cons ?_
  have h1:=@ih (gy s y)
  have h2:(gy s y).2.length<=s.2.length+1:=by unfold gy;simp only;split<;>simp
  exact CA h1 h2
theorem uN {su:Int->List Int} {b:Nat} (hb:∀ x,(su x).length<=b) {xs:List Int}:∀ {s:(Int->Int) × List Int},(xs.foldl (bG su) s).2.length<=s.2.length+b * xs.length:=by
 induction xs with
 | nil=>exact Nat.le_refl _
 | cons x xs ih =>
  intro s
  refine rwE List.foldl_cons ?_
  have h1:=@ih (bG su s x)
  have h2:(bG su s x).2.length<=s.2.length+b:=by
   exact GS (@rE (su x) (upd s.1 x (-2),s.2)) (Nat.add_le_add_left (hb x) _)
  simp only [List.length_cons]
  exact GS h1 (GS (Nat.add_le_add_right h2 _) (Nat.le_of_eq ((Nat.add_assoc ..).trans (congrArg (s.2.length+·) (Nat.add_comm ..)))))
theorem jy {su:Int->List Int} {ns:List Int}:∀ (xs:List Int) (s:(Int->Int) × List Int) (i:Nat) (x:Int),jn su ns s xs->xs[i]?=some x->x∈ns/\((xs.take i).foldl (bG su) s).1 x=-1
 | [],_,_,_,_,h=>by exact nS h
 | a::xs,s,0,x,h,e=>by simp at e;subst e;exact⟨h.1,h.2.1⟩
 | a::xs,s,i+1,x,h,e=>by
  simp at e
  have:=jy xs (bG su s a) i x h.2.2 e
  simpa using this
noncomputable def aR:List Stmt:=bodyOf (nth cB.body 2)
theorem uL {d:Nat} {r:SR} {ns:List Int} {su:Int->List Int} {tt:(Int->Int) × List Int} {y:Int} {τ:Mine.St} {Q:Fl->Mine.St->Prop} {X:V->Mine.St->Prop} (T:Srt τ.H r ns tt.1 su (some tt.2)) (hyn:y∈ns) (hl:tt.2.length < big)
  (n1:τ.m (Str.ofString "self")=some (.ref r.s)) (n2:τ.m (Str.ofString "n2i")=some (.ref r.d)) (n3:τ.m (Str.ofString "successor")=some (.int y))
  (h:∀ H' m',Srt H' r ns (gy tt y).1 su (some (gy tt y).2)->Apart τ.H r ns H' r ns->m' (Str.ofString "self")=some (.ref r.s)->m' (Str.ofString "n2i")=some (.ref r.d)->Q .next ⟨H',m'⟩) :
  a7 (prog.at d) (bodyOf (nth aR 4)) cB.scope [] τ Q X:=by
 have hb:bodyOf (nth aR 4)=bodyOf (nth aR 4):=rfl
 conv at hb=>rhs;whnf
 rw [hb]
 clear hb
 obtain⟨n2',hd2⟩:=T.dict
 refine bW (T.info y hyn) fun gs2 j1 j2 j3 j4=>?_
 have hg2:dF (ns.map fun x=>(x,V.ref (r.ir x))) y=some (.ref (r.ir y)):=by exact (du ..).trans ((if_pos hyn) ..)
 have T2:=T.pH hyn j1 (tt.1 y - 1)
 have B2:Apart τ.H r ns (τ.H.set (r.ir y) (O.inst aNI fun x=>if x=Str.ofString "npredecessors" then some (V.int (tt.1 y - 1)) else gs2 x)) r ns:=Apart.set (.inr (.inr (.inr ⟨y,hyn,.inl rfl⟩)))
 have k1:(τ.H.set (r.ir y) (O.inst aNI fun x=>if x=Str.ofString "npredecessors" then some (V.int (tt.1 y - 1)) else gs2 x))[r.ir y]?=some (.inst aNI fun x=>if x=Str.ofString "npredecessors" then some (V.int (tt.1 y - 1)) else gs2 x):=au (aa j1)
 refine bW (T2.inst) fun fs2 f1 f2 f3 f4=>?_
 have f3:fs2 (Str.ofString "_ready_nodes")=some (V.ref r.q):=f3
 have f5:=T2.ready.1
 have p0:=(T.pos.2.2.2 y hyn).1
 wp_walk using 6,aj
 refine⟨fun hz0=>?_,fun hz0=>?_⟩
 .wp_walk using 6,aj
  refine⟨T.pos.2.2.1,hl,?_⟩
  wp_walk using 6,aj
  refine h _ _ ?_ (B2.trans (Apart.set (.inr (.inr (.inl rfl))))) n1 n2
  have:=T2.xj (tt.2++[y])
  unfold gy
  refine rwE (if_pos hz0) ?_
  rw [List.map_append] at this
  exact this
 .wp_walk using 6,aj
  refine h _ _ ?_ B2 n1 n2
  unfold gy
  refine rwE (if_neg hz0) ?_
  exact T2
theorem rG {d:Nat} {r:SR} {ns:List Int} {su:Int->List Int} {st:(Int->Int) × List Int} {p:Int} {b:Nat} {σ:Mine.St} {Q:Fl->Mine.St->Prop} {X:V->Mine.St->Prop} (S:Srt σ.H r ns st.1 su (some st.2)) (hpn:p∈ns) (hp1:st.1 p=-1) (hsu:∀ x,∀ y∈su x,y∈ns) (hb:(su p).length<=b) (hl:st.2.length+b < big)
  (m1:σ.m (Str.ofString "self")=some (.ref r.s)) (m2:σ.m (Str.ofString "n2i")=some (.ref r.d)) (m3:σ.m (Str.ofString "node")=some (.int p))
  (h:∀ H' m',Srt H' r ns (bG su st p).1 su (some (bG su st p).2)->Apart σ.H r ns H' r ns->m' (Str.ofString "self")=some (.ref r.s)->m' (Str.ofString "n2i")=some (.ref r.d)->Q .next ⟨H',m'⟩) :
  a7 (prog.at d) aR cB.scope [] σ Q X:=by
 have hb0:aR=[nth aR 0,nth aR 1,nth aR 2,nth aR 3,nth aR 4,nth aR 5]:=rfl
 have e0:nth aR 0=nth aR 0:=rfl
 have e1:nth aR 1=nth aR 1:=rfl
 have e2:nth aR 2=nth aR 2:=rfl
 have e3:nth aR 3=nth aR 3:=rfl
 have e5:nth aR 5=nth aR 5:=rfl
 conv at e0=>rhs;whnf
 conv at e1=>rhs;whnf
 conv at e2=>rhs;whnf
 conv at e3=>rhs;whnf
 conv at e5=>rhs;whnf
 have e4:∃ p1 p2 p3 p4,nth aR 4=.For (.Name (Str.ofString "successor") p1) (.Attribute (.Name (Str.ofString "nodeinfo") p2) (Str.ofString "successors") p3) (bodyOf (nth aR 4)) [] p4:=⟨_,_,_,_,rfl⟩
 obtain⟨_,_,_,_,e4⟩:=e4
 rw [hb0,e0,e1,e2,e3,e4,e5]
 clear hb0 e0 e1 e2 e3 e4 e5
 obtain⟨n',hd'⟩:=S.dict
 refine bW (S.info p hpn) fun gs i1 i2 i3 i4=>?_
 rw [hp1] at i3
 have hg:dF (ns.map fun x=>(x,V.ref (r.ir x))) p=some (.ref (r.ir p)):=by exact (du ..).trans ((if_pos hpn) ..)
 wp_walk using 6,m1,m2,hd',hg,i1,i3,Option.getD_some
 have S1:=S.pH hpn i1 (-2)
 have A1:Apart σ.H r ns (σ.H.set (r.ir p) (O.inst aNI fun x=>if x=Str.ofString "npredecessors" then some (V.int (-2)) else gs x)) r ns:=Apart.set (.inr (.inr (.inr ⟨p,hpn,.inl rfl⟩)))
 have q1:(σ.H.set (r.ir p) (O.inst aNI fun x=>if x=Str.ofString "npredecessors" then some (V.int (-2)) else gs x))[r.ir p]?=some (.inst aNI fun x=>if x=Str.ofString "npredecessors" then some (V.int (-2)) else gs x):=au (aa i1)
 have q2:=S1.succ p hpn
 wp_walk using 6,q1,i4,q2
 refine⟨(S.pos.2.2.2 p hpn).1,?_⟩
 generalize σ.H.set (r.ir p) (O.inst aNI fun x=>if x=Str.ofString "npredecessors" then some (V.int (-2)) else gs x)=H1 at S1 A1 q1 q2
 wp_walk using 6,q2
 refine br (fun j τ=>Srt τ.H r ns (((su p).take j).foldl gy (upd st.1 p (-2),st.2)).1 su (some (((su p).take j).foldl gy (upd st.1 p (-2),st.2)).2)/\Apart σ.H r ns τ.H r ns/\τ.m (Str.ofString "self")=some (.ref r.s)/\τ.m (Str.ofString "n2i")=some (.ref r.d))
  ⟨S1,A1,m1,m2⟩ ?_ ?_
 ·(intro j jt τ R2 hj ζ7;refine ek ζ7 fun T B n1 n2=>?_;clear ζ7;intro hR2)
  (refine ao (bA hj) fun y hy ζ2=>?_;obtain rfl:=ζ2)
  refine⟨aq q2 rfl (T.succ p hpn),?_⟩
  have hlen2:(((su p).take j).foldl gy (upd st.1 p (-2),st.2)).2.length < big:=
   GV (GS (@rE ((su p).take j) (upd st.1 p (-2),st.2)) (Nat.add_le_add_left (GS (List.length_take_le' ..) hb) _)) hl
  have e:((su p).take (j+1)).foldl gy (upd st.1 p (-2),st.2)=gy (((su p).take j).foldl gy (upd st.1 p (-2),st.2)) y:=by refine rwE (take_snoc hy) (rwE List.foldl_append ?_);rfl
  rw [e] at hR2
  refine rwE gA (rwE (dN (n:=.local) rfl (.inl rfl) List.not_mem_nil) ?_)
  exact uL T (hsu p y (G0 hy)) hlen2 n1 n2 rfl fun H' m' T' B' o1 o2=>hR2 _ ⟨T',B.trans B',o1,o2⟩
 ·(intro τ ζ8;refine ek ζ8 fun T B n1 n2=>?_;clear ζ8)
  refine⟨aq q2 rfl (T.succ p hpn),?_⟩
  rw [GX,GX,List.take_length] at T
  (refine bW (T.inst) fun fs2 f1 f2 f3 ζ3=>?_;obtain⟨ζ4,ζ5⟩:=ζ3;obtain⟨k4,f4⟩:=ζ4;obtain⟨k5,f5⟩:=ζ5)
  have p0:=T.pos.1
  wp_walk using 6,aj
  exact h _ _ (T.xh (fs:=fun x=>if x=Str.ofString "_nfinished" then some (.int (k5+1)) else fs2 x) ⟨by trivial,by trivial,⟨k4,by trivial⟩,⟨k5+1,by rfl⟩⟩) (B.trans (Apart.set (.inl rfl))) n1 n2
theorem iB {d:Nat} {H:List O} {r:SR} {ns:List Int} {np:Int->Int} {su:Int->List Int} {l xs:List Int} {b:Nat} {Q X:V->List O->Prop} (S:Srt H r ns np su (some l)) (hsu:∀ x,∀ y∈su x,y∈ns) (hb:∀ x,(su x).length<=b) (hx:xs.length<=big) (hz:l.length+b * xs.length < big)
  (ok:jn su ns (np,l) xs)
  (h:∀ H',Srt H' r ns (xs.foldl (bG su) (np,l)).1 su (some (xs.foldl (bG su) (np,l)).2)->Apart H r ns H' r ns->Q .none H'):prog.bP (d+1) 125 (.ref r.s::xs.map .int) H Q X:=by
 rw [bx wU]
 have hb0:cB.body=[nth cB.body 0,nth cB.body 1,nth cB.body 2]:=rfl
 rw [tu hb0 (ps:=[Str.ofString "self"]) rfl rfl rfl (by exact Nat.succ_pos _)]
 clear hb0
 have e0:nth cB.body 0=nth cB.body 0:=rfl
 have e1:nth cB.body 1=nth cB.body 1:=rfl
 conv at e0=>rhs;whnf
 conv at e1=>rhs;whnf
 have e4:∃ p1 p2 p3,nth cB.body 2=.For (.Name (Str.ofString "node") p1) (.Name (Str.ofString "nodes") p2) aR [] p3:=⟨_,_,_,rfl⟩
 obtain⟨_,_,_,e4⟩:=e4
 rw [e0,e1,e4]
 clear e0 e1 e4
 simp only [List.zip_cons_cons,List.zip_nil_right,List.length_cons,List.length_nil,Nat.zero_add,Nat.reduceAdd,List.take_succ_cons,List.take_zero,List.drop_succ_cons,List.drop_zero,GX]
 refine⟨hx,?_⟩
 have S0:=S.app [O.tuple (xs.map V.int)]
 have hno:¬ Own r ns H.length:=fun h=>Nat.lt_irrefl _ (S.aU h)
 refine bW (S0.inst) fun fs h1 h2 h3 h4=>?_
 have h3:fs (Str.ofString "_ready_nodes")=some (V.ref r.q):=h3
 have e2:(H++[O.tuple (xs.map V.int)])[H.length]?=some (.tuple (xs.map V.int)):=by exact List.getElem?_concat_length
 wp_walk using 6,h1,h2,h3,e2
 refine br (fun i σ=>Srt σ.H r ns ((xs.take i).foldl (bG su) (np,l)).1 su (some ((xs.take i).foldl (bG su) (np,l)).2)/\Apart (H++[O.tuple (xs.map V.int)]) r ns σ.H r ns/\σ.m (Str.ofString "self")=some (.ref r.s)/\σ.m (Str.ofString "n2i")=some (.ref r.d))
  ⟨S0,Apart.refl,rfl,rfl⟩ ?_ ?_
 ·(intro i it σ R hi ζ6;refine ek ζ6 fun S' A' m1 m2=>?_;clear ζ6;intro hR)
  (refine ao (bA hi) fun p hp ζ1=>?_;obtain rfl:=ζ1)
  refine⟨aq e2 rfl ((A'.keep _ (aa e2) hno).trans e2),?_⟩
  obtain⟨hpn,hp1⟩:=jy xs (np,l) i p ok hp
  have hpl:i < xs.length:=aa hp
  have hlen:((xs.take i).foldl (bG su) (np,l)).2.length+b < big:=by
   refine GV (Nat.add_le_add_right (@uN su b hb (xs.take i) (np,l)) b) (GV ?_ hz)
   rw [Nat.add_assoc,<- Nat.mul_succ,List.length_take,Nat.min_eq_left (G5 hpl)]
   exact Nat.add_le_add_left (Nat.mul_le_mul_left b hpl) _
  have e:(xs.take (i+1)).foldl (bG su) (np,l)=bG su ((xs.take i).foldl (bG su) (np,l)) p:=by
   refine rwE (take_snoc hp) (rwE List.foldl_append ?_);rfl
  rw [e] at hR
  refine rwE gA (rwE (dN (n:=.local) rfl (.inl rfl) List.not_mem_nil) ?_)
  exact rG S' hpn hp1 hsu (hb p) hlen m1 m2 rfl fun H' m' T' B' o1 o2=>hR _ ⟨T',A'.trans B',o1,o2⟩
 ·(intro σ ζ9;refine ek ζ9 fun S' A' m1 m2=>?_;clear ζ9)
  refine⟨aq e2 rfl ((A'.keep _ (aa e2) hno).trans e2),?_⟩
  wp_walk using 6,m1
  rw [GX,GX,List.take_length] at S'
  exact h _ S' (Apart.app.trans A')
theorem rF {d:Nat} {H:List O} {r:SR} {ns:List Int} {np:Int->Int} {su:Int->List Int} {l:List Int} {x:Int} {Q X:V->List O->Prop} (S:Srt H r ns np su (some l)) (hx:x∈ns) (hn:np x≠-1) (hn2:-2<=np x) (hs:small x)
  (h:∀ H' e vs,(∀ j,j < H.length->H'[j]?=H[j]?)->H.length<=H'.length->H'[e]?=some (.exc (.ty "ValueError") vs)->H.length<=e->X (.ref e) H'):prog.bP (d+1) 125 [.ref r.s,.int x] H Q X:=by
 rw [bx wU]
 have hb0:cB.body=cB.body:=rfl
 conv at hb0=>rhs;whnf
 rw [tu hb0 (ps:=[Str.ofString "self"]) rfl rfl rfl (by exact Nat.succ_pos _)]
 clear hb0
 simp only [List.zip_cons_cons,List.zip_nil_right,List.length_cons,List.length_nil,Nat.zero_add,Nat.reduceAdd,List.take_succ_cons,List.take_zero,List.drop_succ_cons,List.drop_zero,GX]
 refine⟨by unfold big;exact Nat.succ_le_of_lt (Nat.succ_pos 999999),?_⟩
 have S0:=S.app [O.tuple [V.int x]]
 refine bW (S0.inst) fun fs h1 h2 h3 h4=>?_
 have h3:fs (Str.ofString "_ready_nodes")=some (V.ref r.q):=h3
 have e2:(H++[O.tuple [V.int x]])[H.length]?=some (.tuple [V.int x]):=by simp
 obtain⟨n',hd'⟩:=S0.dict
 refine bW (S0.info x hx) fun gs i1 i2 i3 i4=>?_
 have hg:dF (ns.map fun x=>(x,V.ref (r.ir x))) x=some (.ref (r.ir x)):=by exact (du ..).trans ((if_pos hx) ..)
 wp_walk using 6,e2
 simp only [List.map_cons,List.map_nil,lK]
 refine⟨aq e2 rfl e2,?_⟩
 have fin:∀ (vs:List V),X (.ref (H++[O.tuple [V.int x]]).length) (H++[O.tuple [V.int x]]++[O.exc (V.ty "ValueError") vs]):=fun vs =>
  h _ _ vs (fun j hj=>by exact (GR (by simp;exact Nat.lt_succ_of_lt (by assumption))).trans (GR hj)) (by simp) (by simp) (by simp)
 wp_walk using 6,aj
 refine⟨fun h0=>?_,fun h0=>absurd (fun e=>hn e) h0⟩
 wp_walk using 6,aj
 refine⟨fun h1=>?_,fun h1=>?_⟩
 .wp_walk using 6,aj
  intro s hs
  wp_walk using 6,aj
  exact fin _
 .wp_walk using 6,aj
  refine⟨fun h2=>?_,fun h2=>(h1 (Int.add_one_le_of_lt (Int.lt_iff_le_and_ne.2 ⟨Int.add_one_le_of_lt (Int.lt_iff_le_and_ne.2 ⟨hn2,Ne.symm h2⟩),Ne.symm hn⟩))).elim⟩
  wp_walk using 6,aj
  intro s hs
  wp_walk using 6,aj
  exact fin _
inductive Rs where
 | bad
 | ring (l:List Int)
 | fin (seen:List Int)
noncomputable def nextOf (su:Int->List Int):List (Int × Nat)->Option (Int × List (Int × Nat))
 | []=>none
 | (x,k)::r=>match (su x)[k]? with
  | some y=>some (y,(x,k+1)::r)
  | none=>nextOf su r
noncomputable def jF (st:List (Int × Nat)) (x:Int):List Int:=(st.reverse.map (·.1)).drop ((st.reverse.map (·.1)).idxOf x)++[x]
noncomputable def bN (su:Int->List Int):Nat->List Int->List (Int × Nat)->Int->Rs
 | 0,_,_,_=>.bad
 | n+1,seen,st,x =>
  if x∈seen then
   if x∈st.map (·.1) then .ring (jF st x)
   else match nextOf su st with
    | none=>.fin seen
    | some (y,st')=>bN su n seen st' y
  else match nextOf su ((x,0)::st) with
   | none=>.fin (x::seen)
   | some (y,st')=>bN su n (x::seen) st' y
noncomputable def bO (su:Int->List Int) (n:Nat):List Int->List Int->Rs
 | seen,[]=>.fin seen
 | seen,x::r=>if x∈seen then bO su n seen r else match bN su n seen [] x with
  | .fin seen'=>bO su n seen' r
  | o=>o
structure FnR where
 a:Nat
 b:Nat
 c:Nat
 e:Nat
noncomputable def dK (st:List (Int × Nat)):List (Int × V):=(st.reverse.map (·.1)).zipIdx.map fun p=>(p.1,V.int p.2)
structure Fnd (FO:Nat) (r:SR) (H:List O) (f:FnR) (st:List (Int × Nat)) (seen:List Int) (its:List (Nat × Nat)):Prop where
 ord:FO<=f.a/\f.a < f.b/\f.b < f.c/\f.c < f.e
 stk:H[f.a]?=some (.list ((st.reverse.map (·.1)).map .int))
 itl:H[f.b]?=some (.list (its.reverse.map fun p=>V.ref p.1))
 set:H[f.c]?=some (.set seen)
 dic:∃ n,H[f.e]?=some (.dict (dK st) n)
 len:its.length=st.length
 it:∀ (j:Nat) (x:Int) (k o i:Nat),st[j]?=some (x,k)->its[j]?=some (o,i)->H[o]?=some (O.nextof i)/\H[i]?=some (O.liter (r.lr x) k)
 new:∀ p∈its,FO<=p.2
 ne:(its.map (·.2)).Nodup
 nd:(st.map (·.1)).Nodup
 sn:∀ p∈st,p.1∈seen
section
variable {FO:Nat} {r:SR} {H:List O} {f:FnR} {st:List (Int × Nat)} {seen:List Int} {its:List (Nat × Nat)}
theorem Fnd.app (F:Fnd FO r H f st seen its) (t:List O):Fnd FO r (H++t) f st seen its where
 ord:=F.ord
 stk:=by refine (GR (aa F.stk)).trans ?_;exact F.stk
 itl:=by refine (GR (aa F.itl)).trans ?_;exact F.itl
 set:=by refine (GR (aa F.set)).trans ?_;exact F.set
 dic:=by obtain⟨n,h⟩:=F.dic;exact⟨n,by refine (GR (aa h)).trans ?_;exact h⟩
 len:=F.len
 it:=fun j x k o i h1 h2=>by
  obtain⟨h3,h4⟩:=F.it j x k o i h1 h2
  exact⟨by refine (GR (aa h3)).trans ?_;exact h3,by refine (GR (aa h4)).trans ?_;exact h4⟩
 new:=F.new
 ne:=F.ne
 nd:=F.nd
 sn:=F.sn
theorem Fnd.see (F:Fnd FO r H f st seen its) (x:Int):Fnd FO r (H.set f.c (.set (x::seen))) f st (x::seen) its where
 ord:=F.ord
 stk:=by refine (af (Nat.ne_of_gt (Nat.lt_trans F.ord.2.1 F.ord.2.2.1))).trans ?_;exact F.stk
 itl:=by refine (af (Nat.ne_of_gt F.ord.2.2.1)).trans ?_;exact F.itl
 set:=au (aa F.set)
 dic:=by obtain⟨n,h⟩:=F.dic;exact⟨n,by refine (af (Nat.ne_of_lt F.ord.2.2.2)).trans ?_;exact h⟩
 len:=F.len
 it:=fun j x k o i h1 h2=>by
  obtain⟨h3,h4⟩:=F.it j x k o i h1 h2
  exact⟨by refine (af fun e=>by have:=F.set;rw [e,h3] at this;simp at this).trans ?_;exact h3,by refine (af fun e=>by have:=F.set;rw [e,h4] at this;simp at this).trans ?_;exact h4⟩
 new:=F.new
 ne:=F.ne
 nd:=F.nd
 sn:=fun p hp=>.tail _ (F.sn p hp)
theorem fj {x:Int} {k:Nat}:dK ((x,k)::st)=dK st++[(x,V.int st.length)]:=by
 unfold dK
 refine rwE List.reverse_cons (rwE List.map_append (rwE List.zipIdx_append (rwE List.map_append ?_)))
 simp
theorem uS {x:Int} {k j:Nat}:dK ((x,k)::st)=dK ((x,j)::st):=by exact rwE fj (rwE fj rfl)
theorem j7:(dK st).map (·.1)=st.reverse.map (·.1):=by
 unfold dK
 rw [List.map_map]
 have:((fun (e:Int × V)=>e.1) ∘ fun (p:Int × Nat)=>(p.1,V.int p.2))=Prod.fst:=rfl
 rw [this,List.zipIdx_map_fst]
theorem j8 {x:Int}:(dF (dK st) x).isSome=decide (x∈st.map (·.1)):=by
 have h:(dF (dK st) x).isSome=decide (x∈(dK st).map (·.1)):=by
  unfold dF
  generalize dK st=es
  induction es with
  | nil=>rfl
  | cons e es ih =>
   refine rwE (List.find?_cons) ?_
   by_cases h:e.1=x
   .simp [h]
   .have h2:x≠e.1:=fun q=>h q.symm
    simp only [h,decide_false,List.map_cons,List.mem_cons]
    refine rwE ih ?_;simp [h2]
 refine rwE h (rwE j7 ?_)
 simp
end
section
variable {FO:Nat} {r:SR} {H:List O} {f:FnR} {st:List (Int × Nat)} {seen:List Int} {its:List (Nat × Nat)}
theorem Fnd.sj (F:Fnd FO r H f st seen its) {j:Nat} {p:Nat × Nat} (h:its[j]?=some p):p.1≠f.a/\p.1≠f.b/\p.1≠f.c/\p.1≠f.e/\p.2≠f.a/\p.2≠f.b/\p.2≠f.c/\p.2≠f.e:=by
 have hj:j < st.length:=by refine rwS F.len ?_;exact aa h
 obtain⟨h3,h4⟩:=F.it j st[j].1 st[j].2 p.1 p.2 (G6 hj) h
 obtain⟨n,hd⟩:=F.dic
 refine En (fun e=>?_) (fun e=>?_) (fun e=>?_) (fun e=>?_) (fun e=>?_) (fun e=>?_) (fun e=>?_) (fun e=>?_)
 .rw [e,F.stk] at h3;obtain⟨rfl,rfl⟩:=Option.some.inj h3
 .rw [e,F.itl] at h3;obtain⟨rfl,rfl⟩:=Option.some.inj h3
 .rw [e,F.set] at h3;simp at h3
 .rw [e,hd] at h3;simp at h3
 .rw [e,F.stk] at h4;obtain⟨rfl,rfl⟩:=Option.some.inj h4
 .rw [e,F.itl] at h4;lia
 .rw [e,F.set] at h4;simp at h4
 .rw [e,hd] at h4;simp at h4
theorem Fnd.push (F:Fnd FO r H f st seen its) {x:Int} (hx:x∉st.map (·.1)) (hs:x∈seen) (hn:FO<=H.length) (n':Nat) :
  Fnd FO r ((((H++[O.liter (r.lr x) 0]++[O.nextof H.length]).set f.b (O.list ((its.reverse.map fun p=>V.ref p.1)++[V.ref (H.length+1)]))).set f.e (O.dict (lE (dK st) x (V.int st.length)) n')).set f.a (O.list ((st.reverse.map (·.1)).map V.int++[V.int x]))) f ((x,0)::st) seen ((H.length+1,H.length)::its):=by
 have G:=(F.app [O.liter (r.lr x) 0]).app [O.nextof H.length]
 have o:=F.ord
 obtain⟨n,hd⟩:=G.dic
 have la:=aa F.stk
 have lb:=aa F.itl
 have lc:=aa F.set
 obtain⟨n2,hd2⟩:=F.dic
 have le:=aa hd2
 have hds:lE (dK st) x (V.int st.length)=dK ((x,0)::st):=by
  rw [fj,j0]
  intro e he h
  apply hx
  have:e.1∈(dK st).map (·.1):=List.mem_map_of_mem he
  rw [j7,h] at this
  simpa using this
 refine rwE hds ?_
 refine⟨o,?_,?_,?_,?_,by simp [F.len],?_,?_,?_,?_,?_⟩
 .refine (au (by simp;exact aT5 (aU6 rfl) la)).trans ?_;simp
 .refine (af (Nat.ne_of_lt o.2.1)).trans ((af (Nat.ne_of_gt (Nat.lt_trans o.2.2.1 o.2.2.2))).trans ((au (by simp;exact aT5 (aU6 rfl) lb)).trans ?_));simp
 .refine (af (Nat.ne_of_lt (Nat.lt_trans o.2.1 o.2.2.1))).trans ((af (Nat.ne_of_gt o.2.2.2)).trans ((af (Nat.ne_of_lt o.2.2.1)).trans ?_));exact G.set
 .refine⟨n',?_⟩
  exact (af (Nat.ne_of_lt (Nat.lt_trans o.2.1 (Nat.lt_trans o.2.2.1 o.2.2.2)))).trans (au (by simp;exact aT5 (aU6 rfl) le))
 .intro j y k o' i h1 h2
  induction j using Nat.casesOn with
  | zero =>
   simp only [List.getElem?_cons_zero,Option.some.injEq,Prod.mk.injEq] at h1 h2
   obtain⟨rfl,rfl⟩:=h1
   obtain⟨rfl,rfl⟩:=h2
   constructor
   .refine (af (by exact Nat.ne_of_lt (Nat.lt_succ_of_lt la))).trans ((af (by exact Nat.ne_of_lt (Nat.lt_succ_of_lt le))).trans ((af (by exact Nat.ne_of_lt (Nat.lt_succ_of_lt lb))).trans ?_))
    refine (List.getElem?_append_right (by simp)).trans ?_;simp
   .refine (af (by exact Nat.ne_of_lt la)).trans ((af (by exact Nat.ne_of_lt le)).trans ((af (by exact Nat.ne_of_lt lb)).trans ?_))
    refine (GR (by simp)).trans ((List.getElem?_append_right (by exact Nat.le_refl _)).trans ?_);simp
  | succ j =>
   simp only [List.getElem?_cons_succ] at h1 h2
   obtain⟨h3,h4⟩:=G.it j y k o' i h1 h2
   (refine lg (F.sj h2) fun n1 n2 n3 n4 n5 n6 ζ1=>?_;obtain⟨n7,n8⟩:=ζ1)
   exact⟨by refine (af (Ne.symm n1)).trans ((af (Ne.symm n4)).trans ((af (Ne.symm n2)).trans ?_));exact h3,by refine (af (Ne.symm n5)).trans ((af (Ne.symm n8)).trans ((af (Ne.symm n6)).trans ?_));exact h4⟩
 .intro p hp
  rcases List.mem_cons.mp hp with rfl | hp
  .exact hn
  .exact F.new p hp
 .rw [List.map_cons,List.nodup_cons]
  refine⟨fun h=>?_,F.ne⟩
  refine ao (List.mem_map.mp h) fun p hp e=>?_
  obtain⟨j,hj⟩:=List.getElem?_of_mem hp
  have hjs:j < st.length:=by refine rwS F.len ?_;exact aa hj
  obtain⟨_,h4⟩:=F.it j st[j].1 st[j].2 p.1 p.2 (G6 hjs) hj
  have:=aa h4
  simp only at e
  simp_all
 .rw [List.map_cons,List.nodup_cons];exact⟨hx,F.nd⟩
 .intro p hp
  rcases List.mem_cons.mp hp with rfl | hp
  .exact hs
  .exact F.sn p hp
theorem Fnd.step {x:Int} {k o i:Nat} (F:Fnd FO r H f ((x,k)::st) seen ((o,i)::its)):Fnd FO r (H.set i (O.liter (r.lr x) (k+1))) f ((x,k+1)::st) seen ((o,i)::its):=by
 (refine lg (F.sj (j:=0) (p:=(o,i)) rfl) fun n1 n2 n3 n4 n5 n6 ζ2=>?_;obtain⟨n7,n8⟩:=ζ2)
 obtain⟨h3,h4⟩:=F.it 0 x k o i rfl rfl
 have hoi:i≠o:=fun e=>by rw [e,h3] at h4;simp at h4
 refine⟨F.ord,by refine (af n5).trans ?_;simpa using F.stk,by refine (af n6).trans ?_;exact F.itl,by refine (af n7).trans ?_;exact F.set,?_,F.len,?_,F.new,F.ne,F.nd,?_⟩
 .obtain⟨n,h⟩:=F.dic
  exact⟨n,by refine rwE (af n8) (rwE (uS (j:=k)) ?_);exact h⟩
 .intro j y k' o' i' h1 h2
  induction j using Nat.casesOn with
  | zero =>
   simp only [List.getElem?_cons_zero,Option.some.injEq,Prod.mk.injEq] at h1 h2
   obtain⟨rfl,rfl⟩:=h1
   obtain⟨rfl,rfl⟩:=h2
   exact⟨by refine (af hoi).trans ?_;exact h3,au (aa h4)⟩
  | succ j =>
   obtain⟨h5,h6⟩:=F.it (j+1) y k' o' i' h1 h2
   have hne:i≠i':=by
    have:=F.ne
    rw [List.map_cons,List.nodup_cons] at this
    intro e
    exact this.1 (List.mem_map.mpr ⟨(o',i'),G0 (by simpa using h2),e.symm⟩)
   have hno:i≠o':=fun e=>by rw [e,h5] at h4;simp at h4
   exact⟨by refine (af hno).trans ?_;exact h5,by refine (af hne).trans ?_;exact h6⟩
 .intro p hp
  rcases List.mem_cons.mp hp with rfl | hp
  .exact F.sn (x,k) (.head _)
  .exact F.sn p (.tail _ hp)
theorem rD {x:Int} {k:Nat} (h:x∉st.map (·.1)):xU (dK ((x,k)::st)) x=dK st:=by
 refine rwE fj ?_
 unfold xU
 refine (List.filter_append ..).trans ?_
 have h1:(dK st).filter (fun e=>e.1 != x)=dK st:=by
  refine Iff.mpr List.filter_eq_self ?_
  intro e he
  have:e.1∈(dK st).map (·.1):=List.mem_map_of_mem he
  rw [j7] at this
  have h2:e.1≠x:=fun q=>h (by refine rwS q ?_;simpa using this)
  simpa using h2
 refine rwE h1 ?_
 simp
theorem Fnd.pop {x:Int} {k o i:Nat} (F:Fnd FO r H f ((x,k)::st) seen ((o,i)::its)) (ex:O) (n':Nat) :
  Fnd FO r ((((H.set i O.dead++[ex]).set f.a (O.list ((st.reverse.map (·.1)).map V.int))).set f.e (O.dict (dK st) n')).set f.b (O.list (its.reverse.map fun p=>V.ref p.1))) f st seen its:=by
 (refine lg (F.sj (j:=0) (p:=(o,i)) rfl) fun n1 n2 n3 n4 n5 n6 ζ3=>?_;obtain⟨n7,n8⟩:=ζ3)
 obtain⟨h3,h4⟩:=F.it 0 x k o i rfl rfl
 have od:=F.ord
 have la:=aa F.stk
 have lb:=aa F.itl
 have lc:=aa F.set
 obtain⟨n2',hd2⟩:=F.dic
 have le:=aa hd2
 refine⟨od,?_,?_,?_,⟨n',?_⟩,by have:=F.len;simpa using this,?_,fun p hp=>F.new p (.tail _ hp),?_,?_,fun p hp=>F.sn p (.tail _ hp)⟩
 .exact (af (Nat.ne_of_gt od.2.1)).trans ((af (Nat.ne_of_gt (Nat.lt_trans od.2.1 (Nat.lt_trans od.2.2.1 od.2.2.2)))).trans (au (by simp;exact Nat.le.step la)))
 .exact au (by simp;exact Nat.le.step lb)
 .refine (af (by lia)).trans ((af (by lia)).trans ((af (by lia)).trans ((GR (by simp;omega)).trans ((af n7).trans ?_))));exact F.set
 .exact (af (Nat.ne_of_lt (Nat.lt_trans od.2.2.1 od.2.2.2))).trans (au (by simp;exact Nat.le.step le))
 .intro j y k' o' i' h1 h2
  obtain⟨h5,h6⟩:=F.it (j+1) y k' o' i' (by simpa using h1) (by simpa using h2)
  (refine lg (F.sj (j:=j+1) (p:=(o',i')) (by simpa using h2)) fun m1 m2 m3 m4 m5 m6 ζ4=>?_;obtain⟨m7,m8⟩:=ζ4)
  have hne:i≠i':=by
   have:=F.ne
   rw [List.map_cons,List.nodup_cons] at this
   intro e
   exact this.1 (List.mem_map.mpr ⟨(o',i'),G0 h2,e.symm⟩)
  have hno:i≠o':=fun e=>by rw [e,h5] at h4;simp at h4
  constructor
  .refine (af (Ne.symm m2)).trans ((af (Ne.symm m4)).trans ((af (Ne.symm m1)).trans ((GR (by have:=aa h5;simp;omega)).trans ((af hno).trans ?_))));exact h5
  .refine (af (Ne.symm m6)).trans ((af (Ne.symm m8)).trans ((af (Ne.symm m5)).trans ((GR (by have:=aa h6;simp;omega)).trans ((af hne).trans ?_))));exact h6
 .have:=F.ne
  rw [List.map_cons,List.nodup_cons] at this
  exact this.2
 .have:=F.nd
  rw [List.map_cons,List.nodup_cons] at this
  exact this.2
end
noncomputable def iD:Stmt:=nth (bodyOf (nth (bodyOf (nth fH.body 5)) 1)) 1
structure ue (m:Str->Option V) (r:SR) (f:FnR):Prop where
 n2i:m (Str.ofString "n2i")=some (.ref r.d)
 stk:m (Str.ofString "stack")=some (.ref f.a)
 its:m (Str.ofString "itstack")=some (.ref f.b)
 seen:m (Str.ofString "seen")=some (.ref f.c)
 n2s:m (Str.ofString "node2stacki")=some (.ref f.e)
theorem ue.put {σ:Mine.St} {r:SR} {f:FnR} (h:ue σ.m r f) (v:V):ue (σ.put (Str.ofString "node") v).m r f:=
 ⟨h.n2i,h.stk,h.its,h.seen,h.n2s⟩
theorem vR {st:List (Int × Nat)} {x:Int} {k:Nat}:(((x,k)::st).reverse.map (·.1)).map V.int=(st.reverse.map (·.1)).map V.int++[V.int x]:=by simp
theorem tg {its:List (Nat × Nat)} {o i:Nat}:(((o,i)::its).reverse.map fun p=>V.ref p.1)=(its.reverse.map fun p=>V.ref p.1)++[V.ref o]:=by simp
theorem o6 {d:Nat} {Fo:List O} {r:SR} {ns:List Int} {np:Int->Int} {su:Int->List Int} {rd:Option (List Int)} (S:Srt Fo r ns np su rd) (hb:∀ x,(su x).length<=big) {f:FnR} {st:List (Int × Nat)} {seen:List Int} {its:List (Nat × Nat)} {τ:Mine.St} {Q:Fl->Mine.St->Prop} {X:V->Mine.St->Prop}
  (F:Fnd Fo.length r τ.H f st seen its) (old:∀ j,j < Fo.length->τ.H[j]?=Fo[j]?) (fr:ue τ.m r f) (hst:∀ p∈st,p.1∈ns) (hl:st.length < 1000)
  (hnext:match nextOf su st with
   | none=>∀ τ',Fnd Fo.length r τ'.H f [] seen []->(∀ j,j < Fo.length->τ'.H[j]?=Fo[j]?)->ue τ'.m r f->Q .brk τ'
   | some (y,st')=>∀ τ' its',Fnd Fo.length r τ'.H f st' seen its'->(∀ j,j < Fo.length->τ'.H[j]?=Fo[j]?)->ue τ'.m r f->τ'.m (Str.ofString "node")=some (.int y)->Q .next τ') :
  awS (prog.at d) iD fH.scope [] τ Q X:=by
 have hf:iD=iD:=rfl
 conv at hf=>rhs;whnf
 refine rwE hf (rwE tK ?_)
 refine dZ (fun m τ=>∃ st1 its1,m=st1.length/\nextOf su st1=nextOf su st/\Fnd Fo.length r τ.H f st1 seen its1/\(∀ j,j < Fo.length->τ.H[j]?=Fo[j]?)/\ue τ.m r f/\(∀ p∈st1,p.1∈ns)/\st1.length < 1000) ⟨st,its,rfl,rfl,F,old,fr,hst,hl⟩ ?_
 (intro m τ ζ2;refine bq ζ2 fun st1 its1 ζ3 ζ4=>?_;clear ζ2;obtain rfl:=ζ3;refine nk ζ4 fun hn F old fr hst hl=>?_;clear ζ4)
 have c1:=fr.stk
 have c2:=fr.its
 have c3:=fr.n2s
 have k1:=F.stk
 have hpos:∀ {j},Fo.length<=j->0 < j:=fun h=>by exact GU (Nat.zero_lt_of_lt (S.aU (j:=r.s) (.inl rfl))) h
 have od:=F.ord
 have oa:=od.1
 have ob:=GS oa (G5 od.2.1)
 have oe:=GS ob (G5 (Nat.lt_trans od.2.2.1 od.2.2.2))
 induction st1 using List.casesOn with
 | nil =>
  have hi:its1=[]:=by have:=F.len;simpa using this
  subst hi
  wp_walk using 6,aj
  rw [<- hn] at hnext
  exact hnext _ F old fr
 | cons p st2 =>
  obtain⟨x,k⟩:=p
  induction its1 using List.casesOn with
  | nil=>have:=F.len;contradiction
  | cons q its2 =>
   obtain⟨o,i⟩:=q
   obtain⟨g1,g2⟩:=F.it 0 x k o i rfl rfl
   have k2:=F.itl
   rw [tg] at k2
   rw [vR] at k1
   have hx:x∈ns:=hst _ (.head _)
   have hlr:r.lr x < Fo.length:=S.aU (.inr (.inr (.inr ⟨x,hx,.inr rfl⟩)))
   have g3:τ.H[r.lr x]?=some (.list ((su x).map .int)):=by refine (old _ hlr).trans ?_;exact S.succ x hx
   have hne:(!((st2.reverse.map (·.1)).map V.int++[V.int x]).isEmpty)=true:=by simp
   obtain⟨pl1,pl2⟩:=@jE (its2.reverse.map fun p=>V.ref p.1) (V.ref o)
   wp_walk using 6,aj
   rw [An]
   refine⟨rfl,Al g1 g2 g3 (hpos (F.new _ (.head _))) (by simpa using hb x) ?_⟩
   have hnx:nextOf su ((x,k)::st2)=(match (su x)[k]? with | some y=>some (y,(x,k+1)::st2) | none=>nextOf su st2):=rfl
   refine rwE (G3) ?_
   induction hy:(su x)[k]? with
   | some y =>
    rw [hy] at hnx
    rw [<- hn,hnx] at hnext
    simp only [Option.map_some]
    wp_walk using 6,aj
    refine hnext _ _ F.step (fun j hj=>?_) (fr.put (σ:=⟨τ.H.set i (O.liter (r.lr x) (k+1)),τ.m⟩) _) (rfl)
    refine (?_:(τ.H.set i _)[j]?=_)
    refine (af (Nat.ne_of_gt (GU hj (F.new _ (.head _))))).trans ?_;exact old j hj
   | none =>
    rw [hy] at hnx
    simp only [Option.map_none]
    refine⟨trivial,?_⟩
    (refine lg (F.sj (j:=0) (p:=(o,i)) rfl) fun m1 m2 m3 m4 m5 m6 ζ1=>?_;obtain⟨m7,m8⟩:=ζ1)
    obtain⟨ne,hde⟩:=F.dic
    have la:=aa k1
    have lb:=aa k2
    have le:=aa hde
    have b1:(τ.H.set i O.dead++[O.exc (V.ty "StopIteration") []])[τ.H.length]?=some (.exc (.ty "StopIteration") []):=by refine (List.getElem?_append_right (by simp)).trans ?_;simp
    have b2:(τ.H.set i O.dead++[O.exc (V.ty "StopIteration") []])[f.a]?=some (O.list ((st2.reverse.map (·.1)).map V.int++[V.int x])):=by refine (GR (GW la List.length_set.symm)).trans ((af m5).trans ?_);exact k1
    have b3:∀ o1,((τ.H.set i O.dead++[O.exc (V.ty "StopIteration") []]).set f.a o1)[f.e]?=some (O.dict (dK ((x,k)::st2)) ne):=fun o1=>by refine (af (Nat.ne_of_lt (Nat.lt_trans od.2.1 (Nat.lt_trans od.2.2.1 od.2.2.2)))).trans ((GR (GW le List.length_set.symm)).trans ((af m8).trans ?_));exact hde
    have b4:∀ o1 o2,(((τ.H.set i O.dead++[O.exc (V.ty "StopIteration") []]).set f.a o1).set f.e o2)[f.b]?=some (O.list ((its2.reverse.map fun p=>V.ref p.1)++[V.ref o])):=fun o1 o2=>by refine (af (Nat.ne_of_gt (Nat.lt_trans od.2.2.1 od.2.2.2))).trans ((af (Nat.ne_of_lt od.2.1)).trans ((GR (GW lb List.length_set.symm)).trans ((af m6).trans ?_)));exact k2
    have hxs:x∉st2.map (·.1):=by
     have:=F.nd
     rw [List.map_cons,List.nodup_cons] at this
     exact this.1
    have hdg:(dF (dK ((x,k)::st2)) x).isSome=true:=by refine j8.trans ?_;simp
    wp_walk using 6,aj
    have l1:((st2.reverse.map (·.1)).map V.int++[V.int x]).length=st2.length+1:=by simp
    have l2:(dK ((x,k)::st2)).length=st2.length+1:=by unfold dK;simp
    have l3:((its2.reverse.map fun p=>V.ref p.1)++[V.ref o]).length=st2.length+1:=by refine rwE (GY ..) (rwE (GX ..) (rwE (List.length_reverse ..) ?_));exact F.len
    have hl':st2.length+1 < 1000:=hl
    refine⟨hpos oa,by refine rwE l1 ?_;exact Nat.lt_trans hl' (by decide),?_⟩
    wp_walk using 6,b3,rD hxs,hdg
    refine⟨hpos oe,by refine rwE l2 ?_;exact G5 (Nat.lt_trans hl' (by decide)),fun n'=>?_⟩
    have b5:=b4 (O.list ((st2.reverse.map (·.1)).map V.int)) (O.dict (dK st2) n')
    wp_walk using 6,aj
    refine⟨hpos ob,by refine rwE l3 ?_;exact Nat.lt_trans hl' (by decide),?_⟩
    wp_walk using 6,aj
    refine⟨st2.length,Nat.lt_succ_self _,st2,rfl,?_,its2,F.pop _ n',fun j hj=>?_,fr,fun p hp=>hst p (.tail _ hp),by exact G5 hl⟩
    .exact rwS hn (rwE hnx rfl)
    .have hi:Fo.length<=i:=F.new (o,i) (.head _)
     have li:=aa g2
     refine rwE (af (Nat.ne_of_gt (GU hj ob))) (rwE (af (Nat.ne_of_gt (GU hj oe))) (rwE (af (Nat.ne_of_gt (GU hj oa))) (rwE (GR (GW (GU hj (GS oe (G5 le))) List.length_set.symm)) (rwE (af (Nat.ne_of_gt (GU hj hi))) ?_))));exact old j hj
theorem aQ:∀ {l m:List Int},l.Nodup->(∀ x∈l,x∈m)->l.length<=m.length
 | [],m,_,_=>Nat.zero_le _
 | x::l,m,hn,h=>by
  obtain⟨h1,h2⟩:=List.nodup_cons.mp hn
  have hx:=h x (.head _)
  have:=aQ (l:=l) (m:=m.erase x) h2 fun y hy=>(List.mem_erase_of_ne (fun e=>h1 (by refine rwS e ?_;exact hy))).mpr (h y (.tail _ hy))
  rw [List.length_erase_of_mem hx] at this
  have:=List.length_pos_of_mem hx
  simp only [List.length_cons];lia
theorem uR {st:List (Int × Nat)} {y:Int} (h:y∈st.map (·.1)):dF (dK st) y=some (.int ((st.reverse.map (·.1)).idxOf y)):=by
 unfold dK dF
 have hy:y∈st.reverse.map (·.1):=by simpa using h
 generalize st.reverse.map (·.1)=l at hy
 have main:∀ (l:List Int) (k:Nat),y∈l->((l.zipIdx k).map fun p=>(p.1,V.int p.2)).find? (fun e=>e.1=y)=some (y,V.int ((k+l.idxOf y:Nat):Int)):=by
  intro l
  induction l with
  | nil=>intro k h;cases h
  | cons a l ih =>
   intro k h
   rw [List.zipIdx_cons,List.map_cons,List.find?_cons]
   by_cases e:a=y
   .subst e;simp
   .simp only [e,decide_false]
    rw [ih (k+1) ((List.mem_cons.mp h).resolve_left fun q=>e q.symm)]
    rw [show (a::l).idxOf y=l.idxOf y+1 from by rw [List.idxOf_cons,beq_eq_false_iff_ne.mpr e];rfl]
    congr 2
    simp;simp +arith
 refine rwE (main l 0 hy) ?_
 simp
theorem fD {su:Int->List Int} {ns:List Int} (hsu:∀ x,∀ y∈su x,y∈ns):∀ {st:List (Int × Nat)} {y:Int} {st':List (Int × Nat)},(∀ p∈st,p.1∈ns)->nextOf su st=some (y,st')->y∈ns/\∀ p∈st',p.1∈ns
 | [],_,_,_,h=>by exact nS h
 | (x,k)::r,y,st',hst,h=>by
  rw [nextOf] at h
  induction hq:(su x)[k]? with
  | some z =>
   rw [hq] at h
   cases h
   refine⟨hsu x _ (G0 hq),fun p hp=>?_⟩
   rcases List.mem_cons.mp hp with rfl | hp
   .exact hst (x,k) (.head _)
   .exact hst p (.tail _ hp)
  | none =>
   rw [hq] at h
   exact fD hsu (fun p hp=>hst p (.tail _ hp)) h
theorem jH {xs:List V} {k:Nat} (h:k<=xs.length):sliceOf xs (some (k:Int)) none=xs.drop k:=by
 have hc:clip xs.length (k:Int)=k:=e9.trans (Nat.min_eq_left h)
 refine (?_:(xs.drop (clip xs.length (k:Int))).take (xs.length - clip xs.length (k:Int))=_)
 rw [hc,List.take_of_length_le]
 simp
noncomputable def zU:Stmt:=nth (bodyOf (nth (bodyOf (nth fH.body 5)) 1)) 0
noncomputable def jJ (s:Stmt):List Stmt:=if h:s.ctorIdx=12 then Stmt.If.elim (motive_2:=fun _=>List Stmt) s h fun _ b _ _=>b else []
noncomputable def rI (s:Stmt):List Stmt:=if h:s.ctorIdx=12 then Stmt.If.elim (motive_2:=fun _=>List Stmt) s h fun _ _ o _=>o else []
theorem rP {d:Nat} {H:List O} {r:SR} {ns:List Int} {np:Int->Int} {su:Int->List Int} {rd:Option (List Int)} {f:FnR} {st:List (Int × Nat)} {seen1:List Int} {its:List (Nat × Nat)} {y:Int} {τ:Mine.St} {Q:Fl->Mine.St->Prop} {X:V->Mine.St->Prop} (S:Srt H r ns np su rd) (F:Fnd H.length r τ.H f st seen1 its) (old:∀ j,j < H.length->τ.H[j]?=H[j]?) (fr:ue τ.m r f)
  (hnode:τ.m (Str.ofString "node")=some (.int y)) (hyn:y∈ns) (hy1:y∉seen1) (hsl:st.length<=900) (hse:seen1.length<=900)
  (h:∀ H' its',Fnd H.length r H' f ((y,0)::st) (y::seen1) its'->(∀ j,j < H.length->H'[j]?=H[j]?)->Q .next ⟨H',τ.m⟩):a7 (prog.at d) (rI zU) fH.scope [] τ Q X:=by
 have hb:rI zU=rI zU:=rfl
 conv at hb=>rhs;whnf
 rw [hb]
 clear hb
 have c1:=fr.n2i
 have c2:=fr.stk
 have c3:=fr.its
 have c4:=fr.seen
 have c5:=fr.n2s
 have hset:=F.set
 have od:=F.ord
 have hdl:=S.aU (j:=r.d) (.inr (.inl rfl))
 have hpos:0 < H.length:=Nat.zero_lt_of_lt hdl
 obtain⟨nd,hd⟩:=S.dict
 have F1:=F.see y
 have p1:0 < f.a:=GU hpos od.1
 have p2:0 < f.b:=Nat.lt_trans p1 od.2.1
 have p3:0 < f.c:=Nat.lt_trans p2 od.2.2.1
 have p4:0 < f.e:=Nat.lt_trans p3 od.2.2.2
 have nc:∀ j,j < H.length->f.c≠j:=fun j hj=>Nat.ne_of_gt (GU hj (G5 (GV od.1 (Nat.lt_trans od.2.1 od.2.2.1))))
 have hys:y∉st.map (·.1):=fun hh=>by
  refine ao (List.mem_map.mp hh) fun p hp e=>?_
  have:=F.sn p hp
  rw [e] at this;exact hy1 this
 have old1:∀ j,j < H.length->(τ.H.set f.c (O.set (y::seen1)))[j]?=H[j]?:=fun j hj=>(af (nc j hj)).trans (old j hj)
 wp_walk using 6,hset,if_neg hy1
 refine⟨p3,GV hse (by decide),?_⟩
 generalize τ.H.set f.c (O.set (y::seen1))=H1 at F1 old1
 refine bW (S.info y hyn) fun gs i1 i2 i3 i4=>?_
 have i5:=S.succ y hyn
 have li:r.ir y < H.length:=S.aU (.inr (.inr (.inr ⟨y,hyn,.inl rfl⟩)))
 have ll:r.lr y < H.length:=S.aU (.inr (.inr (.inr ⟨y,hyn,.inr rfl⟩)))
 have k1:=F1.itl
 have k2:H1[r.d]?=some (.dict (ns.map fun x=>(x,V.ref (r.ir x))) nd):=by refine (old1 _ hdl).trans ?_;exact hd
 have k3:H1[r.ir y]?=some (.inst aNI gs):=by refine (old1 _ li).trans ?_;exact i1
 have k4:H1[r.lr y]?=some (.list ((su y).map .int)):=by refine (old1 _ ll).trans ?_;exact i5
 have k5:(H1++[O.liter (r.lr y) 0])[H1.length]?=some (.liter (r.lr y) 0):=by exact List.getElem?_concat_length
 have kA:∀ j,j < H1.length->(H1++[O.liter (r.lr y) 0]++[O.nextof H1.length])[j]?=H1[j]?:=fun j hj=>(GR (by rw [GY];exact Nat.lt_succ_of_lt hj)).trans (GR hj)
 have k6:(H1++[O.liter (r.lr y) 0]++[O.nextof H1.length])[f.b]?=some (.list (its.reverse.map fun p=>V.ref p.1)):=(kA _ (aa k1)).trans k1
 have k7:∀ o1,((H1++[O.liter (r.lr y) 0]++[O.nextof H1.length]).set f.b o1)[f.a]?=some (.list ((st.reverse.map (·.1)).map .int)):=fun o1=>(af (Nat.ne_of_gt od.2.1)).trans ((kA _ (aa F1.stk)).trans F1.stk)
 obtain⟨n3,hdic1⟩:=F1.dic
 have k8:∀ o1,((H1++[O.liter (r.lr y) 0]++[O.nextof H1.length]).set f.b o1)[f.e]?=some (.dict (dK st) n3):=fun o1=>(af (Nat.ne_of_lt (Nat.lt_trans od.2.2.1 od.2.2.2))).trans ((kA _ (aa hdic1)).trans hdic1)
 have k9:∀ o1 o2,(((H1++[O.liter (r.lr y) 0]++[O.nextof H1.length]).set f.b o1).set f.e o2)[f.a]?=some (.list ((st.reverse.map (·.1)).map .int)):=fun o1 o2=>(af (Nat.ne_of_gt (Nat.lt_trans od.2.1 (Nat.lt_trans od.2.2.1 od.2.2.2)))).trans (k7 o1)
 have hg2:dF (ns.map fun x=>(x,V.ref (r.ir x))) y=some (.ref (r.ir y)):=by exact (du ..).trans ((if_pos hyn) ..)
 have li1:its.reverse.length=st.length:=by have:=F.len;simpa using this
 have li2:(dK st).length=st.length:=by unfold dK;simp
 have li3:st.reverse.length=st.length:=by simp
 have hzb:st.length < big:=GV hsl (by decide)
 wp_walk using 6,k4
 refine⟨⟨_,rfl⟩,?_⟩
 wp_walk using 6,k5
 wp_walk using 6,k5
 refine⟨p2,by rw [li1];exact hzb,?_⟩
 wp_walk using 6,k7
 refine⟨by refine rwE li3 ?_;exact G5 hzb,?_⟩
 wp_walk using 6,k8
 refine⟨p4,by rw [li2];exact G5 hzb,fun n'=>?_⟩
 have k9:=k9 (O.list ((its.reverse.map fun p=>V.ref p.1)++[V.ref (H1++[O.liter (r.lr y) 0]).length])) (O.dict (lE (dK st) y (.int st.reverse.length)) n')
 wp_walk using 6,k9
 refine⟨p1,by rw [li3];exact hzb,?_⟩
 wp_walk using 6,aj
 have F2:=F1.push hys (.head _) (GS od.1 (G5 (aa F1.stk))) n'
 have e2:(H1++[O.liter (r.lr y) 0]).length=H1.length+1:=by exact GY ..
 have e3:((st.length:Nat):Int)=((st.reverse.length:Nat):Int):=by simp
 rw [<- e2] at F2
 rw [e3] at F2
 refine h _ _ F2 fun j hj=>?_
 have hja:j < f.a:=GU hj od.1
 have hjb:=Nat.lt_trans hja od.2.1
 refine (af (Nat.ne_of_gt hja)).trans ((af (Nat.ne_of_gt (Nat.lt_trans hjb (Nat.lt_trans od.2.2.1 od.2.2.2)))).trans ((af (Nat.ne_of_gt hjb)).trans ((kA j (Nat.lt_trans hja (aa F1.stk))).trans (old1 j hj))))
theorem rQ {d:Nat} {f:FnR} {st:List (Int × Nat)} {n2:Nat} {y:Int} {τ:Mine.St} {Q:Fl->Mine.St->Prop} {X:V->Mine.St->Prop} (c2:τ.m (Str.ofString "stack")=some (.ref f.a)) (c5:τ.m (Str.ofString "node2stacki")=some (.ref f.e)) (hnode:τ.m (Str.ofString "node")=some (.int y))
  (hstk:τ.H[f.a]?=some (.list ((st.reverse.map (·.1)).map .int))) (hdic:τ.H[f.e]?=some (.dict (dK st) n2)) (hsl:st.length<=900) (hy2:y∈st.map (·.1))
  (h:∀ H' k,(∀ j,j < τ.H.length->H'[j]?=τ.H[j]?)->τ.H.length<=k->k<=H'.length->H'[k]?=some (.list ((jF st y).map .int))->Q (.ret (.ref k)) ⟨H',τ.m⟩):a7 (prog.at d) (jJ (nth (jJ zU) 0)) fH.scope [] τ Q X:=by
 have hb:jJ (nth (jJ zU) 0)=jJ (nth (jJ zU) 0):=rfl
 conv at hb=>rhs;whnf
 rw [hb]
 clear hb
 have hix:=uR hy2
 have hyl:(st.reverse.map (·.1)).idxOf y<=((st.reverse.map (·.1)).map V.int).length:=by
  refine rwE (GX ..) ?_;exact List.idxOf_le_length
 have hstl:((st.reverse.map (·.1)).map V.int).length=st.length:=by simp
 have hi9:(st.reverse.map (·.1)).idxOf y<=900:=GS hyl (GS (Nat.le_of_eq hstl) hsl)
 wp_walk using 6,aj
 refine⟨_,.inl hstk,GS (Nat.le_of_eq hstl) (GS hsl (by decide)),some _,rfl,none,rfl,(fun k hk=>by cases hk;exact⟨npos,nle (GS hyl (GS (Nat.le_of_eq hstl) hsl)) (by decide)⟩),nofun,?_⟩
 refine rwE (jH hyl) ?_
 have l1:(((st.reverse.map (·.1)).map V.int).drop ((st.reverse.map (·.1)).idxOf y)).length<=900:=GS (Nat.le_of_eq List.length_drop) (GS (Nat.sub_le _ _) (GS (Nat.le_of_eq hstl) hsl))
 have hr:((st.reverse.map (·.1)).map V.int).drop ((st.reverse.map (·.1)).idxOf y)++[V.int y]=(jF st y).map .int:=by
  simp only [jF,List.map_append,List.map_drop,List.map_cons,List.map_nil]
 generalize ((st.reverse.map (·.1)).map V.int).drop ((st.reverse.map (·.1)).idxOf y)=us at l1 hr
 have g1:(τ.H++[O.list us]++[O.list [V.int y]])[τ.H.length]?=some (.list us):=(GR (by rw [GY];exact Nat.lt_succ_self _)).trans List.getElem?_concat_length
 have g2:(τ.H++[O.list us]++[O.list [V.int y]])[(τ.H++[O.list us]).length]?=some (.list [V.int y]):=List.getElem?_concat_length
 refine⟨GS l1 (by decide),?_⟩
 wp_walk using 6,g1,g2
 refine⟨by rw [GY];exact GS (Nat.succ_le_succ l1) (by decide),?_⟩
 wp_walk using 6,aj
 have hL:τ.H.length<=(τ.H++[O.list us]++[O.list [V.int y]]).length:=by rw [GY,GY];exact Nat.le_add_right_of_le (Nat.le_succ _)
 refine h _ _ (fun j hj=>?_) hL ?_ (hr ▸ List.getElem?_concat_length)
 .exact (GR (GU hj hL)).trans ((GR (by rw [GY];exact Nat.lt_succ_of_lt hj)).trans (GR hj))
 .rw [GY (as:=τ.H++[O.list us]++[O.list [V.int y]])];exact Nat.le_succ _
set_option maxHeartbeats 1000000 in
theorem find_spec {d:Nat} {H:List O} {r:SR} {ns:List Int} {np:Int->Int} {su:Int->List Int} {rd:Option (List Int)} {n:Nat} {Q X:V->List O->Prop} (S:Srt H r ns np su rd) (hsu:∀ x,∀ y∈su x,y∈ns) (hz:ns.length<=900) (hb:∀ x,(su x).length<=big)
  (hbad:bO su n [] ns≠.bad)
  (h:∀ H' v,(∀ j,j < H.length->H'[j]?=H[j]?)->H.length<=H'.length->(match bO su n [] ns with | .ring l=>∃ k,v=.ref k/\H.length<=k/\H'[k]?=some (.list (l.map .int)) | _=>v=.none)->Q v H'):prog.bP (d+1) 132 [.ref r.s] H Q X:=by
 rw [bx AG]
 have hb0:fH.body=fH.body:=rfl
 conv at hb0=>rhs;whnf
 rw [cO hb0 (ps:=[Str.ofString "self"]) rfl rfl rfl rfl]
 clear hb0
 refine d8 (S.inst) fun fs h1 h2 h3=>?_
 obtain⟨nd,hd⟩:=S.dict
 have hs:=S.aU (j:=r.s) (.inl rfl)
 have hdl:=S.aU (j:=r.d) (.inr (.inl rfl))
 wp_walk using 6,h1,h2
 have hH0:∀ j,j < H.length->(H++[O.list []]++[O.list []]++[O.set []]++[O.dict [] 0])[j]?=H[j]?:=fun j hj=>by
  exact rwE (List.append_assoc ..) (rwE (List.append_assoc ..) (rwE (List.append_assoc ..) (rwE ((GR hj) ..) rfl)))
 have e1:(H++[O.list []]++[O.list []]++[O.set []]++[O.dict [] 0])[r.d]?=some (.dict (ns.map fun x=>(x,V.ref (r.ir x))) nd):=by refine (hH0 _ hdl).trans ?_;exact hd
 wp_walk using 6,e1
 have hlen:(H++[O.list []]++[O.list []]++[O.set []]++[O.dict [] 0]).length=H.length+4:=by simp
 generalize hHe:H++[O.list []]++[O.list []]++[O.set []]++[O.dict [] 0]=Hs at hH0 e1 hlen
 obtain⟨f,f1,f2,f3,f4,F0⟩:∃ f:FnR,f.a=H.length/\f.b=H.length+1/\f.c=H.length+2/\f.e=H.length+3/\Fnd H.length r Hs f [] [] []:=by
  refine AR ⟨H.length,H.length+1,H.length+2,H.length+3⟩ rfl rfl rfl rfl ?_
  subst hHe
  refine⟨⟨Nat.le_refl _,by simp,by simp,by simp⟩,?_,?_,?_,⟨0,?_⟩,rfl,fun j x k o i hh=>by exact nS hh,fun p hp=>by simp at hp,by simp,by simp,fun p hp=>by simp at hp⟩
  all_goals simp [List.append_assoc,List.getElem?_append_right,dK]
 have hq:∀ {a b:Nat},a=b->some (V.ref a)=some (V.ref b):=fun h=>h ▸ rfl
 refine br (fun i σ=>∃ seen,bO su n seen (ns.drop i)=bO su n [] ns/\Fnd H.length r σ.H f [] seen []/\(∀ j,j < H.length->σ.H[j]?=H[j]?)/\ue σ.m r f/\seen.Nodup/\(∀ y∈seen,y∈ns))
  ⟨[],rfl,F0,hH0,⟨rfl,hq f1.symm,hq (by refine rwE f2 ?_;exact GY ..),hq (by refine rwE f3 ?_;simp),hq (by refine rwE f4 ?_;simp)⟩,List.nodup_nil,fun y hy=>by simp at hy⟩ ?_ ?_
 ·(intro i it σ R hi ζ4;refine bW ζ4 fun seen hg F old ζ5=>?_;clear ζ4;refine aJ ζ5 fun fr sn ss=>?_;clear ζ5;intro hR)
  obtain⟨x,hx,rfl⟩:∃ x,ns[i]?=some x/\it=.one (.int x):=by
   simp only [G3,Option.map_eq_some_iff] at hi
   (refine ao hi fun _ ζ1 ζ2=>?_;clear hi;obtain⟨x,h1,rfl⟩:=ζ1;obtain rfl:=ζ2)
   exact aW x h1 rfl
  have hxn:x∈ns:=G0 hx
  have hdi:σ.H[r.d]?=some (.dict (ns.map fun x=>(x,V.ref (r.ir x))) nd):=by refine (old _ hdl).trans ?_;exact hd
  refine⟨aq e1 rfl hdi,?_⟩
  have c1:=fr.n2i
  have c2:=fr.stk
  have c3:=fr.its
  have c4:=fr.seen
  have c5:=fr.n2s
  have hset:=F.set
  have hdrop:ns.drop i=x::ns.drop (i+1):=by
   refine (List.drop_eq_getElem_cons (aa hx)).trans ?_
   rw [G6 (aa hx)] at hx
   exact rwE (Option.some.inj hx) rfl
  rw [hdrop] at hg
  wp_walk using 6,hset
  refine⟨fun hin=>?_,fun hin=>?_⟩
  .wp_walk using 6,aj
   refine hR _ ⟨seen,?_,F,old,fr.put _,sn,ss⟩
   rw [bO,if_pos hin] at hg;exact hg
  .rw [bO,if_neg hin] at hg
   have hnb:bN su n seen [] x≠.bad:=by
    intro e;rw [e] at hg;exact hbad hg.symm
   wp_walk using 6,aj
   refine dZ (fun m τ=>∃ seen1 st its y,bN su m seen1 st y=bN su n seen [] x/\Fnd H.length r τ.H f st seen1 its/\(∀ j,j < H.length->τ.H[j]?=H[j]?)/\ue τ.m r f/\τ.m (Str.ofString "node")=some (.int y)/\y∈ns/\(∀ p∈st,p.1∈ns)/\seen1.Nodup/\(∀ y∈seen1,y∈ns))
    ⟨seen,[],[],x,rfl,F,old,fr.put _,rfl,hxn,fun p hp=>by simp at hp,sn,ss⟩ ?_
   clear hset c1 c2 c3 c4 c5
   (intro m τ ζ6;refine gP ζ6 fun seen1 st its y ζ7=>?_;clear ζ6;refine lg ζ7 fun hw F old fr hnode hyn ζ8=>?_;clear ζ7;refine aJ ζ8 fun hst sn ss=>?_;clear ζ8)
   have c1:=fr.n2i
   have c2:=fr.stk
   have c3:=fr.its
   have c4:=fr.seen
   have c5:=fr.n2s
   have hset:=F.set
   obtain⟨n2,hdic⟩:=F.dic
   have hstk:=F.stk
   have hitl:=F.itl
   have od:=F.ord
   have hsl:st.length<=ns.length:=by
    have:=aQ F.nd (m:=ns) (fun x hx=>by (refine ao (List.mem_map.mp hx) fun p hp ζ3=>?_;obtain rfl:=ζ3);exact hst p hp)
    simpa using this
   have hse:seen1.length<=ns.length:=aQ sn ss
   have hstl:((st.reverse.map (·.1)).map V.int).length=st.length:=by simp
   obtain⟨m,rfl⟩:∃ m',m=m'+1:=by
    induction m using Nat.casesOn with
    | zero=>rw [bN] at hw;exact absurd hw.symm hnb
    | succ m=>exact⟨m,rfl⟩
   rw [bN] at hw
   wp_walk using 6,hset
   refine⟨fun hy1=>?_,fun hy1=>?_⟩
   .wp_walk using 6,hdic
    refine⟨fun hy2=>?_,fun hy2=>?_⟩
    .rw [j8,decide_eq_true_eq] at hy2
     rw [if_pos hy1,if_pos hy2] at hw
     rw [<- hw] at hg
     simp only at hg
     rw [<- hg] at h
     have hle:H.length<=τ.H.length:=GS od.1 (G5 (aa hstk))
     refine rQ c2 c5 hnode hstk hdic (GS hsl hz) hy2 fun H' k k1 l1 l2 g1=>?_
     wp_walk using 6,aj
     exact h _ _ (fun j hj=>(k1 j (GU hj hle)).trans (old j hj)) (GS hle (GS l1 l2)) ⟨k,rfl,GS hle l1,g1⟩
    .rw [j8,decide_eq_true_eq] at hy2
     rw [if_pos hy1,if_neg hy2] at hw
     wp_walk using 6,aj
     refine o6 S hb F old fr hst (GV (GS hsl hz) (by decide)) ?_
     induction hn:nextOf su st with
     | none =>
      rw [hn] at hw
      intro τ' F' old' fr'
      refine hR _ ⟨seen1,?_,F',old',fr',sn,ss⟩
      rw [<- hw] at hg;exact hg
     | some p =>
      obtain⟨y',st'⟩:=p
      rw [hn] at hw
      intro τ' its' F' old' fr' hnode'
      obtain⟨q1,q2⟩:=fD hsu hst hn
      exact⟨m,Nat.lt_succ_self _,seen1,st',its',y',hw,F',old',fr',hnode',q1,q2,sn,ss⟩
   .rw [if_neg hy1] at hw
    have hst2:∀ p∈(y,0)::st,p.1∈ns:=fun p hp=>by
     rcases List.mem_cons.mp hp with rfl | hp
     .exact hyn
     .exact hst p hp
    have sn2:(y::seen1).Nodup:=List.nodup_cons.mpr ⟨hy1,sn⟩
    have ss2:∀ z∈y::seen1,z∈ns:=fun z hz=>by
     rcases List.mem_cons.mp hz with rfl | hz
     .exact hyn
     .exact ss z hz
    refine rP S F old fr hnode hyn hy1 (GS hsl hz) (GS hse hz) fun H' its2 F2 old2=>?_
    wp_walk using 6,aj
    refine o6 S hb F2 old2 fr hst2 (GV (Nat.succ_le_succ (GS hsl hz)) (by decide)) ?_
    induction hn:nextOf su ((y,0)::st) with
    | none =>
     rw [hn] at hw
     intro τ' F' old' fr'
     refine hR _ ⟨y::seen1,?_,F',old',fr',sn2,ss2⟩
     rw [<- hw] at hg;exact hg
    | some p =>
     obtain⟨y',st'⟩:=p
     rw [hn] at hw
     intro τ' its' F' old' fr' hnode'
     obtain⟨q1,q2⟩:=fD hsu hst2 hn
     exact⟨m,Nat.lt_succ_self _,y::seen1,st',its',y',hw,F',old',fr',hnode',q1,q2,sn2,ss2⟩
 ·(intro σ ζ9;refine bW ζ9 fun seen hg F old Ft=>?_;clear ζ9;refine aJ Ft fun fr sn ss=>?_;clear Ft)
  have hdi:σ.H[r.d]?=some (.dict (ns.map fun x=>(x,V.ref (r.ir x))) nd):=by refine (old _ hdl).trans ?_;exact hd
  refine⟨aq e1 rfl hdi,?_⟩
  wp_walk using 6,true_and
  have hset:=F.set
  refine h _ _ old ?_ ?_
  .exact GS (GS (Nat.le_add_right _ 2) (Nat.le_of_eq f3.symm)) (G5 (aa hset))
  .simp only [GX,List.drop_length,bO] at hg
   exact rwS hg rfl
theorem cW {H:List O} {o o1:O}:(H++[o]).set H.length o1=H++[o1]:=by simp
theorem ak {H:List O} {o:O}:(H++[o])[H.length]?=some o:=by exact List.getElem?_concat_length
theorem mi {d:Nat} {H:List O} {r:SR} {ns:List Int} {np:Int->Int} {su:Int->List Int} {n:Nat} {Q X:V->List O->Prop} (S:Srt H r ns np su none) (hsu:∀ x,∀ y∈su x,y∈ns) (hz:ns.length<=900) (hb:∀ x,(su x).length<=big)
  (hbad:bO su n [] ns≠.bad)
  (h:∀ H' r',Srt H' r' ns np su (some (ns.filter fun x=>np x=0))->Apart H r ns H' r' ns->match bO su n [] ns with
   | .ring l=>l≠[]->∀ e vs,H'[e]?=some (.exc (.glob aCE) vs)->H.length<=e->X (.ref e) H'
   | _=>Q .none H') (hring:∀ l,bO su n [] ns=.ring l->l≠[]):prog.bP (d+2) 97 [.ref r.s] H Q X:=by
 refine rwE (bx CN) ?_
 have hb0:mP.body=mP.body:=rfl
 conv at hb0=>rhs;whnf
 rw [cO hb0 (ps:=[Str.ofString "self"]) rfl rfl rfl rfl]
 clear hb0
 (refine bW (S.inst) fun fs h1 h2 h3 ζ1=>?_;obtain⟨ζ2,ζ3⟩:=ζ1;obtain⟨k4,h4⟩:=ζ2;obtain⟨k5,h5⟩:=ζ3)
 have h3:fs (Str.ofString "_ready_nodes")=some V.none:=h3
 obtain⟨nd,hd⟩:=S.dict
 have hs:=S.aU (j:=r.s) (.inl rfl)
 have hdl:=S.aU (j:=r.d) (.inr (.inl rfl))
 have e1:(H++[O.dvals r.d])[H.length]?=some (.dvals r.d):=ak
 have e2:(H++[O.dvals r.d])[r.d]?=some (.dict (ns.map fun x=>(x,V.ref (r.ir x))) nd):=by refine (GR hdl).trans ?_;exact hd
 wp_walk using 6,e1,e2
 generalize hsc:az mP.scope _=sc
 generalize hro:freeNames _=ro
 have l1:sc.names.lookup (Str.ofString "i")=some .local:=by refine rwS hsc ?_;kernel_rfl
 have l2:ro=[]:=by refine hro.symm.trans ?_;kernel_rfl
 subst l2
 refine aO (fun i σ=>σ.H=H++[O.dvals r.d]++[O.list (((ns.take i).filter fun x=>np x=0).map V.int)]) rfl ?_ ?_
 .rintro i it σ R hi hH hR
  obtain⟨x,hx,rfl⟩:∃ x,ns[i]?=some x/\it=.one (.ref (r.ir x)):=by
   simp only [G3,Option.map_eq_some_iff] at hi
   (refine ao hi fun _ ζ4 ζ5=>?_;clear hi;obtain⟨x,h1,rfl⟩:=ζ4;obtain rfl:=ζ5)
   exact aW x h1 rfl
  have hxn:x∈ns:=G0 hx
  refine bW (S.info x hxn) fun gs i1 i2 i3 i4=>?_
  have li:r.ir x < H.length:=aa i1
  have g1:σ.H[r.ir x]?=some (.inst aNI gs):=by refine rwE hH (rwE (GR (by simp;exact Nat.lt_succ_of_lt (by assumption))) (rwE (GR li) ?_));exact i1
  refine⟨?_,?_⟩
  .intro j hj
   have:j=H.length\/j=r.d:=by
    have hj:j∈_::(_[_]?.bind pY).toList:=hj
    rw [e1] at hj
    exact (List.mem_cons.mp hj).imp id List.mem_singleton.mp
   refine rwE hH ?_
   rcases this with rfl | rfl
   .exact GR (by exact PyProof.Rows.place_lt e1)
   .exact GR (by simp;exact Nat.lt_succ_of_lt (by assumption))
  .wp_walk using 6,l1,g1,i2,i3
   have g2:σ.H[(H++[O.dvals r.d]).length]?=some (.list (((ns.take i).filter fun x=>np x=0).map V.int)):=by refine rwE hH ?_;exact ak
   refine⟨fun h0=>?_,fun h0=>?_⟩
   .wp_walk using 6,g2
    refine⟨?_,?_⟩
    .have h1:=List.length_filter_le (fun x=>decide (np x=0)) (ns.take i)
     have h2:=List.length_take_le i ns
     have h3:(ns.take i).length<=ns.length:=by refine rwE List.length_take ?_;exact Nat.min_le_right i (List.length ns)
     exact GV (GS h1 (GS h3 hz)) (by decide)
    .wp_walk using 6,aj
     refine hR _ ?_
     refine (?_:σ.H.set _ _=_)
     refine rwE (hH ..) (rwE (cW ..) (rwE ((take_snoc hx) ..) (rwE (List.filter_append ..) ?_)))
     simp [h0]
   .wp_walk using 6,aj
    refine hR _ ?_
    refine (?_:σ.H=_)
    refine rwE (hH ..) (rwE ((take_snoc hx) ..) (rwE (List.filter_append ..) ?_))
    simp [h0]
 .rintro σ hH
  simp only [GX,List.take_length] at hH
  refine⟨?_,?_⟩
  .intro j hj
   have:j=H.length\/j=r.d:=by
    have hj:j∈_::(_[_]?.bind pY).toList:=hj
    rw [e1] at hj
    exact (List.mem_cons.mp hj).imp id List.mem_singleton.mp
   refine rwE hH ?_
   rcases this with rfl | rfl
   .exact GR (by exact PyProof.Rows.place_lt e1)
   .exact GR (by simp;exact Nat.le.step hdl)
  .have g1:σ.H[r.s]?=some (.inst aTS fs):=by refine rwE hH (rwE (GR (by simp;exact Nat.le.step hs)) (rwE (GR hs) ?_));exact h1
   have g2:(σ.H.set r.s (O.inst aTS fun x=>if x=Str.ofString "_ready_nodes" then some (V.ref (H++[O.dvals r.d]).length) else fs x))[r.s]?=some (O.inst aTS fun x=>if x=Str.ofString "_ready_nodes" then some (V.ref (H++[O.dvals r.d]).length) else fs x):=au (aa g1)
   have p0:=S.pos.1
   wp_walk using 6,aj
   -- the sorter,prepared
   have hq:(H++[O.dvals r.d]).length=H.length+1:=by exact GY ..
   have S1:Srt σ.H r ns np su none:=S.congr fun j hj=>by
    have:=S.aU hj
    exact rwE hH (rwE (GR (by simp;exact Nat.lt_succ_of_lt (by assumption))) (rwE (GR this) rfl))
   have S2:Srt (σ.H.set r.s (O.inst aTS fun x=>if x=Str.ofString "_ready_nodes" then some (V.ref (H++[O.dvals r.d]).length) else fs x)) { r with q:=H.length+1 } ns np su (some (ns.filter fun x=>np x=0)):=by
    have hsne:r.s≠H.length+1:=by exact Nat.ne_of_lt (Nat.lt_succ_of_lt hs)
    refine⟨⟨S.pos.1,S.pos.2.1,by refine (?_:0 < H.length+1);exact Nat.succ_pos _,S.pos.2.2.2⟩,S.nd,⟨_,g2,by trivial,by simp [rdV],⟨k4,by trivial⟩,⟨k5,by trivial⟩⟩,?_,?_,?_,⟨?_,?_⟩,S.inj,S.out⟩
    .exact⟨nd,by refine (af (Ne.symm S.rC)).trans ?_;obtain⟨n',hh⟩:=S1.dict;refine rwE hH (rwE (GR (by simp;exact Nat.lt_succ_of_lt (by assumption))) (rwE (GR hdl) ?_));exact hd⟩
    .intro x hx
     obtain⟨gs,hh⟩:=S1.info x hx
     exact aW gs (by refine (af (Ne.symm (S.nz hx))).trans ?_;exact hh.1) hh.2
    .intro x hx
     refine (af (Ne.symm (S.nD hx))).trans ?_;exact S1.succ x hx
    .refine (?_:(List.set _ _ _)[H.length+1]?=_)
     refine rwE (af hsne) (rwE hH (rwE (List.getElem?_append_right (by exact Nat.le_of_eq hq)) ?_))
     simp
    .intro x hx
     have:=S.aU (j:=r.lr x) (.inr (.inr (.inr ⟨x,hx,.inr rfl⟩)))
     refine (?_:r.lr x≠H.length+1)
     exact Nat.ne_of_lt (Nat.lt_succ_of_lt this)
   have A2:Apart H r ns (σ.H.set r.s (O.inst aTS fun x=>if x=Str.ofString "_ready_nodes" then some (V.ref (H++[O.dvals r.d]).length) else fs x)) { r with q:=H.length+1 } ns:=by
    refine⟨by refine rwE List.length_set (rwE hH ?_);simp,fun j hj ho=>?_,fun j hj=>?_,rfl⟩
    .have:r.s≠j:=fun e=>ho (by subst e;exact .inl rfl)
     exact rwE (af this) (rwE hH (rwE (GR (by simp;exact Nat.lt_succ_of_lt (by assumption))) (rwE (GR hj) rfl)))
    .rcases hj with h | h | h | h
     .exact .inl (.inl h)
     .exact .inl (.inr (.inl h))
     .right;have h:j=H.length+1:=h;simp_all
     .exact .inl (.inr (.inr (.inr h)))
   have hl:=A2.len
   refine find_spec (r:={ r with q:=H.length+1 }) (n:=n) S2 hsu hz hb hbad fun H3 v old hlen hv=>?_
   have S3:Srt H3 { r with q:=H.length+1 } ns np su (some (ns.filter fun x=>np x=0)):=S2.congr fun j hj=>old j (S2.aU hj)
   have A3:Apart H r ns H3 { r with q:=H.length+1 } ns:=⟨by exact GS (by assumption) (by assumption),fun j hj ho=>by refine (old j (by exact GU (by assumption) (by assumption))).trans ?_;exact A2.keep j hj ho,A2.own,rfl⟩
   induction hg:bO su n [] ns with
   | bad=>exact absurd hg hbad
   | ring l =>
    rw [hg] at hv
    (refine ao hv fun k ζ6 ζ7=>?_;clear hv;obtain rfl:=ζ6;obtain⟨hk,hkl⟩:=ζ7)
    have hne:=hring l hg
    have ht:(!(l.map V.int).isEmpty)=true:=by
     induction l using List.casesOn with
     | nil=>exact absurd rfl hne
     | cons=>rfl
    wp_walk using 6,aj
    intro s hs
    wp_walk using 6,aj
    have hh:=h (H3++[O.exc (V.glob aCE) [V.str s,V.ref k]]) _ (S3.app _) ⟨by refine rwE GY ?_;exact GS (GS hl hlen) (Nat.le_add_right _ _),fun j hj ho=>by refine (GR (GU hj (GS hl hlen))).trans ?_;exact A3.keep j hj ho,A3.own,rfl⟩
    replace hh:=((hg) ▸ hh)
    exact hh hne _ _ ak (by exact GS (by assumption) (by assumption))
   | fin sn =>
    rw [hg] at hv
    have hv:v=.none:=hv
    subst hv
    wp_walk using 6,aj
    have hh:=h H3 _ S3 A3
    rw [hg] at hh
    exact hh
theorem cC:∀ l:List Int,PyData.canLayAll0 (l.map .int)=true
 | []=>rfl
 | x::l=>by rw [List.map_cons,PyData.canLayAll0,cC l];rfl
theorem cU:∀ l:List Int,PyData.depthAll (l.map .int)=0
 | []=>rfl
 | x::l=>by rw [List.map_cons,PyData.depthAll,cU l];rfl
theorem shaped_ints (l:List Int):SeqAt.shaped (.list (l.map .int))=true:=by
 unfold SeqAt.shaped
 rw [PyData.canLay0,cC,PyData.depth,cU];rfl
theorem eX (H:List O):∀ l:List Int,Rds H (l.map .int) (l.map V.int)
 | []=>rfl
 | x::l=>⟨.int x,l.map .int,rfl,rfl,eX H l⟩
theorem any_ints (l:List Int) (c:Int):(l.map PyData.int).any (fun y=>PyData.eqv y (.int c))=decide (c∈l):=by
 induction l with
 | nil=>rfl
 | cons x l ih =>
  refine rwE List.map_cons (rwE List.any_cons (rwE ih (rwE j6 ?_)))
  by_cases h:x=c
  .simp [h]
  .have:c≠x:=fun e=>h e.symm
   simp [h,this]
theorem r9 (H:List O) (l:List Int) (c:Int):∃ d,Rd H d (.int c)/\∃ ds,Rds H ds (l.map V.int)/\SeqAt.shaped d=true/\SeqAt.shaped (.list ds)=true/\decide (c∈l)=ds.any (fun y=>PyData.eqv y d):=
 ⟨.int c,rfl,l.map .int,eX H l,rfl,shaped_ints l,(any_ints l c).symm⟩
noncomputable abbrev eY (rows:List (List Int)) (c:Int):Prop:=∀ s∈rows,c∉s.tail
noncomputable def pick (rows:List (List Int)):List (List Int)->Option Int
 | []=>none
 | s::r=>match s with
  | []=>pick rows r
  | c::_=>if eY rows c then some c else pick rows r
inductive C3R where
 | bad
 | ok (acc:List Int) (R:Nat->List Int)
 | fail (R:Nat->List Int)
noncomputable def live (ks:List Nat) (R:Nat->List Int):List Nat:=ks.filter fun k=>R k≠[]
noncomputable def strip (ks:List Nat) (R:Nat->List Int) (c:Int):Nat->List Int:=fun k=>if k∈ks/\(R k).head?=some c then (R k).tail else R k
noncomputable def rj:Nat->List Nat->(Nat->List Int)->List Int->C3R
 | 0,_,_,_=>.bad
 | n+1,ks,R,acc =>
  if live ks R=[] then .ok acc R
  else match pick ((live ks R).map R) ((live ks R).map R) with
   | none=>.fail R
   | some c=>rj n (live ks R) (strip (live ks R) R c) (acc++[c])
noncomputable def a6:List Stmt:=bodyOf (nth oK.body 1)
noncomputable def jj:Stmt:=nth a6 2
theorem ib {ks:List Nat} {i:Nat} {x:Item} (h:((ks.map V.ref).map Item.one)[i]?=some x):∃ k,ks[i]?=some k/\x=.one (.ref k):=by
 simp only [G3,Option.map_eq_some_iff] at h
 refine ao h fun _ ζ1 ζ2=>?_
 obtain⟨p,h1,rfl⟩:=ζ1
 obtain rfl:=ζ2
 exact aW p h1 rfl
structure C3H (H:List O) (q:Nat) (kl:List Nat) (R:Nat->List Int):Prop where
 q:H[q]?=some (.list (kl.map .ref))
 k:∀ k∈kl,H[k]?=some (.list ((R k).map .int))
 ne:∀ k∈kl,R k≠[]
 le:∀ k,(R k).length<=1000
theorem C3H.keep {H H':List O} {q:Nat} {kl:List Nat} {R:Nat->List Int} (S:C3H H q kl R) (k:∀ j,j < H.length->H'[j]?=H[j]?):C3H H' q kl R:=
 ⟨(k _ (aa S.q)).trans S.q,fun x hx=>(k _ (aa (S.k x hx))).trans (S.k x hx),S.ne,S.le⟩
theorem C3H.cons {H:List O} {q:Nat} {kl:List Nat} {R:Nat->List Int} (S:C3H H q kl R) {k:Nat} (hk:k∈kl):∃ c tl,R k=c::tl:=by
 induction hh:R k using List.casesOn with
 | nil=>exact absurd hh (S.ne k hk)
 | cons a b=>exact zS a b rfl
theorem uA {υ:Mine.St} {q rr:Nat} {kl:List Nat} {R:Nat->List Int} {c:Int} {Q:Fl->Mine.St->Prop} {X:V->Mine.St->Prop} (S:C3H υ.H q kl R) (m1:υ.m (Str.ofString "sequences")=some (.ref q)) (m2:υ.m (Str.ofString "result")=some (.ref rr)) (m3:υ.m (Str.ofString "candidate")=some (.int c))
  (h:∀ H' m',(∀ j,j < υ.H.length->H'[j]?=υ.H[j]?)->υ.H.length<=H'.length->m' (Str.ofString "sequences")=some (.ref q)->m' (Str.ofString "result")=some (.ref rr) ->
   (eY (kl.map R) c->m' (Str.ofString "candidate")=some (.int c)->Q .brk ⟨H',m'⟩)/\(¬ eY (kl.map R) c->m' (Str.ofString "candidate")=some .none->Q .next ⟨H',m'⟩)) :
  awS (prog.at 9) (nth (bodyOf jj) 1) oK.scope [] υ Q X:=by
 have hb:nth (bodyOf jj) 1=nth (bodyOf jj) 1:=rfl
 conv at hb=>rhs;whnf
 rw [hb]
 clear hb
 have hq:=S.q
 wp_walk using 6,hq
 refine br (fun j φ=>(∀ j,j < υ.H.length->φ.H[j]?=υ.H[j]?)/\υ.H.length<=φ.H.length/\φ.m (Str.ofString "sequences")=some (.ref q)/\φ.m (Str.ofString "result")=some (.ref rr)/\φ.m (Str.ofString "candidate")=some (.int c)/\∀ k2∈kl.take j,c∉(R k2).tail)
  ⟨fun _ _=>rfl,Nat.le_refl _,m1,m2,m3,fun k2 h2=>by simp at h2⟩ ?_ ?_
 ·(intro j jt φ T2 hj Fz;refine nk Fz fun w1 w2 w3 w4 w5 w6=>?_;clear Fz;intro hT2)
  obtain⟨k2,hk2,rfl⟩:=ib hj
  have hkm2:k2∈kl:=G0 hk2
  have S2:=S.keep w1
  have hg2:=S2.k k2 hkm2
  refine⟨aq hq rfl S2.q,?_⟩
  have hlen2:1<=((R k2).map V.int).length:=by
   obtain⟨a,b,hh⟩:=S.cons hkm2
   rw [hh];exact Nat.succ_pos _
  have hsl:sliceOf ((R k2).map V.int) (some 1) none=(R k2).tail.map V.int:=
   (jH (xs:=(R k2).map V.int) (k:=1) hlen2).trans (List.drop_one.trans List.map_tail.symm)
  have hg3:(φ.H++[O.list ((R k2).tail.map V.int)])[φ.H.length]?=some (.list ((R k2).tail.map V.int)):=ak
  have hr2:=S.le k2
  have kA:∀ j,j < υ.H.length->(φ.H++[O.list ((R k2).tail.map V.int)])[j]?=υ.H[j]?:=fun j hj=>(GR (GU hj w2)).trans (w1 j hj)
  have lA:υ.H.length<=(φ.H++[O.list ((R k2).tail.map V.int)]).length:=by rw [GY];exact Nat.le.step w2
  wp_walk using 6,aj
  refine⟨_,.inl hg2,by refine rwE (GX ..) ?_;exact GS hr2 (by decide),some 1,rfl,none,rfl,(fun k hk=>by cases hk;decide),nofun,?_⟩
  refine rwE hsl ?_
  refine⟨by refine rwE (GX ..) (rwE (List.length_tail ..) ?_);exact GS (Nat.sub_le _ _) (GS hr2 (by decide)),?_⟩
  wp_walk using 6,hg3
  refine aW (decide (c∈(R k2).tail)) (r9 _ _ _) ?_
  wp_walk using 6,aj
  refine⟨fun hin=>?_,fun hin=>?_⟩
  .wp_walk using 6,aj
   refine (h _ _ kA lA ?_ ?_).2 (fun ha=>ha _ (List.mem_map_of_mem hkm2) hin) ?_
   .exact w3
   .exact w4
   .exact rfl
  .wp_walk using 6,aj
   refine hT2 _ ⟨kA,lA,w3,w4,w5,fun k3 h3=>?_⟩
   rw [take_snoc hk2] at h3
   rcases List.mem_append.mp h3 with h3 | h3
   .exact w6 k3 h3
   .obtain rfl:=List.mem_singleton.mp h3;exact hin
 ·(intro φ FD;refine nk FD fun w1 w2 w3 w4 w5 w6=>?_;clear FD)
  refine⟨aq hq rfl ((w1 _ (aa hq)).trans hq),?_⟩
  rw [GX,GX,List.take_length] at w6
  wp_walk using 6,aj
  exact (h _ _ w1 w2 w3 w4).1 (fun s hs=>by
   refine ao (List.mem_map.mp hs) fun k2 hk2 ζ7=>?_
   obtain rfl:=ζ7
   exact w6 k2 hk2) w5
theorem xP {τ:Mine.St} {q rr:Nat} {kl:List Nat} {R:Nat->List Int} {Q:Fl->Mine.St->Prop} {X:V->Mine.St->Prop} (S:C3H τ.H q kl R) (hkl:kl≠[]) (m1:τ.m (Str.ofString "sequences")=some (.ref q)) (m2:τ.m (Str.ofString "result")=some (.ref rr))
  (h:∀ H' m',(∀ j,j < τ.H.length->H'[j]?=τ.H[j]?)->τ.H.length<=H'.length->m' (Str.ofString "sequences")=some (.ref q)->m' (Str.ofString "result")=some (.ref rr) ->
   m' (Str.ofString "candidate")=some ((pick (kl.map R) (kl.map R)).elim .none .int)->Q .next ⟨H',m'⟩) :
  awS (prog.at 9) jj oK.scope [] τ Q X:=by
 have e:∃ p1 p2 p3,jj=.For (.Name (Str.ofString "s1") p1) (.Name (Str.ofString "sequences") p2) [nth (bodyOf jj) 0,nth (bodyOf jj) 1] [] p3:=⟨_,_,_,rfl⟩
 obtain⟨p1,p2,p3,e⟩:=e
 rw [e]
 have hq:=S.q
 wp_walk using 6,hq
 refine br (fun i υ=>(∀ j,j < τ.H.length->υ.H[j]?=τ.H[j]?)/\τ.H.length<=υ.H.length/\υ.m (Str.ofString "sequences")=some (.ref q)/\υ.m (Str.ofString "result")=some (.ref rr)/\(0 < i->υ.m (Str.ofString "candidate")=some .none)/\pick (kl.map R) (kl.map R)=pick (kl.map R) ((kl.drop i).map R))
  ⟨fun _ _=>rfl,Nat.le_refl _,m1,m2,fun h=>absurd h (Nat.lt_irrefl _),rfl⟩ ?_ ?_
 ·(intro i it υ T hi Fy;refine nk Fy fun u1 u2 u3 u4 u5 u6=>?_;clear Fy;intro hT)
  obtain⟨k,hk1,rfl⟩:=ib hi
  have hkm:k∈kl:=G0 hk1
  have S2:=S.keep u1
  have hg:=S2.k k hkm
  refine⟨aq hq rfl S2.q,?_⟩
  obtain⟨c,tl,hc⟩:=S.cons hkm
  have hpl:place ((R k).map V.int).length 0=some 0:=by unfold place;refine rwE hc ?_;simp
  have hg0:((R k).map V.int)[0]?=some (V.int c):=by refine rwE hc ?_;rfl
  have h0:nth (bodyOf jj) 0=nth (bodyOf jj) 0:=rfl
  conv at h0=>rhs;whnf
  rw [h0]
  clear h0
  wp_walk using 6,aj
  have hdrop:kl.drop i=k::kl.drop (i+1):=by
   refine (List.drop_eq_getElem_cons (aa hk1)).trans ?_
   rw [G6 (aa hk1)] at hk1
   exact rwE (Option.some.inj hk1) rfl
  have hpk:pick (kl.map R) (R k::(kl.drop (i+1)).map R)=if eY (kl.map R) c then some c else pick (kl.map R) ((kl.drop (i+1)).map R):=by refine rwE hc ?_;rfl
  rw [hdrop,List.map_cons,hpk] at u6
  refine uA (rr:=rr) (c:=c) S2 u3 u4 rfl fun H' m' k1 l1 n1 n2=>⟨fun ha n3=>?_,fun ha n3=>?_⟩
  .wp_walk using 6,aj
   refine h _ _ (fun j hj=>(k1 j (GU hj u2)).trans (u1 j hj)) (GS u2 l1) n1 n2 ?_
   rw [u6,if_pos ha];exact n3
  .wp_walk using 6,aj
   exact hT _ ⟨fun j hj=>(k1 j (GU hj u2)).trans (u1 j hj),GS u2 l1,n1,n2,fun _=>n3,u6.trans (if_neg ha)⟩
 ·(intro υ FN;refine nk FN fun u1 u2 u3 u4 u5 u6=>?_;clear FN)
  refine⟨aq hq rfl (S.keep u1).q,?_⟩
  rw [GX,GX] at u5 u6
  rw [List.drop_length] at u6
  wp_walk using 6,aj
  refine h _ _ u1 u2 u3 u4 ?_
  rw [u6]
  exact u5 (List.length_pos_iff.mpr hkl)
theorem Ai {σ:Mine.St} {q rr:Nat} {kl:List Nat} {R:Nat->List Int} {c:Int} {Q:Fl->Mine.St->Prop} {X:V->Mine.St->Prop} (S:C3H σ.H q kl R) (hn:kl.Nodup) (hq0:q∉kl) (h0:∀ k∈kl,0 < k) (m1:σ.m (Str.ofString "sequences")=some (.ref q)) (m2:σ.m (Str.ofString "result")=some (.ref rr)) (m3:σ.m (Str.ofString "candidate")=some (.int c))
  (h:∀ H' m',(∀ j,j∉kl->H'[j]?=σ.H[j]?)->H'.length=σ.H.length->(∀ k∈kl,H'[k]?=some (.list ((strip kl R c k).map .int)))->m' (Str.ofString "sequences")=some (.ref q)->m' (Str.ofString "result")=some (.ref rr)->Q .next ⟨H',m'⟩) :
  awS (prog.at 9) (nth a6 5) oK.scope [] σ Q X:=by
 have hb:nth a6 5=nth a6 5:=rfl
 conv at hb=>rhs;whnf
 rw [hb]
 clear hb
 have hq:=S.q
 wp_walk using 6,hq
 refine br (fun j ψ=>(∀ k∈kl,ψ.H[k]?=some (.list ((if k∈kl.take j/\(R k).head?=some c then (R k).tail else R k).map .int)))/\(∀ j,j∉kl->ψ.H[j]?=σ.H[j]?)/\ψ.H.length=σ.H.length/\ψ.m (Str.ofString "sequences")=some (.ref q)/\ψ.m (Str.ofString "result")=some (.ref rr)/\ψ.m (Str.ofString "candidate")=some (.int c))
  ⟨fun k hk=>by rw [if_neg (fun h=>List.not_mem_nil h.1)];exact S.k k hk,fun _ _=>rfl,rfl,m1,m2,m3⟩ ?_ ?_
 ·(intro j jt ψ T2 hj FE;refine nk FE fun y1 y2 y3 y4 y5 y6=>?_;clear FE;intro hT2)
  obtain⟨k2,hk2,rfl⟩:=ib hj
  have hkm2:k2∈kl:=G0 hk2
  refine⟨aq hq rfl ((y2 q hq0).trans hq),?_⟩
  have hnt:k2∉kl.take j:=by
   intro hm
   refine pZ (List.getElem_of_mem hm) fun i' hi' e=>?_
   rw [List.length_take] at hi'
   rw [List.getElem_take] at e
   have hj2:=aa hk2
   have e2:kl[j]=k2:=by rw [G6 hj2] at hk2;exact Option.some.inj hk2
   exact List.pairwise_iff_getElem.mp hn i' j (GU hi' (Nat.min_le_right _ _)) hj2 (GU hi' (Nat.min_le_left _ _)) (e.trans e2.symm)
  have z1:=y1 k2 hkm2
  rw [if_neg (fun h=>hnt h.1)] at z1
  obtain⟨c2,tl2,hc2⟩:=S.cons hkm2
  have hpl2:place ((R k2).map V.int).length 0=some 0:=by unfold place;rw [hc2];simp
  have hg02:((R k2).map V.int)[0]?=some (V.int c2):=by rw [hc2];rfl
  have hk0:=h0 k2 hkm2
  wp_walk using 6,aj
  refine⟨fun he=>?_,fun he=>?_⟩
  .wp_walk using 6,z1
   refine⟨hk0,0,by simpa using hpl2,by decide,by decide,?_⟩
   wp_walk using 6,aj
   refine hT2 _ ⟨fun k hkk=>?_,fun j hj=>?_,List.length_set.trans y3,y4,y5,y6⟩
   .refine (?_:(List.set _ _ _)[k]?=_)
    by_cases hke:k=k2
    .subst hke
     rw [au (aa z1),take_snoc hk2,hc2]
     simp [he]
    .rw [af (fun e=>hke e.symm),y1 k hkk,take_snoc hk2]
     simp [hke]
   .exact (af (show k2≠j from fun e=>hj (by rw [<- e];exact hkm2))).trans (y2 j hj)
  .wp_walk using 6,aj
   refine hT2 _ ⟨fun k hkk=>?_,y2,y3,y4,y5,y6⟩
   refine (?_:ψ.H[k]?=_)
   refine rwE (y1 k hkk) (rwE (take_snoc hk2) ?_)
   by_cases hke:k=k2
   .subst hke
    simp [hnt,hc2,he]
   .simp [hke]
 ·(intro ψ FH;refine nk FH fun y1 y2 y3 y4 y5 y6=>?_;clear FH)
  refine⟨aq hq rfl ((y2 q hq0).trans hq),?_⟩
  rw [GX,GX,List.take_length] at y1
  wp_walk using 6,aj
  exact h _ _ y2 y3 y1 y4 y5
theorem xO {σ:Mine.St} {q:Nat} {ks:List Nat} {R:Nat->List Int} {Q:Fl->Mine.St->Prop} {X:V->Mine.St->Prop} (hq:σ.H[q]?=some (.list (ks.map .ref))) (hk:∀ k∈ks,σ.H[k]?=some (.list ((R k).map .int))) (hz:ks.length<=1000) (m1:σ.m (Str.ofString "sequences")=some (.ref q))
  (h:Q .next ⟨σ.H++[O.list ((live ks R).map V.ref)],pm σ.m (Str.ofString "sequences") (.ref σ.H.length)⟩):awS (prog.at 9) (nth a6 0) oK.scope [] σ Q X:=by
 have hb:nth a6 0=nth a6 0:=rfl
 conv at hb=>rhs;whnf
 rw [hb]
 clear hb
 wp_walk using 6,hq
 generalize hsc:az oK.scope _=sc
 generalize hro:freeNames _=ro
 have l1:sc.names.lookup (Str.ofString "s")=some .local:=by refine rwS hsc ?_;kernel_rfl
 have l2:ro=[]:=by refine hro.symm.trans ?_;kernel_rfl
 subst l2
 refine aO (fun i τ=>τ.H=σ.H++[O.list (((ks.take i).filter fun k=>R k≠[]).map V.ref)]) rfl ?_ ?_
 .rintro i it τ T hi hH hT
  obtain⟨k,hk1,rfl⟩:=ib hi
  have hkk:=hk k (G0 hk1)
  have hg:τ.H[k]?=some (.list ((R k).map .int)):=by rw [hH];exact (GR (aa hkk)).trans hkk
  refine⟨aq hq rfl (by rw [hH];exact (GR (aa hq)).trans hq),?_⟩
  wp_walk using 6,l1,hg
  have g2:τ.H[σ.H.length]?=some (.list (((ks.take i).filter fun k=>R k≠[]).map V.ref)):=by refine rwE hH ?_;exact ak
  refine⟨fun h0=>?_,fun h0=>?_⟩
  .wp_walk using 6,l1,g2
   refine⟨?_,?_⟩
   .exact GV (GS (List.length_filter_le _ _) (GS (List.length_take_le' ..) hz)) (by decide)
   .wp_walk using 6,aj
    refine hT _ ?_
    refine (?_:τ.H.set _ _=_)
    have:R k≠[]:=fun e=>by rw [e] at h0;exact Bool.noConfusion h0
    rw [hH,cW,take_snoc hk1,List.filter_append]
    simp [this]
  .wp_walk using 6,aj
   refine hT _ ?_
   refine (?_:τ.H=_)
   have:R k=[]:=by
    induction hh:R k using List.casesOn with
    | nil=>rfl
    | cons a b=>rw [hh] at h0;exact (h0 rfl).elim
   rw [hH,take_snoc hk1,List.filter_append]
   simp [this]
 .rintro τ hH
  simp only [GX,List.take_length] at hH
  refine⟨aq hq rfl (by rw [hH];exact (GR (aa hq)).trans hq),?_⟩
  wp_walk using 6,aj
  rw [hH]
  exact h
theorem xQ {H:List O} {q:Nat} {ks:List Nat} {R:Nat->List Int} {n:Nat} {Q X:V->List O->Prop} (hq:H[q]?=some (.list (ks.map .ref))) (hq0:q∉ks) (hk:∀ k∈ks,0 < k/\H[k]?=some (.list ((R k).map .int))) (hn:ks.Nodup)
  (hz:ks.length<=1000) (hnz:n<=100000) (hr:∀ k,(R k).length<=1000) (hbad:rj n ks R []≠.bad)
  (h:match rj n ks R [] with
   | .bad=>True
   | .ok acc R'=>∀ H' v,(∀ k∈ks,H'[k]?=some (.list ((R' k).map .int)))->(∀ j,j < H.length->j∉ks->H'[j]?=H[j]?)->H.length<=H'.length->H.length<=v->H'[v]?=some (.list (acc.map .int))->Q (.ref v) H'
   | .fail R'=>∀ H' e,(∀ k∈ks,H'[k]?=some (.list ((R' k).map .int)))->(∀ j,j < H.length->j∉ks->H'[j]?=H[j]?)->H.length<=H'.length->H.length<=e->H'[e]?=some (.exc (.ty "RuntimeError") [.str (Str.ofString "Inconsistent hierarchy")])->X (.ref e) H') :
  prog.bP 10 aC3 [.ref q] H Q X:=by
 rw [bx CO]
 have hb0:oK.body=[nth oK.body 0,nth oK.body 1]:=rfl
 rw [cO hb0 (ps:=[Str.ofString "sequences"]) rfl rfl rfl rfl]
 clear hb0
 have e0:nth oK.body 0=nth oK.body 0:=rfl
 conv at e0=>rhs;whnf
 have e1:∃ k p1 p2,nth oK.body 1=.While (.Constant (.bool true) k p1) a6 [] p2:=⟨_,_,_,rfl⟩
 obtain⟨_,_,_,e1⟩:=e1
 rw [e0,e1]
 clear e0 e1
 wp_walk using 6,aj
 have hkl:∀ k∈ks,k < H.length:=fun k h=>aa (hk k h).2
 refine dZ (fun m σ=>∃ ks1 R1 acc q1,rj m ks1 R1 acc=rj n ks R []/\(∀ k∈ks1,k∈ks)/\ks1.Nodup/\ks1.length<=1000/\(∀ k,(R1 k).length<=1000)/\acc.length+m<=n/\σ.m (Str.ofString "sequences")=some (.ref q1)/\σ.H[q1]?=some (.list (ks1.map .ref))/\(∀ k∈ks,σ.H[k]?=some (.list ((R1 k).map .int))) /\
   (∀ j,j < H.length->j∉ks->σ.H[j]?=H[j]?)/\σ.m (Str.ofString "result")=some (.ref H.length)/\σ.H[H.length]?=some (.list (acc.map .int)))
  ⟨ks,R,[],q,rfl,fun k h=>h,hn,hz,hr,Nat.le_of_eq (Nat.zero_add n),rfl,(GR (aa hq)).trans hq,fun k h=>(GR (hkl k h)).trans (hk k h).2,fun j hj _=>GR hj,rfl,ak⟩ ?_
 (intro m σ Ft;refine gP Ft fun ks1 R1 acc q1 Fp=>?_;clear Ft;refine lg Fp fun hgo hsub hn1 hz1 hr1 hm Fx=>?_;clear Fp;refine nk Fx fun m1 g1 gk old m2 gr=>?_;clear Fx)
 wp_walk using 6,aj
 obtain⟨m,rfl⟩:∃ m',m=m'+1:=by
  induction m using Nat.casesOn with
  | zero=>rw [rj] at hgo;exact absurd hgo.symm hbad
  | succ m=>exact⟨m,rfl⟩
 rw [rj] at hgo
 have hrl:H.length < σ.H.length:=aa gr
 have ew:a6=[nth a6 0,nth a6 1,jj,nth a6 3,nth a6 4,nth a6 5]:=rfl
 rw [ew,bU]
 clear ew
 refine xO g1 (fun k hk=>gk k (hsub k hk)) hz1 m1 ?_
 have hsub2:∀ k∈live ks1 R1,k∈ks:=fun k hk=>hsub k (List.mem_filter.mp hk).1
 have hne2:∀ k∈live ks1 R1,R1 k≠[]:=fun k hk=>of_decide_eq_true (List.mem_filter.mp hk).2
 have hn2:(live ks1 R1).Nodup:=hn1.filter _
 have hz2:(live ks1 R1).length<=1000:=GS (List.length_filter_le _ _) hz1
 clear g1 m1 hn1 hz1 hsub
 generalize live ks1 R1=kl at hgo hsub2 hne2 hn2 hz2
 have t1:(σ.H++[O.list (kl.map V.ref)])[σ.H.length]?=some (.list (kl.map .ref)):=ak
 have t2:∀ k∈ks,(σ.H++[O.list (kl.map V.ref)])[k]?=some (.list ((R1 k).map .int)):=fun k hk=>(GR (aa (gk k hk))).trans (gk k hk)
 have t3:(σ.H++[O.list (kl.map V.ref)])[H.length]?=some (.list (acc.map .int)):=(GR hrl).trans gr
 have t4:∀ j,j < H.length->j∉ks->(σ.H++[O.list (kl.map V.ref)])[j]?=H[j]?:=fun j hj ho=>(GR (Nat.lt_trans hj hrl)).trans (old j hj ho)
 have hlt:H.length < (σ.H++[O.list (kl.map V.ref)]).length:=aa t3
 have hql2:σ.H.length∉ks:=fun hh=>Nat.lt_irrefl _ (Nat.lt_trans (hkl _ hh) hrl)
 generalize σ.H++[O.list (kl.map V.ref)]=H1 at t1 t2 t3 t4 hlt
 have S:C3H H1 σ.H.length kl R1:=⟨t1,fun k hk=>t2 k (hsub2 k hk),hne2,hr1⟩
 have e1:nth a6 1=nth a6 1:=rfl
 conv at e1=>rhs;whnf
 rw [e1]
 clear e1
 wp_walk using 6,t1
 refine⟨fun h0=>?_,fun h0=>?_⟩
 .have:kl=[]:=by
   induction kl using List.casesOn with
   | nil=>rfl
   | cons a b=>exact Bool.noConfusion h0
  rw [if_pos this] at hgo
  rw [<- hgo] at h
  wp_walk using 6,aj
  exact h _ _ t2 t4 (G5 hlt) (Nat.le_refl _) t3
 .have hkl0:kl≠[]:=fun e=>by rw [e] at h0;exact h0 rfl
  rw [if_neg hkl0] at hgo
  wp_walk using 6,aj
  refine xP S hkl0 rfl m2 fun H2 m' k2 l2 n1 n2 n3=>?_
  have e3:nth a6 3=nth a6 3:=rfl
  conv at e3=>rhs;whnf
  rw [cP,bU,e3]
  clear e3
  induction hp:pick (kl.map R1) (kl.map R1) with
  | none =>
   rw [hp] at n3 hgo
   have hgo:C3R.fail R1=_:=hgo
   rw [<- hgo] at h
   have n3:m' (Str.ofString "candidate")=some .none:=n3
   wp_walk using 6,n3
   exact h _ _ (fun k hk=>(GR (GU (aa (t2 k hk)) l2)).trans ((k2 k (aa (t2 k hk))).trans (t2 k hk))) (fun j hj ho=>(GR (GU (Nat.lt_trans hj hlt) l2)).trans ((k2 j (Nat.lt_trans hj hlt)).trans (t4 j hj ho))) (by rw [GY];exact Nat.le_succ_of_le (GS (G5 hlt) l2)) (GS (G5 hlt) l2) ak
  | some c =>
   rw [hp] at n3 hgo
   have n3:m' (Str.ofString "candidate")=some (.int c):=n3
   have hgo:rj m kl (strip kl R1 c) (acc++[c])=_:=hgo
   have e4:nth a6 4=nth a6 4:=rfl
   conv at e4=>rhs;whnf
   have x1:=(k2 _ hlt).trans t3
   rw [e4]
   clear e4
   wp_walk using 6,x1
   have hpos:0 < H.length:=by
    obtain⟨k,r,hk⟩:=List.exists_cons_of_ne_nil hkl0
    exact Nat.zero_lt_of_lt (hkl k (hsub2 k (hk ▸ .head _)))
   refine⟨hpos,GV (GS (GS (Nat.le_add_right _ _) hm) hnz) (by decide),?_⟩
   wp_walk using 6,aj
   have hne:H.length≠σ.H.length:=Nat.ne_of_lt hrl
   have hks:∀ k∈ks,k≠H.length:=fun k hk=>Nat.ne_of_lt (hkl k hk)
   have kA:∀ j,j≠H.length->j < H1.length->(H2.set H.length (O.list (acc.map V.int++[V.int c])))[j]?=H1[j]?:=fun j hj hl=>(af (Ne.symm hj)).trans (k2 j hl)
   have S3:C3H (H2.set H.length (O.list (acc.map V.int++[V.int c]))) σ.H.length kl R1:=⟨(kA _ (Ne.symm hne) (aa t1)).trans t1,fun k hk=>(kA k (hks k (hsub2 k hk)) (aa (S.k k hk))).trans (S.k k hk),hne2,hr1⟩
   refine Ai S3 hn2 (fun h=>hql2 (hsub2 _ h)) (fun k h=>(hk k (hsub2 k h)).1) n1 n2 n3 fun H3 m3 k3 l3 y1 o1 o2=>?_
   wp_walk using 6,true_and
   refine⟨m,Nat.lt_succ_self _,kl,strip kl R1 c,acc++[c],hgo,hsub2,hn2,hz2,fun k=>?_,?_,σ.H.length,o1,(k3 _ fun h=>hql2 (hsub2 _ h)).trans S3.q,fun k hk=>?_,fun j hj ho=>?_,o2,?_⟩
   .unfold strip
    split
    .exact GS (Nat.le_of_eq List.length_tail) (GS (Nat.sub_le _ _) (hr1 k))
    .exact hr1 k
   .rw [GY];exact GS (Nat.le_of_eq (by rw [List.length_singleton];lia)) hm
   .by_cases hm:k∈kl
    .exact y1 k hm
    .refine (k3 k hm).trans ((kA k (hks k hk) (aa (t2 k hk))).trans ((t2 k hk).trans ?_))
     unfold strip
     rw [if_neg (fun h=>hm h.1)]
   .exact (k3 j fun h=>ho (hsub2 j h)).trans ((kA j (Nat.ne_of_lt hj) (Nat.lt_trans hj hlt)).trans (t4 j hj ho))
   .refine (k3 _ fun h=>Nat.lt_irrefl _ (hkl _ (hsub2 _ h))).trans ?_
    rw [List.map_append];exact au (aa x1)
noncomputable def Walk (su:Int->List Int):List Int->Prop
 | []=>True
 | x::r=>(∀ y,r.head?=some y->y∈su x)/\Walk su r
theorem mS {su:Int->List Int} {x:Int}:∀ {l:List Int},Walk su l->(∀ z,l.getLast?=some z->x∈su z)->Walk su (l++[x])
 | [],_,_=>⟨(fun _ h=>by exact nS h),trivial⟩
 | [a],_,h=>⟨(fun y e=>by cases e;exact h a rfl),⟨(fun _ h=>by exact nS h),trivial⟩⟩
 | a::b::r,hw,h=>⟨hw.1,mS (l:=b::r) hw.2 fun z e=>h z (by refine (List.getLast?_cons_cons).trans ?_;exact e)⟩
theorem mR {su:Int->List Int}:∀ {l:List Int} (k:Nat),Walk su l->Walk su (l.drop k)
 | _,0,h=>h
 | [],_+1,h=>h
 | _::_,k+1,h=>mR k h.2
noncomputable def mT (su:Int->List Int):List Int->Prop
 | []=>True
 | x::B=>(∀ y∈su x,y∈B)/\x∉B/\mT su B
theorem eT {su:Int->List Int}:∀ {B:List Int},mT su B->∀ x∈B,∀ y∈su x,y∈B
 | _::_,h,x,hx,y,hy=>by
  rcases List.mem_cons.mp hx with rfl | hx
  .exact .tail _ (h.1 y hy)
  .exact .tail _ (eT h.2.2 x hx y hy)
theorem jK {su:Int->List Int} {L:Int->Prop}:∀ {B:List Int},mT su B->(∀ x,L x->x∈B/\∃ p,L p/\x∈su p)->∀ x,¬ L x
 | [],_,h,x,hx=>by cases (h x hx).1
 | b::B,t,h,x,hx=>by
  have hb:¬ L b:=fun hl=>by
   (obtain⟨_,ζ1⟩:=h b hl;refine ao ζ1 fun p hp hs=>?_;clear ζ1)
   rcases List.mem_cons.mp (h p hp).1 with rfl | hpB
   .exact t.2.1 (t.1 _ hs)
   .exact t.2.1 (eT t.2.2 p hpB b hs)
  refine jK t.2.2 (fun y hy=>?_) x hx
  obtain⟨h1,h2⟩:=h y hy
  rcases List.mem_cons.mp h1 with rfl | h1
  .exact absurd hy hb
  .exact⟨h1,h2⟩
noncomputable def Pre (su:Int->List Int) (B:List Int):List (Int × Nat)->Int->Prop
 | [],_=>True
 | (z,k)::r,x=>(∃ j,k=j+1/\(su z)[j]?=some x/\∀ i,i < j->∀ y,(su z)[i]?=some y->y∈B)/\z∉B/\z∉r.map (·.1)/\Pre su B r z
theorem kJ {su:Int->List Int} {B:List Int} {b:Int}:∀ {st:List (Int × Nat)} {x:Int},b∉st.map (·.1)->Pre su B st x->Pre su (b::B) st x
 | [],_,_,_=>trivial
 | (z,k)::r,x,hb,⟨⟨j,h1,h2,h3⟩,h4,h5,h6⟩=>by
  simp only [List.map_cons,List.mem_cons,not_or] at hb
  exact⟨⟨j,h1,h2,fun i hi y hy=>.tail _ (h3 i hi y hy)⟩,by simp only [List.mem_cons,not_or];exact⟨fun e=>hb.1 e.symm,h4⟩,h5,kJ hb.2 h6⟩
theorem pA {su:Int->List Int} {B:List Int}:∀ {st:List (Int × Nat)} {x:Int},Pre su B st x->Walk su (st.reverse.map (·.1)++[x])
 | [],_,_=>⟨(fun _ h=>by exact nS h),trivial⟩
 | (z,k)::r,x,⟨⟨j,h1,h2,h3⟩,h4,h5,h6⟩=>by
  have ih:=pA h6
  refine rwE List.reverse_cons (rwE List.map_append ?_)
  refine mS ih fun w hw=>?_
  have:some w=some z:=by refine hw.symm.trans ?_;simp
  cases this
  exact G0 h2
theorem kF {su:Int->List Int}:∀ {st:List (Int × Nat)} {B:List Int} {x:Int},mT su B->Pre su B st x->x∈B ->
  match nextOf su st with
  | none=>∃ B',mT su B'/\∀ y,y∈B'↔y∈B\/y∈st.map (·.1)
  | some (y,st')=>∃ B',mT su B'/\Pre su B' st' y/\(∀ y,y∈B'\/y∈st'.map (·.1)↔y∈B\/y∈st.map (·.1))
 | [],B,x,t,_,_=>⟨B,t,fun y=>by simp⟩
 | (z,k)::r,B,x,t,⟨⟨j,h1,h2,h3⟩,h4,h5,h6⟩,hx=>by
  rw [nextOf]
  have hall:∀ i,i < k->∀ y,(su z)[i]?=some y->y∈B:=fun i hi y hy=>by
   by_cases e:i=j
   .subst e;rw [h2] at hy;cases hy;exact hx
   .exact h3 i (by lia) y hy
  induction hq:(su z)[k]? with
  | some y=>exact kC B t (⟨⟨k,rfl,hq,hall⟩,h4,h5,h6⟩) (fun w=>by exact Eq.to_iff rfl)
  | none =>
   have tz:mT su (z::B):=⟨fun y hy=>by
    obtain⟨i,hi⟩:=List.mem_iff_getElem?.mp hy
    refine hall i ?_ y hi
    have:=List.getElem?_eq_none_iff.mp hq
    have:=aa hi
    exact GU (by assumption) (by assumption),h4,t⟩
   have ih:=kF (st:=r) (B:=z::B) (x:=z) tz (kJ h5 h6) (.head _)
   dsimp only
   induction hn:nextOf su r with
   | none =>
    rw [hn] at ih
    (refine ao ih fun B' t' h'=>?_;clear ih)
    exact aW B' t' (fun y=>by refine (h' ..).trans ?_;simp only [List.mem_cons,List.map_cons];grind)
   | some o =>
    obtain⟨y,st'⟩:=o
    rw [hn] at ih
    (refine d8 ih fun B' t' p' h'=>?_;clear ih)
    exact kC B' t' p' (fun y=>by refine (h' ..).trans ?_;simp only [List.mem_cons,List.map_cons];grind)
noncomputable def Ring (su:Int->List Int) (l:List Int):Prop:=∃ x m,l=x::m++[x]/\Walk su l
theorem ku {su:Int->List Int}:∀ {n:Nat} {seen:List Int} {st:List (Int × Nat)} {x:Int} {B:List Int},mT su B->Pre su B st x->(∀ y,y∈seen↔y∈B\/y∈st.map (·.1)) ->
  match bN su n seen st x with
  | .bad=>True
  | .ring l=>Ring su l
  | .fin seen'=>(∃ B',mT su B'/\∀ y,y∈seen'↔y∈B')/\x∈seen'/\∀ y∈seen,y∈seen'
 | 0,_,_,_,_,_,_,_=>trivial
 | n+1,seen,st,x,B,t,p,hs=>by
  rw [bN]
  by_cases hx:x∈seen
  .refine rwE (if_pos hx) ?_
   by_cases hst:x∈st.map (·.1)
   .refine rwE (if_pos hst) ?_
    have hr:x∈st.reverse.map (·.1):=by simpa using hst
    have hlt:=List.idxOf_lt_length_of_mem hr
    have hw:=mR ((st.reverse.map (·.1)).idxOf x) (pA p)
    rw [List.drop_append_of_le_length (G5 hlt)] at hw
    unfold jF
    refine⟨x,(st.reverse.map (·.1)).drop ((st.reverse.map (·.1)).idxOf x+1),?_,hw⟩
    exact rwE (List.drop_eq_getElem_cons hlt) (rwE (List.getElem_idxOf hlt) rfl)
   .refine rwE (if_neg hst) ?_
    have hB:x∈B:=((hs x).mp hx).resolve_right hst
    have hn:=kF t p hB
    induction hq:nextOf su st with
    | none =>
     rw [hq] at hn
     (refine ao hn fun B' t' h'=>?_;clear hn)
     exact⟨⟨B',t',fun y=>by rw [hs,h']⟩,hx,fun _ h=>h⟩
    | some o =>
     obtain⟨y,st'⟩:=o
     rw [hq] at hn
     (refine d8 hn fun B' t' p' h'=>?_;clear hn)
     have ih:=ku (n:=n) (seen:=seen) t' p' (fun y=>by rw [hs,h'])
     dsimp only
     induction hg:bN su n seen st' y with
     | bad=>trivial
     | ring l=>rw [hg] at ih;exact ih
     | fin seen'=>rw [hg] at ih;exact⟨ih.1,ih.2.2 x hx,ih.2.2⟩
  .refine rwE (if_neg hx) ?_
   have hxB:x∉B:=fun h=>hx ((hs x).mpr (.inl h))
   have hxs:x∉st.map (·.1):=fun h=>hx ((hs x).mpr (.inr h))
   rw [nextOf]
   induction hq:(su x)[0]? with
   | some y =>
    have ih:=ku (n:=n) (seen:=x::seen) (st:=(x,1)::st) (x:=y) (B:=B) t ⟨⟨0,rfl,hq,(fun i hi=>by simp_all)⟩,hxB,hxs,p⟩ (fun y=>by
     simp only [List.mem_cons,List.map_cons,hs]
     constructor
     .rintro (h | h | h)<;>simp [h]
     .rintro (h | h | h)<;>simp [h])
    dsimp only
    induction hg:bN su n (x::seen) ((x,0+1)::st) y with
    | bad=>trivial
    | ring l=>rw [hg] at ih;exact ih
    | fin seen'=>rw [hg] at ih;exact⟨ih.1,ih.2.2 x (.head _),fun y hy=>ih.2.2 y (.tail _ hy)⟩
   | none =>
    have hno:su x=[]:=by
     induction h:su x using List.casesOn with
     | nil=>rfl
     | cons a r=>rw [h] at hq;exact sN hq
    have tx:mT su (x::B):=⟨(fun y hy=>by rw [hno] at hy;cases hy),hxB,t⟩
    have hn:=kF (st:=st) tx (kJ hxs p) (.head _)
    dsimp only
    induction hq2:nextOf su st with
    | none =>
     rw [hq2] at hn
     (refine ao hn fun B' t' h'=>?_;clear hn)
     refine⟨⟨B',t',fun y=>by rw [h'];simp only [List.mem_cons,hs];exact Iff.symm or_assoc⟩,.head _,fun y hy=>.tail _ hy⟩
    | some o =>
     obtain⟨y,st'⟩:=o
     rw [hq2] at hn
     (refine d8 hn fun B' t' p' h'=>?_;clear hn)
     have ih:=ku (n:=n) (seen:=x::seen) t' p' (fun y=>by rw [h'];simp only [List.mem_cons,hs];grind)
     dsimp only
     induction hg:bN su n (x::seen) st' y with
     | bad=>trivial
     | ring l=>rw [hg] at ih;exact ih
     | fin seen'=>rw [hg] at ih;exact⟨ih.1,ih.2.2 x (.head _),fun y hy=>ih.2.2 y (.tail _ hy)⟩
theorem oX {su:Int->List Int} {n:Nat}:∀ {ns seen B:List Int},mT su B->(∀ y,y∈seen↔y∈B) ->
  match bO su n seen ns with
  | .bad=>True
  | .ring l=>Ring su l
  | .fin seen'=>∃ B',mT su B'/\(∀ y,y∈seen'↔y∈B')/\(∀ y∈ns,y∈B')/\∀ y∈seen,y∈seen'
 | [],seen,B,t,hs=>⟨B,t,hs,(fun _ h=>by cases h),fun _ h=>h⟩
 | x::r,seen,B,t,hs=>by
  rw [bO]
  by_cases hx:x∈seen
  .refine rwE (if_pos hx) ?_
   have ih:=oX (n:=n) (ns:=r) t hs
   induction hg:bO su n seen r with
   | bad=>trivial
   | ring l=>rw [hg] at ih;exact ih
   | fin s =>
    rw [hg] at ih
    (refine bW ih fun B' t' h1 h2 h3=>?_;clear ih)
    exact⟨B',t',h1,fun y hy=>by
     rcases List.mem_cons.mp hy with rfl | hy
     .exact (h1 _).mp (h3 _ hx)
     .exact h2 y hy,h3⟩
  .refine rwE (if_neg hx) ?_
   have hw:=ku (n:=n) (seen:=seen) (st:=[]) (x:=x) t trivial (fun y=>by simp [hs])
   induction hg:bN su n seen [] x with
   | bad=>trivial
   | ring l=>rw [hg] at hw;exact hw
   | fin s =>
    rw [hg] at hw
    (refine aJ hw fun ζ2 h2 h3=>?_;clear hw;obtain⟨B1,t1,h1⟩:=ζ2)
    have ih:=oX (n:=n) (ns:=r) t1 h1
    dsimp only
    induction hg2:bO su n s r with
    | bad=>trivial
    | ring l=>rw [hg2] at ih;exact ih
    | fin s' =>
     rw [hg2] at ih
     (refine bW ih fun B' t' i1 i2 i3=>?_;clear ih)
     exact⟨B',t',i1,fun y hy=>by
      rcases List.mem_cons.mp hy with rfl | hy
      .exact (i1 _).mp (i3 _ h2)
      .exact i2 y hy,fun y hy=>i3 y (h3 y hy)⟩
noncomputable def cI (su:Int->List Int) (seen ns:List Int):Nat:=(ns.map fun y=>if y∈seen then 0 else 1+(su y).length).sum
noncomputable def mL (su:Int->List Int) (st:List (Int × Nat)):Nat:=(st.map fun p=>(su p.1).length - p.2).sum
theorem lR {su:Int->List Int} {seen:List Int} {x:Int}:∀ {ns:List Int},cI su (x::seen) ns<=cI su seen ns
 | []=>Nat.le_refl _
 | y::ns=>by
  have ih:=lR (su:=su) (seen:=seen) (x:=x) (ns:=ns)
  unfold cI at ih ⊢
  simp only [List.map_cons,List.sum_cons,List.mem_cons] at ih ⊢
  by_cases h1:y∈seen
  .simp only [h1,or_true,if_true];exact aT2 Nat.le.refl ih
  .simp only [h1,or_false,if_false];exact Nat.add_le_add (by split;exact Nat.zero_le _;exact Nat.le_refl _) ih
theorem lS {su:Int->List Int} {seen:List Int} {x:Int} (hs:x∉seen):∀ {ns:List Int},x∈ns->cI su (x::seen) ns+(1+(su x).length)<=cI su seen ns
 | y::ns,h=>by
  rcases List.mem_cons.mp h with rfl | h
  .have:=lR (su:=su) (seen:=seen) (x:=x) (ns:=ns)
   unfold cI at this ⊢
   simp only [List.map_cons,List.sum_cons,List.mem_cons,true_or,if_true,hs,if_false] at this ⊢
   rw [Nat.zero_add,Nat.add_comm];exact Nat.add_le_add_left this _
  .have ih:=lS (su:=su) hs h
   unfold cI at ih ⊢
   simp only [List.map_cons,List.sum_cons,List.mem_cons] at ih ⊢
   by_cases h1:y∈seen
   .simp only [h1,or_true,if_true];rw [Nat.zero_add,Nat.zero_add];exact ih
   .simp only [h1,or_false,if_false];rw [Nat.add_assoc];exact Nat.add_le_add (by split;exact Nat.zero_le _;exact Nat.le_refl _) ih
theorem iO {su:Int->List Int}:∀ {st:List (Int × Nat)} {y:Int} {st':List (Int × Nat)},nextOf su st=some (y,st')->mL su st'+1<=mL su st
 | (x,k)::r,y,st',h=>by
  rw [nextOf] at h
  induction hq:(su x)[k]? with
  | some z =>
   rw [hq] at h
   injection h with h;injection h with h1 h2
   subst h2
   have:=aa hq
   unfold mL
   simp only [List.map_cons,List.sum_cons];rw [Nat.add_right_comm];exact Nat.add_le_add_right (Nat.sub_succ_lt_self _ _ this) _
  | none =>
   rw [hq] at h
   have ih:=iO h
   unfold mL at ih ⊢
   simp only [List.map_cons,List.sum_cons];exact Nat.le_add_left_of_le ih
theorem jf {su:Int->List Int} {ns:List Int} (hsu:∀ x,∀ y∈su x,y∈ns):∀ {n:Nat} {seen:List Int} {st:List (Int × Nat)} {x:Int},x∈ns->(∀ p∈st,p.1∈ns)->cI su seen ns+mL su st < n->bN su n seen st x≠.bad
 | 0,_,_,_,_,_,h=>absurd h (Nat.not_lt_zero _)
 | n+1,seen,st,x,hx,hst,hm=>by
  rw [bN]
  by_cases hs:x∈seen
  .refine rwE (if_pos hs) ?_
   by_cases h2:x∈st.map (·.1)
   .refine rwE (if_pos h2) ?_;exact fun h=>by exact Rs.noConfusion h
   .refine rwE (if_neg h2) ?_
    induction hn:nextOf su st with
    | none=>exact fun h=>by exact Rs.noConfusion h
    | some o =>
     obtain⟨y,st'⟩:=o
     obtain⟨h3,h4⟩:=fD hsu hst hn
     have:=iO hn
     exact jf hsu h3 h4 (GU (Nat.add_lt_add_left this _) (Nat.le_of_lt_succ hm))
  .refine rwE (if_neg hs) ?_
   induction hn:nextOf su ((x,0)::st) with
   | none=>exact fun h=>by exact Rs.noConfusion h
   | some o =>
    obtain⟨y,st'⟩:=o
    have hst1:∀ p∈(x,0)::st,p.1∈ns:=fun p hp=>by
     rcases List.mem_cons.mp hp with rfl | hp
     .exact hx
     .exact hst p hp
    obtain⟨h3,h4⟩:=fD hsu hst1 hn
    have h5:=iO hn
    have h6:=lS (su:=su) hs hx
    have h7:mL su ((x,0)::st)=(su x).length+mL su st:=by unfold mL;rfl
    exact jf hsu h3 h4 (GU (Nat.add_lt_add_left (h7 ▸ h5) _) (GS (GS (Nat.le_of_eq (Nat.add_assoc ..).symm) (Nat.add_le_add_right (GS (Nat.add_le_add_left (Nat.le_add_left _ _) _) h6) _)) (Nat.le_of_lt_succ hm)))
theorem o8 {su:Int->List Int} {seen:List Int}:∀ {ns:List Int},cI su seen ns<=cI su [] ns
 | []=>Nat.le_refl _
 | y::ns=>by
  have ih:=o8 (su:=su) (seen:=seen) (ns:=ns)
  unfold cI at ih ⊢
  simp only [List.map_cons,List.sum_cons,List.not_mem_nil,if_false] at ih ⊢
  exact Nat.add_le_add (by split;exact Nat.zero_le _;exact Nat.le_refl _) ih
theorem jR {su:Int->List Int} {ns:List Int} (hsu:∀ x,∀ y∈su x,y∈ns) {n:Nat} (hn:cI su [] ns < n):∀ {r seen:List Int},(∀ x∈r,x∈ns)->bO su n seen r≠.bad
 | [],_,_=>fun h=>by exact Rs.noConfusion h
 | x::r,seen,hr=>by
  rw [bO]
  by_cases hs:x∈seen
  .refine rwE (if_pos hs) ?_;exact jR hsu hn fun y hy=>hr y (.tail _ hy)
  .refine rwE (if_neg hs) ?_
   have hb:=jf hsu (n:=n) (seen:=seen) (st:=[]) (hr x (.head _)) (fun p hp=>by cases hp) (by have:=o8 (su:=su) (seen:=seen) (ns:=ns);refine (?_:_+0 < n);exact GV (by assumption) (by assumption))
   induction hg:bN su n seen [] x with
   | bad=>exact absurd hg hb
   | ring l=>exact fun h=>by exact Rs.noConfusion h
   | fin s=>exact jR hsu hn fun y hy=>hr y (.tail _ hy)
theorem jD {su:Int->List Int} {b:Nat} (hb:∀ x,(su x).length<=b):∀ {ns:List Int},cI su [] ns<=(1+b) * ns.length
 | []=>Nat.zero_le _
 | y::ns=>by
  have ih:=jD hb (ns:=ns)
  have:=hb y
  unfold cI at ih ⊢
  simp only [List.map_cons,List.sum_cons,List.not_mem_nil,if_false,List.length_cons,Nat.mul_add] at ih ⊢
  rw [Nat.add_comm,Nat.mul_one];exact Nat.add_le_add ih (Nat.add_le_add_left this 1)
theorem kL {su:Int->List Int} {ns:List Int} (hsu:∀ x,∀ y∈su x,y∈ns) {l:List Int} (h:Ring su l):l.length ≥ 2/\(∀ x∈l,x∈ns/\∃ p∈l,x∈su p):=by
 (refine bq h fun x m ζ1 hw=>?_;clear h;obtain rfl:=ζ1)
 refine⟨by simp,?_⟩
 have main:∀ (l:List Int) (a:Int),Walk su (a::l)->∀ y∈l,∃ p∈a::l,y∈su p:=by
  intro l
  induction l with
  | nil=>intro a _ y hy;cases hy
  | cons b l ih =>
   intro a hw y hy
   rcases List.mem_cons.mp hy with rfl | hy
   .exact aW a (.head _) (hw.1 _ rfl)
   .refine ao (ih b hw.2 y hy) fun p h1 h2=>?_
    exact aW p (.tail _ h1) h2
 have hall:∀ y∈m++[x],∃ p∈x::(m++[x]),y∈su p:=main (m++[x]) x hw
 intro y hy
 have hy':y∈m++[x]:=by
  rcases List.mem_cons.mp hy with rfl | hy
  .exact List.mem_append_right _ (.head _)
  .exact hy
 refine ao (hall y hy') fun p h1 h2=>?_
 exact⟨hsu p y h2,p,h1,h2⟩
noncomputable def Av (E:List (Int × Int)) (T D:List Int) (x:Int):Prop:=x∈T/\x∉D/\∀ e∈E,e.2=x->e.1∈D
noncomputable def c6 (E:List (Int × Int)) (T g:List Int):Prop:=∀ i x,g[i]?=some x->Av E T (g.take i) x
noncomputable def mW (E:List (Int × Int)) (T g:List Int):Prop:=∀ x,¬ Av E T g x
noncomputable def aB (E:List (Int × Int)) (x:Int):List Int:=(E.filter fun e=>e.1=x).map (·.2)
noncomputable def cnt (E:List (Int × Int)) (D:List Int) (x:Int):Nat:=(E.filter fun e=>e.2=x/\e.1∉D).length
noncomputable def Within (E:List (Int × Int)) (T:List Int):Prop:=∀ e∈E,e.1∈T/\e.2∈T
theorem bD {E:List (Int × Int)} {x y:Int}:y∈aB E x↔(x,y)∈E:=by
 unfold aB
 simp only [List.mem_map,List.mem_filter,decide_eq_true_eq]
 constructor
 ·(intro ζ4;refine ao ζ4 fun ζ5 ζ6 ζ7=>?_;clear ζ4;obtain⟨a,b⟩:=ζ5;obtain⟨h,rfl⟩:=ζ6;obtain rfl:=ζ7);exact h
 .intro h;exact aW (x,y) ⟨h,rfl⟩ rfl
theorem bg {E:List (Int × Int)} {x:Int}:(aB E x).length<=E.length:=by
 unfold aB;refine rwE (GX ..) ?_;exact List.length_filter_le ..
section
variable {E:List (Int × Int)} {T g g':List Int}
theorem ia:c6 E T []:=fun i x h=>by exact nS h
theorem fm (h:c6 E T g) {x:Int} (a:Av E T g x):c6 E T (g++[x]):=fun i y hy=>by
 rcases Nat.lt_trichotomy i g.length with hi | rfl | hi
 .rw [GR hi] at hy
  refine rwE (List.take_append_of_le_length (G5 hi)) ?_
  exact h i y hy
 .rw [List.getElem?_append_right (Nat.le_refl _)] at hy
  simp at hy;subst hy
  refine rwE (List.take_append_of_le_length (Nat.le_refl _)) (rwE List.take_length ?_);exact a
 .rw [List.getElem?_append_right (G5 hi)] at hy
  have:i - g.length ≥ 1:=by exact Nat.le_sub_of_add_le' hi
  rw [List.getElem?_eq_none (by simp;omega)] at hy;exact nS hy
theorem rW (h:c6 E T g) (k:Nat):c6 E T (g.take k):=fun i x hx=>by
 have hi:=aa hx
 rw [List.length_take] at hi
 have h1:=h i x (by rw [List.getElem?_take_of_lt (by lia)] at hx;exact hx)
 refine rwE List.take_take (rwE (Nat.min_eq_left (by lia)) ?_)
 exact h1
theorem fq (h:c6 E T g):∀ x∈g,x∈T:=fun x hx=>by
 obtain⟨i,hi⟩:=List.mem_iff_getElem?.mp hx
 exact (h i x hi).1
theorem nt (h:c6 E T g):∀ x∈g,∀ e∈E,e.2=x->e.1∈g:=fun x hx e he hex=>by
 obtain⟨i,hi⟩:=List.mem_iff_getElem?.mp hx
 exact List.mem_of_mem_take ((h i x hi).2.2 e he hex)
theorem qe (h:c6 E T g):g.Nodup:=by
 refine List.pairwise_iff_getElem.mpr fun i j hi hj hij e=>?_
 refine (h j g[j] (G6 hj)).2.1 ?_
 exact List.mem_iff_getElem?.mpr ⟨i,by exact rwE (List.getElem?_take_of_lt hij) (rwE (G6 hi) (rwE e rfl))⟩
theorem gZ (h:c6 E T g):g.length<=T.length:=aQ (qe h) (fq h)
theorem fQ (h:c6 E T g) (s:mW E T g'):∀ x∈g,x∈g':=by
 have main:∀ i,∀ x∈g.take i,x∈g':=by
  intro i
  induction i with
  | zero=>intro x hx;simp at hx
  | succ i ih =>
   intro x hx
   induction hq:g[i]? with
   | none =>
    rw [List.take_of_length_le (by have:=List.getElem?_eq_none_iff.mp hq;exact Nat.le.step this)] at hx
    rw [List.take_of_length_le (by have:=List.getElem?_eq_none_iff.mp hq;omega)] at ih
    exact ih x hx
   | some y =>
    rw [take_snoc hq,List.mem_append,List.mem_singleton] at hx
    rcases hx with hx | rfl
    .exact ih x hx
    .refine aJ (h i _ hq) fun h1 h2 h3=>?_
     exact Classical.byContradiction fun hn=>s _ ⟨h1,hn,fun e he hex=>ih _ (h3 e he hex)⟩
 intro x hx
 exact main g.length x (by refine rwE List.take_length ?_;exact hx)
theorem mO {B:List Int} (w:Within E T) (t:mT (aB E) B) (hB:∀ x∈T,x∈B) (s:mW E T g):∀ x∈T,x∈g:=fun x hx=>by
 refine Classical.byContradiction fun hn=>jK (L:=fun y=>y∈T/\y∉g) t (fun y hy=>?_) x ⟨hx,hn⟩
 refine⟨hB y hy.1,?_⟩
 refine Classical.byContradiction fun hno=>s y ⟨hy.1,hy.2,fun e he hey=>?_⟩
 refine Classical.byContradiction fun hg=>hno ⟨e.1,⟨(w e he).1,hg⟩,bD.mpr ?_⟩
 refine rwS hey ?_;exact he
theorem vS (w:Within E T) {l:List Int} (r:Ring (aB E) l) (h:c6 E T g):∀ x∈l,x∉g:=by
 have hsu:∀ x,∀ y∈aB E x,y∈T:=fun x y hy=>(w _ (bD.mp hy)).2
 obtain⟨_,hl⟩:=kL hsu r
 have main:∀ i,∀ x∈l,x∉g.take i:=by
  intro i
  induction i with
  | zero=>intro x _ hx;simp at hx
  | succ i ih =>
   intro x hxl hx
   induction hq:g[i]? with
   | none =>
    rw [List.take_of_length_le (by have:=List.getElem?_eq_none_iff.mp hq;exact Nat.le.step this)] at hx
    rw [List.take_of_length_le (by have:=List.getElem?_eq_none_iff.mp hq;omega)] at ih
    exact ih x hxl hx
   | some y =>
    rw [take_snoc hq,List.mem_append,List.mem_singleton] at hx
    rcases hx with hx | rfl
    .exact ih x hxl hx
    ·(obtain⟨_,ζ1⟩:=hl _ hxl;refine ao ζ1 fun p hp hpx=>?_;clear ζ1)
     exact ih p hp ((h i _ hq).2.2 (p,x) (bD.mp hpx) rfl)
 intro x hx hg
 exact main g.length x hx (by refine rwE List.take_length ?_;exact hg)
end
theorem oR:∀ (ys:List Int) (s:(Int->Int) × List Int),(∀ y∈ys,(ys.count y:Int)<=s.1 y) ->
  ((ys.foldl gy s).1=fun y=>s.1 y - ys.count y)/\∃ Z,(ys.foldl gy s).2=s.2++Z/\Z.Nodup/\∀ y,y∈Z↔y∈ys/\s.1 y=ys.count y
 | [],s,_=>⟨by funext y;simp,[],by exact (List.append_nil _).symm,by simp,by simp⟩
 | a::ys,s,h=>by
  refine rwE List.foldl_cons ?_
  have ha:=h a (.head _)
  rw [List.count_cons_self] at ha
  have hh:∀ y∈ys,(ys.count y:Int)<=(gy s a).1 y:=fun y hy=>by
   have:=h y (.tail _ hy)
   unfold gy upd
   by_cases e:y=a
   .subst e;rw [List.count_cons_self] at this;simp only [if_true];exact Int.le_sub_one_of_lt ha
   .rw [List.count_cons_of_ne (Ne.symm e)] at this;simp only [e,if_false];exact this
  (obtain⟨h1,ζ2⟩:=oR ys (gy s a) hh;refine d8 ζ2 fun Z h2 h3 h4=>?_;clear ζ2)
  refine⟨?_,?_⟩
  .refine h1.trans ?_
   funext y
   unfold gy upd
   by_cases e:y=a
   .subst e;refine rwE List.count_cons_self ?_;simp only [if_true];simp +arith
   .refine rwE (List.count_cons_of_ne (Ne.symm e)) ?_;simp_all
  .have hd1:∀ y,(gy s a).1 y=if y=a then s.1 a - 1 else s.1 y:=fun y=>rfl
   by_cases hz:s.1 a - 1=0
   .have hc:ys.count a=0:=by lia
    have hna:a∉ys:=fun hm=>by have:=List.count_pos_iff.mpr hm;exact Nat.ne_of_lt this (id (Eq.symm hc))
    have hd2:(gy s a).2=s.2++[a]:=by unfold gy;exact if_pos (by assumption)
    refine kC (a::Z) (by refine rwE (h2 ..) (rwE (hd2 ..) (rwE (List.append_assoc ..) ?_));rfl) (List.nodup_cons.mpr ⟨fun hm=>hna ((h4 a).mp hm).1,h3⟩) (fun y=>?_)
    rw [List.mem_cons,h4,hd1]
    by_cases e:y=a
    .subst e
     simp only [true_or,true_iff,List.mem_cons,true_and,List.count_cons_self];simp_all +arith
    .rw [List.count_cons_of_ne (Ne.symm e),if_neg e,List.mem_cons]
     simp [e]
   .have hd2:(gy s a).2=s.2:=by unfold gy;exact if_neg (by assumption)
    refine kC Z (by exact rwE h2 (rwE hd2 rfl)) h3 (fun y=>?_)
    rw [h4,hd1]
    by_cases e:y=a
    .subst e
     refine rwE List.count_cons_self (rwE (if_pos rfl) ?_)
     simp only [List.mem_cons,true_or,true_and]
     constructor
     .rintro⟨_,h⟩;lia
     .intro h
      have:ys.count y≠0:=fun hc=>hz (by simp_all)
      exact⟨List.count_pos_iff.mp (by exact Nat.zero_lt_of_ne_zero this),by exact (fun {b a c}=>Iff.mpr Int.sub_eq_iff_eq_add) h⟩
    .rw [List.count_cons_of_ne (Ne.symm e),if_neg e,List.mem_cons]
     simp [e]
theorem dW {D:List Int} {x:Int} (hx:x∉D) (y:Int):∀ {E:List (Int × Int)},cnt E D y=cnt E (D++[x]) y+(aB E x).count y
 | []=>rfl
 | (a,b)::E=>by
  have ih:=dW hx y (E:=E)
  unfold cnt aB at ih ⊢
  simp only [List.filter_cons,decide_eq_true_eq,List.mem_append,List.mem_singleton,not_or]
  simp only [List.mem_append,List.mem_singleton,not_or] at ih
  by_cases h1:b=y
  .subst h1
   by_cases h2:a=x
   .subst h2
    simp only [hx,not_false_eq_true,true_and,if_true,not_true_eq_false,and_false,if_false,List.map_cons,List.count_cons_self,List.length_cons]
    simp_all +arith
   .by_cases h3:a∈D
    .simp only [h2,h3,not_true_eq_false,and_false,false_and,if_false];exact ih
    .simp only [h2,h3,not_false_eq_true,and_true,if_true,if_false,List.length_cons];simp_all +arith
  .by_cases h2:a=x
   .subst h2
    simp only [h1,false_and,if_false,if_true,List.map_cons,List.count_cons_of_ne h1];exact ih
   .simp only [h1,h2,false_and,if_false];exact ih
theorem jZ {E:List (Int × Int)} {D:List Int} {y:Int}:cnt E D y=0↔∀ e∈E,e.2=y->e.1∈D:=by
 unfold cnt
 refine List.length_eq_zero_iff.trans (List.filter_eq_nil_iff.trans ?_)
 simp only [decide_eq_true_eq,not_and,Classical.not_not]
structure Kn (E:List (Int × Int)) (T D O R:List Int) (np:Int->Int):Prop where
 np:∀ x,np x=if x∈D then -2 else if x∈O then -1 else (cnt E D x:Int)
 nd:(O++R).Nodup
 av:∀ x,x∈O\/x∈R↔Av E T D x
 dn:∀ x∈D,∀ e∈E,e.2=x->e.1∈D
section
variable {E:List (Int × Int)} {T D O R:List Int} {np:Int->Int}
theorem Kn.start (hT:T.Nodup):Kn E T [] [] (T.filter fun x=>((cnt E [] x:Nat):Int)=0) (fun x=>cnt E [] x) where
 np:=fun x=>by rfl
 nd:=by rw [List.nil_append];exact hT.filter _
 av:=fun x=>by
  unfold Av
  rw [<- jZ]
  simp only [List.not_mem_nil,false_or,List.mem_filter,decide_eq_true_eq,not_false_eq_true,true_and]
  constructor<;>rintro⟨h1,h2⟩<;>exact⟨h1,by simp_all⟩
 dn:=fun x hx=>by cases hx
theorem Kn.ready (K:Kn E T D O R np):Kn E T D (O++R) [] (outs np R) where
 np:=fun x=>by
  unfold outs
  by_cases h:x∈R
  .have:=(K.av x).mp (.inr h)
   exact rwE (if_pos h) (rwE (if_neg this.2.1) (rwE (if_pos (List.mem_append_right _ h)) rfl))
  .refine ((if_neg h) ..).trans ((K.np ..).trans ?_)
   simp only [List.mem_append,h,or_false]
 nd:=by rw [List.append_nil];exact K.nd
 av:=fun x=>by rw [<- K.av];simp
 dn:=K.dn
theorem Kn.done (w:Within E T) (K:Kn E T D O R np) {x:Int} (hx:x∈O):Kn E T (D++[x]) (O.filter fun y=>y≠x) (bG (aB E) (np,R) x).2 (bG (aB E) (np,R) x).1:=by
 have hav:=(K.av x).mp (.inl hx)
 have hxD:=hav.2.1
 refine aJ (List.nodup_append.mp K.nd) fun nO nR nOR=>?_
 have hsx:x∉aB E x:=fun h=>hxD (hav.2.2 (x,x) (bD.mp h) rfl)
 have hys:∀ y∈aB E x,y∉D/\y∉O/\y∉R:=fun y hy=>by
  have he:=bD.mp hy
  refine⟨fun h=>hxD (K.dn y h (x,y) he rfl),fun h=>hxD (((K.av y).mp (.inl h)).2.2 (x,y) he rfl),fun h=>hxD (((K.av y).mp (.inr h)).2.2 (x,y) he rfl)⟩
 have hnp:∀ y∈aB E x,(upd np x (-2)) y=cnt E D y:=fun y hy=>by
  have hyx:y≠x:=fun e=>hsx (e ▸ hy)
  refine aJ (hys y hy) fun h1 h2 _=>?_
  unfold upd
  rw [if_neg hyx,K.np,if_neg h1,if_neg h2]
 have hle:∀ y∈aB E x,((aB E x).count y:Int)<=(upd np x (-2),R).1 y:=fun y hy=>by
  refine (?_:_<=(upd np x (-2)) y)
  refine rwE (hnp y hy) ?_
  have:=dW hxD y (E:=E)
  simp_all +arith
 (obtain⟨h1,ζ3⟩:=oR (aB E x) (upd np x (-2),R) hle;refine d8 ζ3 fun Z h2 h3 h4=>?_;clear ζ3)
 have e1:(bG (aB E) (np,R) x).1=fun y=>(upd np x (-2)) y - (aB E x).count y:=h1
 have e2:(bG (aB E) (np,R) x).2=R++Z:=h2
 refine rwE e1 (rwE e2 ?_)
 have hZ:∀ y,y∈Z↔y∈aB E x/\cnt E (D++[x]) y=0:=fun y=>by
  refine (h4 ..).trans ?_
  constructor
  .rintro⟨hy,h⟩
   refine⟨hy,?_⟩
   have h:(upd np x (-2)) y=(aB E x).count y:=h
   replace h:=((hnp y hy).symm.trans h)
   have:=dW hxD y (E:=E)
   simp_all +arith
  .rintro⟨hy,h⟩
   refine⟨hy,?_⟩
   refine (?_:(upd np x (-2)) y=(aB E x).count y)
   refine (hnp y hy).trans ?_
   have:=dW hxD y (E:=E)
   simp_all
 refine⟨fun y=>?_,?_,fun y=>?_,fun y hy e he hey=>?_⟩
 .by_cases hyx:y=x
  .subst hyx
   have hc:(aB E y).count y=0:=List.count_eq_zero.mpr hsx
   simp only [upd,if_true,hc,List.mem_append,List.mem_singleton,or_true];rfl
  .have hcs:=dW hxD y (E:=E)
   have i1:y∈D++[x]↔y∈D:=by simp [hyx]
   have i2:(y∈O.filter fun y=>y≠x)↔y∈O:=by simp [hyx]
   have i3:upd np x (-2) y=np y:=by unfold upd;exact if_neg hyx
   refine rwE (i3 ..) (rwE (K.np ..) ?_)
   simp only [i1,i2]
   by_cases hm:y∈aB E x
   .refine aJ (hys y hm) fun j1 j2 _=>?_
    refine rwE (if_neg j1) (rwE (if_neg j2) (rwE (if_neg j1) (rwE (if_neg j2) ?_)));simp_all +arith
   .have hc:(aB E x).count y=0:=List.count_eq_zero.mpr hm
    rw [hc] at hcs ⊢
    by_cases k1:y∈D
    .refine rwE (if_pos k1) (rwE (if_pos k1) ?_);rfl
    .refine rwE (if_neg k1) (rwE (if_neg k1) ?_)
     by_cases k2:y∈O
     .refine rwE (if_pos k2) (rwE (if_pos k2) ?_);rfl
     .refine rwE (if_neg k2) (rwE (if_neg k2) ?_);simp_all
 .rw [<- List.append_assoc,List.nodup_append]
  refine⟨List.nodup_append.mpr ⟨nO.filter _,nR,fun a ha b hb=>nOR a (List.mem_filter.mp ha).1 b hb⟩,h3,fun a ha b hb e=>?_⟩
  subst e
  refine aJ (hys a ((hZ a).mp hb).1) fun j1 j2 j3=>?_
  rcases List.mem_append.mp ha with h | h
  .exact j2 (List.mem_filter.mp h).1
  .exact j3 h
 .simp only [List.mem_filter,List.mem_append,decide_eq_true_eq,ne_eq,hZ]
  unfold Av
  rw [<- jZ (D:=D++[x])]
  simp only [List.mem_append,List.mem_singleton,not_or]
  have hk:=dW hxD y (E:=E)
  have ky:=K.av y
  unfold Av at ky
  rw [<- jZ] at ky
  constructor
  .rintro (⟨h,h'⟩ | h | ⟨h,h'⟩)
   .refine aJ (ky.mp (.inl h)) fun a b c=>?_
    exact⟨a,⟨b,h'⟩,by lia⟩
   .refine aJ (ky.mp (.inr h)) fun a b c=>?_
    refine⟨a,⟨b,fun e=>?_⟩,by lia⟩
    subst e;exact nOR _ hx _ h rfl
   .refine aJ (hys y h) fun i1 i2 i3=>?_
    exact⟨(w _ (bD.mp h)).2,⟨i1,fun e=>hsx (e ▸ h)⟩,h'⟩
  ·(intro ζ8;refine aJ ζ8 fun a ζ9 e=>?_;clear ζ8;obtain⟨b,c⟩:=ζ9)
   by_cases hm:y∈aB E x
   .exact .inr (.inr ⟨hm,e⟩)
   .have hc:(aB E x).count y=0:=List.count_eq_zero.mpr hm
    rcases ky.mpr ⟨a,b,by simp_all⟩ with h | h
    .exact .inl ⟨h,c⟩
    .exact .inr (.inl h)
 .rcases List.mem_append.mp hy with h | h
  .exact List.mem_append_left _ (K.dn y h e he hey)
  .rw [List.mem_singleton] at h
   subst h
   exact List.mem_append_left _ (hav.2.2 e he hey)
end
noncomputable def Adj (l:List Int) (a b:Int):Prop:=∃ i,l[i]?=some a/\l[i+1]?=some b
noncomputable def wO (ks:List Nat) (Q:Nat->List Int) (c y:Int):Prop:=∃ a1 k a2,ks=a1++k::a2/\c∈Q k/\y∉Q k/\∀ k'∈a1,y∉Q k'
theorem iU {rows:List (List Int)} {R:Nat->List Int} {c:Int}:∀ {ls:List Nat},pick rows (ls.map R)=some c->∃ l1 k l2,ls=l1++k::l2/\(R k).head?=some c/\eY rows c/\∀ k'∈l1,∀ z,(R k').head?=some z->¬ eY rows z
 | [],h=>by exact nS h
 | k::ls,h=>by
  rw [List.map_cons] at h
  induction hq:R k using List.casesOn with
  | nil =>
   rw [hq,pick] at h
   (refine eE (iU h) fun l1 k' l2 ζ1=>?_;obtain⟨ζ2,ζ3⟩:=ζ1;obtain rfl:=ζ2;refine aJ ζ3 fun h1 h2 h3=>?_;clear ζ3)
   refine Cp (k::l1) k' l2 rfl h1 h2 (fun k'' hk z hz=>?_)
   rcases List.mem_cons.mp hk with rfl | hk
   .rw [hq] at hz;exact nS hz
   .exact h3 k'' hk z hz
  | cons a r =>
   rw [hq,pick] at h
   by_cases ha:eY rows a
   .rw [if_pos ha] at h
    cases h
    exact Cp ([]) k ls rfl (by refine rwE hq ?_;rfl) ha (fun _ hk=>by cases hk)
   .rw [if_neg ha] at h
    (refine eE (iU h) fun l1 k' l2 ζ4=>?_;obtain⟨ζ5,ζ6⟩:=ζ4;obtain rfl:=ζ5;refine aJ ζ6 fun h1 h2 h3=>?_;clear ζ6)
    refine Cp (k::l1) k' l2 rfl h1 h2 (fun k'' hk z hz=>?_)
    rcases List.mem_cons.mp hk with rfl | hk
    .rw [hq] at hz;cases hz;exact ha
    .exact h3 k'' hk z hz
theorem iT {rows:List (List Int)} {R:Nat->List Int}:∀ {ls:List Nat},pick rows (ls.map R)=none->∀ k∈ls,∀ z,(R k).head?=some z->¬ eY rows z
 | [],_,_,h,_,_=>by cases h
 | k::ls,h,k',hk,z,hz=>by
  rw [List.map_cons] at h
  induction hq:R k using List.casesOn with
  | nil =>
   rw [hq,pick] at h
   rcases List.mem_cons.mp hk with rfl | hk
   .rw [hq] at hz;exact nS hz
   .exact iT h k' hk z hz
  | cons a r =>
   rw [hq,pick] at h
   by_cases ha:eY rows a
   .rw [if_pos ha] at h;exact sN h
   .rw [if_neg ha] at h
    rcases List.mem_cons.mp hk with rfl | hk
    .rw [hq] at hz;cases hz;exact ha
    .exact iT h k' hk z hz
theorem dM {α:Type} {p:α->Bool} {k:α}:∀ {l l1 l2:List α},l.filter p=l1++k::l2->∃ a1 a2,l=a1++k::a2/\∀ x∈a1,p x=true->x∈l1
 | [],l1,l2,h=>by induction l1 using List.casesOn<;>exact nC h
 | a::l,l1,l2,h=>by
  rw [List.filter_cons] at h
  by_cases ha:p a=true
  .rw [if_pos ha] at h
   induction l1 using List.casesOn with
   | nil =>
    rw [List.nil_append] at h
    injection h with h1 h2
    subst h1
    exact wV ([]) l rfl (fun _ hx=>by cases hx)
   | cons b l1 =>
    rw [List.cons_append] at h
    injection h with h1 h2
    subst h1
    (refine bq (dM h2) fun a1 a2 ζ7 h3=>?_;obtain rfl:=ζ7)
    refine wV (a::a1) a2 rfl (fun x hx hp=>?_)
    rcases List.mem_cons.mp hx with rfl | hx
    .exact .head _
    .exact .tail _ (h3 x hx hp)
  .rw [if_neg ha] at h
   (refine bq (dM h) fun a1 a2 ζ8 h3=>?_;obtain rfl:=ζ8)
   refine wV (a::a1) a2 rfl (fun x hx hp=>?_)
   rcases List.mem_cons.mp hx with rfl | hx
   .exact absurd hp ha
   .exact h3 x hx hp
structure Mg (ks0:List Nat) (Q:Nat->List Int) (E:List (Int × Int)) (T:List Int):Prop where
 e:∀ a b,(a,b)∈E↔∃ k∈ks0,Adj (Q k) a b
 t:∀ x,x∈T↔∃ k∈ks0,x∈Q k
noncomputable def xr (ks0:List Nat) (Q:Nat->List Int) (E:List (Int × Int)) (T acc:List Int):Prop:=∀ i c,acc[i]?=some c->∀ y,Av E T (acc.take i) y->y≠c->wO ks0 Q c y
structure jP (ks0:List Nat) (Q:Nat->List Int) (E:List (Int × Int)) (T:List Int) (ks:List Nat) (R:Nat->List Int) (acc:List Int):Prop where
 sub:∃ p:Nat->Bool,ks=ks0.filter p
 dead:∀ k∈ks0,k∉ks->R k=[]
 split:∀ k∈ks0,∃ P,Q k=P++R k/\(∀ x∈P,x∈acc)/\∀ x∈R k,x∉acc
 grow:c6 E T acc
 least:xr ks0 Q E T acc
section
variable {ks0:List Nat} {Q:Nat->List Int} {E:List (Int × Int)} {T:List Int} {ks:List Nat} {R:Nat->List Int} {acc:List Int}
theorem jP.live (I:jP ks0 Q E T ks R acc):live ks R=ks0.filter fun k=>R k≠[]:=by
 obtain⟨p,hp⟩:=I.sub
 unfold Mine.live
 have hd:=I.dead
 rw [hp] at hd ⊢
 refine rwE List.filter_filter ?_
 refine List.filter_congr fun k hk=>?_
 by_cases h:p k=true
 .refine rwE h ?_;exact Bool.and_true (decide (R k≠[]))
 .have:=hd k hk (fun hm=>h (List.mem_filter.mp hm).2)
  simp [this]
theorem jP.mem (I:jP ks0 Q E T ks R acc) {k:Nat}:k∈Mine.live ks R↔k∈ks0/\R k≠[]:=by
 rw [I.live,List.mem_filter,decide_eq_true_eq]
theorem jP.head (m:Mg ks0 Q E T) (I:jP ks0 Q E T ks R acc) {y:Int} (a:Av E T acc y):∀ k∈ks0,y∈Q k->(R k).head?=some y/\y∉(R k).tail:=by
 have tail:∀ k∈ks0,y∉(R k).tail:=fun k hk hy=>by
  refine d8 (I.split k hk) fun P hP h1 h2=>?_
  obtain⟨j,hj⟩:=List.mem_iff_getElem?.mp hy
  rw [List.getElem?_tail] at hj
  have hjl:=aa hj
  have hp:∃ b,(R k)[j]?=some b:=⟨_,G6 (by exact G5 hjl)⟩
  obtain⟨b,hb⟩:=hp
  have:(b,y)∈E:=(m.e b y).mpr ⟨k,hk,P.length+j,by refine rwE (hP ..) (rwE ((List.getElem?_append_right (by exact Nat.le_add_right _ _)) ..) (rwE (Nat.add_sub_cancel_left ..) ?_));exact hb,by refine rwE (hP ..) (rwE ((List.getElem?_append_right (by exact G5 (Nat.lt_succ_of_le (Nat.le_add_right (List.length P) j)))) ..) (rwE (Nat.add_assoc ..) (rwE (Nat.add_sub_cancel_left ..) ?_)));exact hj⟩
  exact h2 b (G0 hb) (a.2.2 _ this rfl)
 intro k hk hy
 refine⟨?_,tail k hk⟩
 refine d8 (I.split k hk) fun P hP h1 h2=>?_
 rw [hP,List.mem_append] at hy
 rcases hy with hy | hy
 .exact absurd (h1 y hy) a.2.1
 .have ht:=tail k hk
  induction hq:R k using List.casesOn with
  | nil=>rw [hq] at hy;cases hy
  | cons z r =>
   rw [hq] at hy ht
   rcases List.mem_cons.mp hy with rfl | hy
   .rfl
   .exact absurd hy ht
theorem jP.eY (m:Mg ks0 Q E T) (I:jP ks0 Q E T ks R acc) {y:Int} (a:Av E T acc y):Mine.eY ((Mine.live ks R).map R) y:=by
 intro s hs
 (refine ao (List.mem_map.mp hs) fun k hk ζ9=>?_;obtain rfl:=ζ9)
 have hk0:=(I.mem.mp hk).1
 intro hy
 refine d8 (I.split k hk0) fun P hP h1 h2=>?_
 have:y∈Q k:=by refine rwE hP ?_;exact List.mem_append_right _ (List.mem_of_mem_tail hy)
 exact (I.head m a k hk0 this).2 hy
theorem jP.El (m:Mg ks0 Q E T) (I:jP ks0 Q E T ks R acc) {c:Int} {k:Nat} (hk:k∈Mine.live ks R) (hh:(R k).head?=some c) (ha:Mine.eY ((Mine.live ks R).map R) c):Av E T acc c:=by
 have hk0:=(I.mem.mp hk).1
 have hc:c∈R k:=List.mem_of_head? hh
 refine d8 (I.split k hk0) fun P hP h1 h2=>?_
 have hca:=h2 c hc
 refine⟨(m.t c).mpr ⟨k,hk0,by refine rwE hP ?_;exact List.mem_append_right _ hc⟩,hca,?_⟩
 rintro⟨a,b⟩ he hb
 have hb:b=c:=hb
 subst hb
 (refine ao ((m.e a b).mp he) fun k' hk' Ft=>?_;refine ao Ft fun i hi1 hi2=>?_;clear Ft)
 refine d8 (I.split k' hk') fun P' hP' h1' h2'=>?_
 rw [hP'] at hi1 hi2
 rcases Nat.lt_trichotomy (i+1) P'.length with hi | hi | hi
 .rw [GR hi] at hi2
  exact absurd (h1' b (G0 hi2)) hca
 .rw [GR (by exact aU6 (id (Eq.symm hi)))] at hi1
  exact h1' a (G0 hi1)
 .rw [List.getElem?_append_right (by exact G5 hi)] at hi2
  have hl:=aa hi2
  have hne:R k'≠[]:=fun e=>by rw [e] at hl;simp at hl
  refine absurd ?_ (ha _ (List.mem_map.mpr ⟨k',I.mem.mpr ⟨hk',hne⟩,rfl⟩))
  refine List.mem_iff_getElem?.mpr ⟨i - P'.length,?_⟩
  refine rwE (List.getElem?_tail) (rwS hi2 ?_)
  congr 1
  grind
theorem jP.left (I:jP ks0 Q E T ks R acc) {k:Nat} (hk:k∈ks0):R k=(Q k).filter fun x=>x∉acc:=by
 refine d8 (I.split k hk) fun P hP h1 h2=>?_
 rw [hP,List.filter_append,List.filter_eq_nil_iff.mpr (fun x hx=>by simpa using h1 x hx),List.nil_append,List.filter_eq_self.mpr fun x hx=>by simpa using h2 x hx]
theorem jP.step (m:Mg ks0 Q E T) (I:jP ks0 Q E T ks R acc) {c:Int} (hp:pick ((Mine.live ks R).map R) ((Mine.live ks R).map R)=some c):jP ks0 Q E T (Mine.live ks R) (strip (Mine.live ks R) R c) (acc++[c]):=by
 (refine eE (iU hp) fun l1 k l2 Fp=>?_;refine ek Fp fun hl hh ha hb=>?_;clear Fp)
 have hk:k∈Mine.live ks R:=by refine rwE hl ?_;exact List.mem_append_right _ (.head _)
 have av:=I.El m hk hh ha
 refine⟨⟨_,I.live⟩,fun j hj hn=>?_,fun j hj=>?_,fm I.grow av,fun i x hx y hy hyx=>?_⟩
 .have:R j=[]:=Classical.byContradiction fun h=>hn (I.mem.mpr ⟨hj,h⟩)
  unfold strip
  refine rwE (if_neg fun h=>hn h.1) ?_;exact this
 .refine d8 (I.split j hj) fun P hP h1 h2=>?_
  unfold strip
  by_cases hc:j∈Mine.live ks R/\(R j).head?=some c
  .refine rwE (if_pos hc) ?_
   induction hq:R j using List.casesOn with
   | nil=>rw [hq] at hc;exact nS (hc.2)
   | cons z r =>
    have hz:z=c:=by have:=hc.2;rw [hq] at this;injection this
    subst hz
    refine kC (P++[z]) (by refine rwE (hP ..) (rwE (hq ..) (rwE (List.append_assoc ..) ?_));rfl) (fun x hx=>?_) (fun x hx=>?_)
    .rcases List.mem_append.mp hx with h | h
     .exact List.mem_append_left _ (h1 x h)
     .exact List.mem_append_right _ h
    .have hx:x∈r:=hx
     rw [List.mem_append,List.mem_singleton,not_or]
     refine⟨h2 x (by refine rwE hq ?_;exact .tail _ hx),fun e=>?_⟩
     subst e
     have:=ha _ (List.mem_map.mpr ⟨j,hc.1,rfl⟩)
     rw [hq] at this
     exact this hx
  .refine rwE (if_neg hc) ?_
   refine kC P hP (fun x hx=>List.mem_append_left _ (h1 x hx)) (fun x hx=>?_)
   rw [List.mem_append,List.mem_singleton,not_or]
   refine⟨h2 x hx,fun e=>?_⟩
   subst e
   have hq:=I.head m av j hj (by refine rwE hP ?_;exact List.mem_append_right _ hx)
   exact hc ⟨I.mem.mpr ⟨hj,fun e=>by rw [e] at hx;cases hx⟩,hq.1⟩
 .rcases Nat.lt_trichotomy i acc.length with hi | rfl | hi
  .rw [GR hi] at hx
   rw [List.take_append_of_le_length (G5 hi)] at hy
   exact I.least i x hx y hy hyx
  .rw [List.getElem?_append_right (Nat.le_refl _)] at hx
   simp at hx;subst hx
   rw [List.take_append_of_le_length (Nat.le_refl _),List.take_length] at hy
   have hyq:=I.head m hy
   have hya:=I.eY m hy
   have hl':=I.live
   replace hl':=((hl).symm.trans hl')
   refine bq (dM hl'.symm) fun a1 a2 h3 h4=>?_
   have hk0:k∈ks0:=(I.mem.mp hk).1
   refine⟨a1,k,a2,h3,?_,fun h=>?_,fun k' hk' h=>?_⟩
   .refine ao (I.split k hk0) fun P hP _=>?_
    refine rwE hP ?_;exact List.mem_append_right _ (List.mem_of_head? hh)
   .have:=(hyq k hk0 h).1
    replace this:=((hh).symm.trans this)
    injection this with this
    exact hyx this.symm
   .have hk'0:k'∈ks0:=by refine rwE h3 ?_;exact List.mem_append_left _ hk'
    have hq:=(hyq k' hk'0 h).1
    have hne:R k'≠[]:=fun e=>by rw [e] at hq;exact nS hq
    exact hb k' (h4 k' hk' (by simpa using hne)) y hq hya
  .rw [List.getElem?_append_right (G5 hi),List.getElem?_eq_none (by simp;exact Nat.le_sub_of_add_le' hi)] at hx;exact nS hx
theorem Aj (m:Mg ks0 Q E T):∀ {n:Nat} {ks:List Nat} {R:Nat->List Int} {acc:List Int},jP ks0 Q E T ks R acc->T.length < n+acc.length->match rj n ks R acc with
  | .bad=>False
  | .ok acc' R'=>c6 E T acc'/\(∀ x∈T,x∈acc')/\xr ks0 Q E T acc'/\∀ k∈ks0,R' k=(Q k).filter fun x=>x∉acc'
  | .fail R'=>∃ acc',c6 E T acc'/\mW E T acc'/\(∃ x∈T,x∉acc')/\∀ k∈ks0,R' k=(Q k).filter fun x=>x∉acc'
 | 0,ks,R,acc,I,h=>by have:=gZ I.grow;simp only [Nat.zero_add] at h;grind
 | n+1,ks,R,acc,I,h=>by
  rw [rj]
  by_cases hl:Mine.live ks R=[]
  .refine rwE (if_pos hl) ?_
   refine AQ I.grow (fun x hx=>?_) I.least (fun k hk=>I.left hk)
   refine ao ((m.t x).mp hx) fun k hk hxk=>?_
   refine d8 (I.split k hk) fun P hP h1 _=>?_
   have:R k=[]:=Classical.byContradiction fun hne=>by have:=I.mem.mpr ⟨hk,hne⟩;rw [hl] at this;cases this
   rw [hP,this,List.append_nil] at hxk
   exact h1 x hxk
  .refine rwE (if_neg hl) ?_
   induction hp:pick ((Mine.live ks R).map R) ((Mine.live ks R).map R) with
   | some c=>exact Aj m (I.step m hp) (by refine rwE GY ?_;simp only [List.length_cons,List.length_nil];simp_all +arith)
   | none =>
    refine zR acc I.grow (fun y hy=>?_) ?_ (fun k hk=>I.left hk)
    .refine ao ((m.t y).mp hy.1) fun k hk hyk=>?_
     have hq:=(I.head m hy k hk hyk).1
     have hne:R k≠[]:=fun e=>by rw [e] at hq;exact nS hq
     exact iT hp k (I.mem.mpr ⟨hk,hne⟩) y hq (I.eY m hy)
    .obtain⟨k,hk⟩:∃ k,k∈Mine.live ks R:=by
      induction hq:Mine.live ks R using List.casesOn with
      | nil=>exact absurd hq hl
      | cons k r=>exact⟨k,.head _⟩
     obtain⟨hk0,hne⟩:=I.mem.mp hk
     refine d8 (I.split k hk0) fun P hP _ h2=>?_
     induction hq:R k using List.casesOn with
     | nil=>exact absurd hq hne
     | cons z r =>
      have hz:z∈R k:=by refine rwE hq ?_;exact .head _
      exact aW z ((m.t z).mpr ⟨k,hk0,by refine rwE hP ?_;exact List.mem_append_right _ hz⟩) (h2 z hz)
theorem jP.start:jP ks0 Q E T ks0 Q [] where
 sub:=⟨fun _=>true,(List.filter_eq_self.mpr fun _ _=>rfl).symm⟩
 dead:=fun k hk hn=>absurd hk hn
 split:=fun k _=>⟨[],rfl,(fun _ h=>by cases h),fun _ _ h=>by cases h⟩
 grow:=ia
 least:=fun i x h=>by exact nS h
end
structure Lw (row:Nat->List Int) (prs:List (Int × Int)) (E:List (Int × Int)) (T:List Int) (home:Int->Int):Prop where
 e:∀ a b,(a,b)∈E↔(∃ r,r < 3/\Adj (row r) a b)\/(a,b)∈prs
 t:∀ x,x∈T↔∃ r,r < 3/\x∈row r
 p:∀ a b,(a,b)∈prs->a∈T/\b∈T
 h:∀ r x,r < 3->x∈row r->home x=r
section
variable {row:Nat->List Int} {prs E:List (Int × Int)} {T:List Int} {home:Int->Int}
theorem Adj.mem {l:List Int} {a b:Int} (h:Adj l a b):a∈l/\b∈l:=by
 (refine ao h fun i h1 h2=>?_;clear h)
 exact⟨G0 h1,G0 h2⟩
theorem Lw.within (L:Lw row prs E T home):Within E T:=by
 rintro⟨a,b⟩ he
 rcases (L.e a b).mp he with ⟨r,hr,ha⟩ | h
 .exact⟨(L.t a).mpr ⟨r,hr,ha.mem.1⟩,(L.t b).mpr ⟨r,hr,ha.mem.2⟩⟩
 .exact L.p a b h
theorem Lw.apart (L:Lw row prs E T home) {D:List Int} (hD:∀ x∈D,∀ e∈E,e.2=x->e.1∈D) {x y:Int} (hx:Av E T D x) (hy:Av E T D y) (hne:x≠y):home x≠home y:=by
 intro he
 refine ao ((L.t x).mp hx.1) fun r hr hxr=>?_
 refine ao ((L.t y).mp hy.1) fun r' hr' hyr=>?_
 have:r=r':=by
  have h1:=L.h r x hr hxr
  have h2:=L.h r' y hr' hyr
  exact Int.ofNat.inj (h1.symm.trans (he.trans h2))
 subst this
 obtain⟨i,hi⟩:=List.mem_iff_getElem?.mp hxr
 obtain⟨j,hj⟩:=List.mem_iff_getElem?.mp hyr
 have down:∀ (d i j:Nat) (x y:Int),j=i+d+1->(row r)[i]?=some x->(row r)[j]?=some y->(∀ e∈E,e.2=y->e.1∈D)->x∈D:=by
  intro d
  induction d with
  | zero =>
   intro i j x y hij hi hj hq
   subst hij
   exact hq (x,y) ((L.e x y).mpr (.inl ⟨r,hr,i,hi,hj⟩)) rfl
  | succ d ih =>
   intro i j x y hij hi hj hq
   subst hij
   obtain⟨z,hz⟩:∃ z,(row r)[i+d+1]?=some z:=⟨_,G6 (by have:=aa hj;exact G5 this)⟩
   have hzD:=hq (z,y) ((L.e z y).mpr (.inl ⟨r,hr,i+d+1,hz,by refine rwS hj ?_;congr 1⟩)) rfl
   exact ih i (i+d+1) x z rfl hi hz (hD z hzD)
 rcases Nat.lt_trichotomy i j with h | h | h
 .obtain⟨k,hk⟩:=Nat.exists_eq_add_of_lt h
  exact hx.2.1 (down k i j x y hk hi hj hy.2.2)
 .subst h;rw [hi] at hj;cases hj;exact hne rfl
 .obtain⟨k,hk⟩:=Nat.exists_eq_add_of_lt h
  exact hy.2.1 (down k j i y x hk hj hi hx.2.2)
theorem vJ {rk:Int->Nat} {acc run:List Int} (ga:c6 E T acc) (gr:c6 E T run) (hl:acc.length=run.length)
  (la:∀ i c,acc[i]?=some c->∀ y,Av E T (acc.take i) y->y≠c->rk c < rk y) :
  acc=run↔∀ i c,run[i]?=some c->∀ y,Av E T (run.take i) y->y≠c->rk c < rk y:=by
 constructor
 .rintro rfl;exact la
 .intro lr
  have main:∀ i,i<=acc.length->acc.take i=run.take i:=by
   intro i
   induction i with
   | zero=>intro _;simp
   | succ i ih =>
    intro hi
    have ih:=ih (by exact G5 hi)
    obtain⟨a,ha⟩:∃ a,acc[i]?=some a:=⟨_,G6 (by exact hi)⟩
    obtain⟨b,hb⟩:∃ b,run[i]?=some b:=⟨_,G6 (by exact GW hi hl)⟩
    refine rwE (take_snoc ha) (rwE (take_snoc hb) (rwE ih ?_))
    have hab:a=b:=Classical.byContradiction fun hne=>by
     have h1:=la i a ha b (by refine rwE ih ?_;exact gr i b hb) (Ne.symm hne)
     have h2:=lr i b hb a (by refine rwS ih ?_;exact ga i a ha) hne
     exact Nat.lt_asymm h1 h2
    exact rwE hab rfl
  have:=main acc.length (Nat.le_refl _)
  rwa [List.take_length,hl,List.take_length] at this
end
noncomputable def orders:List (List Int):=[[0,1,2],[0,2,1],[1,0,2],[1,2,0],[2,0,1],[2,1,0]]
theorem E0 {x:Int}:x∈([0,1,2]:List Int)↔x=0\/x=1\/x=2:=by simp
theorem aX {o:List Int} (h:o∈orders):o.Nodup/\o.length=3/\(∀ x,x∈o↔x=0\/x=1\/x=2):=by
 unfold orders at h
 simp only [List.mem_cons,List.not_mem_nil,or_false] at h
 rcases h with rfl | rfl | rfl | rfl | rfl | rfl<;>exact⟨by decide,rfl,fun x=>(List.Perm.mem_iff (l₂:=[0,1,2]) (by decide)).trans E0⟩
theorem gB {o:List Int} {x:Int} {k:Nat} (h:x∈o.take k):o.idxOf x < k:=by
 obtain⟨i,hi⟩:=List.mem_iff_getElem?.mp h
 have h1:=aa hi
 rw [List.length_take] at h1
 have h1:=GU h1 (Nat.min_le_left ..)
 rw [List.getElem?_take_of_lt h1] at hi
 have:o.idxOf x<=i:=by
  refine Nat.le_of_not_lt fun hlt=>?_
  have:=List.not_of_lt_findIdx (p:=fun a=>a == x) hlt
  rw [(List.getElem?_eq_some_iff.mp hi).2] at this
  simp at this
 exact GV this h1
theorem fy {o:List Int} (hn:o.Nodup) {i:Nat} {x:Int} (h:o[i]?=some x):o.idxOf x=i:=by
 obtain⟨hl,he⟩:=List.getElem?_eq_some_iff.mp h
 have h1:=List.idxOf_lt_length_of_mem (G0 h)
 have h2:=List.getElem_idxOf h1
 exact (List.getElem_inj hn).mp (h2.trans he.symm)
theorem qf {G:List (Int × Int)} {o:List Int} (ho:o∈orders) (w:Within G [0,1,2]):c6 G [0,1,2] o↔∀ e∈G,o.idxOf e.1 < o.idxOf e.2:=by
 refine aJ (aX ho) fun hn hl hm=>?_
 have hmem:∀ x,x∈([0,1,2]:List Int)↔x∈o:=fun x=>by rw [hm];simp
 constructor
 .intro g e he
  have hb:e.2∈o:=(hmem _).mp (w e he).2
  have hlt:=List.idxOf_lt_length_of_mem hb
  have:=g (o.idxOf e.2) e.2 (by exact rwE (G6 hlt) (rwE (List.getElem_idxOf hlt) rfl))
  exact gB (this.2.2 e he rfl)
 .intro h i x hx
  have hi:=fy hn hx
  refine⟨(hmem x).mpr (G0 hx),fun hq=>by have:=gB hq;exact Nat.ne_of_lt this hi,fun e he hex=>?_⟩
  have:=h e he
  rw [hex,hi] at this
  have ha:e.1∈o:=(hmem _).mp (w e he).1
  have hlt:=List.idxOf_lt_length_of_mem ha
  exact List.mem_iff_getElem?.mpr ⟨o.idxOf e.1,by exact rwE (List.getElem?_take_of_lt this) (rwE (G6 hlt) (rwE (List.getElem_idxOf hlt) rfl))⟩
theorem pO {su:Int->List Int}:∀ {B:List Int},mT su B->∀ a∈B,∀ b∈su a,B.idxOf a < B.idxOf b
 | x::B,t,a,ha,b,hb=>by
  have hxB:=t.2.1
  have hbB:b∈B:=by
   rcases List.mem_cons.mp ha with rfl | ha
   .exact t.1 b hb
   .exact eT t.2.2 a ha b hb
  have hbx:¬ x=b:=fun e=>hxB (e ▸ hbB)
  refine rwE List.idxOf_cons (rwE List.idxOf_cons ?_)
  have e2:(x == b)=false:=by simpa using hbx
  refine rwE e2 ?_
  rcases List.mem_cons.mp ha with rfl | ha
  .simp
  .by_cases e:x=a
   .subst e;exact absurd ha hxB
   .have e1:(x == a)=false:=by simpa using e
    refine rwE e1 ?_
    have:=pO t.2.2 a ha b hb
    simpa using this
theorem kH {G:List (Int × Int)} {B:List Int} (w:Within G [0,1,2]) (t:mT (aB G) B) (hB:∀ x∈([0,1,2]:List Int),x∈B):∃ o∈orders,∀ e∈G,o.idxOf e.1 < o.idxOf e.2:=by
 have h0:=hB 0 (by exact .head _)
 have h1:=hB 1 (by exact .tail _ (.head _))
 have h2:=hB 2 (by trivial)
 have inj:∀ a b,a∈B->B.idxOf a=B.idxOf b->b∈B->a=b:=fun a b ha e hb=>by
  have l1:=List.idxOf_lt_length_of_mem ha
  have l2:=List.idxOf_lt_length_of_mem hb
  have g1:=List.getElem_idxOf l1
  have g2:=List.getElem_idxOf l2
  refine rwS g1 (rwS g2 ?_);congr 1
 have n01:B.idxOf 0≠B.idxOf 1:=fun e=>absurd (inj 0 1 h0 e h1) (by decide)
 have n02:B.idxOf 0≠B.idxOf 2:=fun e=>absurd (inj 0 2 h0 e h2) (by decide)
 have n12:B.idxOf 1≠B.idxOf 2:=fun e=>absurd (inj 1 2 h1 e h2) (by decide)
 have ed:∀ e∈G,(e.1=0\/e.1=1\/e.1=2)/\(e.2=0\/e.2=1\/e.2=2)/\B.idxOf e.1 < B.idxOf e.2:=fun e he=>by
  obtain⟨w1,w2⟩:=w e he
  refine⟨by simpa using w1,by simpa using w2,pO t _ (hB _ w1) _ (bD.mpr he)⟩
 have fin:∀ (o:List Int),o∈orders->(∀ a b:Int,(a=0\/a=1\/a=2)->(b=0\/b=1\/b=2)->B.idxOf a < B.idxOf b->o.idxOf a < o.idxOf b)->∃ o∈orders,∀ e∈G,o.idxOf e.1 < o.idxOf e.2:=fun o ho h=>⟨o,ho,fun e he=>h _ _ (ed e he).1 (ed e he).2.1 (ed e he).2.2⟩
 have gt:∀ {x y:Nat},¬ x < y->x≠y->y < x:=fun h n=>Nat.lt_of_le_of_ne (Nat.le_of_not_lt h) (Ne.symm n)
 by_cases c01:B.idxOf 0 < B.idxOf 1
 .by_cases c12:B.idxOf 1 < B.idxOf 2
  .refine fin [0,1,2] (by decide) ?_
   have l1:=c01;have l2:=c12
   rintro a b (rfl | rfl | rfl) (rfl | rfl | rfl) hab<;>first | decide | exact absurd hab (Nat.lt_irrefl _) | exact absurd hab (Nat.lt_asymm l1) | exact absurd hab (Nat.lt_asymm l2) | exact absurd hab (Nat.lt_asymm (Nat.lt_trans l1 l2))
  .have d12:=gt c12 n12
   by_cases c02:B.idxOf 0 < B.idxOf 2
   .refine fin [0,2,1] (by decide) ?_
    have l1:=c02;have l2:=d12
    rintro a b (rfl | rfl | rfl) (rfl | rfl | rfl) hab<;>first | decide | exact absurd hab (Nat.lt_irrefl _) | exact absurd hab (Nat.lt_asymm l1) | exact absurd hab (Nat.lt_asymm l2) | exact absurd hab (Nat.lt_asymm (Nat.lt_trans l1 l2))
   .refine fin [2,0,1] (by decide) ?_
    have l1:=gt c02 n02;have l2:=c01
    rintro a b (rfl | rfl | rfl) (rfl | rfl | rfl) hab<;>first | decide | exact absurd hab (Nat.lt_irrefl _) | exact absurd hab (Nat.lt_asymm l1) | exact absurd hab (Nat.lt_asymm l2) | exact absurd hab (Nat.lt_asymm (Nat.lt_trans l1 l2))
 .have d01:=gt c01 n01
  by_cases c12:B.idxOf 1 < B.idxOf 2
  .by_cases c02:B.idxOf 0 < B.idxOf 2
   .refine fin [1,0,2] (by decide) ?_
    have l1:=d01;have l2:=c02
    rintro a b (rfl | rfl | rfl) (rfl | rfl | rfl) hab<;>first | decide | exact absurd hab (Nat.lt_irrefl _) | exact absurd hab (Nat.lt_asymm l1) | exact absurd hab (Nat.lt_asymm l2) | exact absurd hab (Nat.lt_asymm (Nat.lt_trans l1 l2))
   .refine fin [1,2,0] (by decide) ?_
    have l1:=c12;have l2:=gt c02 n02
    rintro a b (rfl | rfl | rfl) (rfl | rfl | rfl) hab<;>first | decide | exact absurd hab (Nat.lt_irrefl _) | exact absurd hab (Nat.lt_asymm l1) | exact absurd hab (Nat.lt_asymm l2) | exact absurd hab (Nat.lt_asymm (Nat.lt_trans l1 l2))
  .refine fin [2,1,0] (by decide) ?_
   have l1:=gt c12 n12;have l2:=d01
   rintro a b (rfl | rfl | rfl) (rfl | rfl | rfl) hab<;>first | decide | exact absurd hab (Nat.lt_irrefl _) | exact absurd hab (Nat.lt_asymm l1) | exact absurd hab (Nat.lt_asymm l2) | exact absurd hab (Nat.lt_asymm (Nat.lt_trans l1 l2))
noncomputable def cZ:Fn:=fnN 10
noncomputable def aP:Fn:=fnN 11
noncomputable def iM:Fn:=fnN 12
noncomputable def bc:Fn:=fnN 13
noncomputable def aL:Fn:=fnN 14
noncomputable def aE:Fn:=fnN 15
noncomputable def aC:Fn:=fnN 16
theorem AH:prog.fn 151=some cZ:=by rfl
theorem AI:prog.fn 158=some aP:=by rfl
theorem AJ:prog.fn 165=some iM:=by rfl
theorem AK:prog.fn 172=some bc:=by rfl
theorem AL:prog.fn 179=some aL:=by rfl
theorem AM:prog.fn 184=some aE:=by rfl
noncomputable def IL (H:List O) (v:V) (l:List Int):Prop:=∃ k,v=.ref k/\H[k]?=some (.list (l.map .int))
noncomputable def ILs (H:List O):List V->List (List Int)->Prop
 | [],[]=>True
 | v::vs,l::ls=>IL H v l/\ILs H vs ls
 | _,_=>False
structure Ext (H H':List O):Prop where
 len:H.length<=H'.length
 keep:∀ j,j < H.length->H'[j]?=H[j]?
theorem Ext.refl {H:List O}:Ext H H:=⟨Nat.le_refl _,fun _ _=>rfl⟩
theorem Ext.trans {H H' H'':List O} (a:Ext H H') (b:Ext H' H''):Ext H H'':=⟨GS a.len b.len,fun j hj=>by exact (b.keep j (GU hj a.len)).trans (a.keep j hj)⟩
theorem Ext.app {H t:List O}:Ext H (H++t):=⟨by simp,fun j hj=>GR hj⟩
theorem Ext.get {H H':List O} (a:Ext H H') {j:Nat} {o:O} (h:H[j]?=some o):H'[j]?=some o:=by refine (a.keep j (aa h)).trans ?_;exact h
theorem Ext.set {H H':List O} (a:Ext H H') {j:Nat} {o:O} (h:H.length<=j):Ext H (H'.set j o):=⟨by refine rwE List.length_set ?_;exact a.len,fun i hi=>by refine (af (by lia)).trans ?_;exact a.keep i hi⟩
theorem IL.ext {H H':List O} (a:Ext H H') {v:V} {l:List Int}:IL H v l->IL H' v l:=fun ⟨k,h1,h2⟩=>⟨k,h1,a.get h2⟩
theorem ILs.ext {H H':List O} (a:Ext H H'):∀ {vs:List V} {ls:List (List Int)},ILs H vs ls->ILs H' vs ls
 | [],[],_=>trivial
 | _::_,_::_,h=>⟨h.1.ext a,ILs.ext a h.2⟩
theorem ILs.len {H:List O}:∀ {vs:List V} {ls:List (List Int)},ILs H vs ls->vs.length=ls.length
 | [],[],_=>rfl
 | _::_,_::_,h=>by exact rwE List.length_cons (rwE List.length_cons (rwE (ILs.len h.2) rfl))
theorem ILs.at {H:List O}:∀ {vs:List V} {ls:List (List Int)} {i:Nat} {v:V},ILs H vs ls->vs[i]?=some v->∃ l,ls[i]?=some l/\IL H v l
 | [],[],_,_,_,h=>by exact nS h
 | v::vs,l::ls,0,w,h,e=>by cases e;exact aW l rfl h.1
 | v::vs,l::ls,i+1,w,h,e=>ILs.at (vs:=vs) (ls:=ls) h.2 e
theorem ILs.snoc {H:List O}:∀ {vs:List V} {ls:List (List Int)} {v:V} {l:List Int},ILs H vs ls->IL H v l->ILs H (vs++[v]) (ls++[l])
 | [],[],_,_,_,h=>⟨h,trivial⟩
 | _::_,_::_,_,_,h,h'=>⟨h.1,ILs.snoc h.2 h'⟩
theorem ILs.app {H:List O}:∀ {vs ws:List V} {ls ms:List (List Int)},ILs H vs ls->ILs H ws ms->ILs H (vs++ws) (ls++ms)
 | [],_,[],_,_,h=>h
 | _::_,_,_::_,_,h,h'=>⟨h.1,ILs.app h.2 h'⟩
theorem Cj {H:List O} {fs:Str->Option V} (hH:0 < H.length) (h1:fs (Str.ofString "_node2info")=some (.ref (H.length+1))) (h2:fs (Str.ofString "_ready_nodes")=some .none) (h3:fs (Str.ofString "_npassedout")=some (.int 0)) (h4:fs (Str.ofString "_nfinished")=some (.int 0)) :
  Srt (H++[.inst aTS fs,.dict [] 0]) ⟨H.length,H.length+1,H.length,fun _=>0,fun _=>0⟩ [] (fun _=>0) (fun _=>[]) none where
 pos:=⟨hH,by refine (?_:0 < H.length+1);exact Nat.le.step hH,hH,fun x hx=>by cases hx⟩
 nd:=List.nodup_nil
 inst:=⟨fs,by simp,h1,h2,⟨0,h3⟩,⟨0,h4⟩⟩
 dict:=⟨0,by exact qb rfl⟩
 info:=fun x hx=>by cases hx
 succ:=fun x hx=>by cases hx
 ready:=rfl
 inj:=fun x hx=>by cases hx
 out:=fun _ _=>⟨rfl,rfl⟩
theorem wW {ns:List Int} {x:Int} (h:x∈ns):ins ns x=ns:=by unfold ins;exact if_pos h
theorem ye {ns:List Int} {x:Int} (h:x∉ns):ins ns x=ns++[x]:=by unfold ins;exact if_neg h
theorem uH {E:List (Int × Int)} {a b:Int}:(fun x=>(cnt (E++[(a,b)]) [] x:Int))=upd (fun x=>(cnt E [] x:Int)) b (cnt E [] b+([a]:List Int).length):=by
 funext x
 unfold cnt upd
 refine rwE (List.filter_append ..) (rwE (GY ..) ?_)
 by_cases h:x=b
 .subst h;simp
 .have:¬ b=x:=fun e=>h e.symm
  simp [h,this]
theorem qL {E:List (Int × Int)} {a b:Int}:aB (E++[(a,b)])=d7 (aB E) b [a]:=by
 funext x
 unfold aB d7 upd
 refine rwE (List.filter_append ..) (rwE (List.map_append ..) ?_)
 simp only [List.foldl_cons,List.foldl_nil]
 by_cases h:x=a
 .subst h;simp
 .have:¬ a=x:=fun e=>h e.symm
  simp [h,this]
noncomputable def qJ:List Stmt:=bodyOf (nth aP.body 1)
noncomputable def qK:List Stmt:=bodyOf (nth aP.body 2)
section
variable {d:Nat} {σ:Mine.St} {r:SR} {ns:List Int} {np:Int->Int} {su:Int->List Int} {p a:Int} {Q:Fl->Mine.St->Prop} {X:V->Mine.St->Prop} (S:Srt σ.H r ns np su none)
include S
theorem zH (hz:ns.length+0+1<=big) (hs:∀ y,(su y).length+0 < big) (m1:σ.m (Str.ofString "sorter")=some (.ref r.s)) (m2:σ.m (Str.ofString "thing")=some (.int p))
  (h:∀ H' r',Srt H' r' (jQ ns p []) (upd np p (np p+([]:List Int).length)) (d7 su p []) none->Apart σ.H r ns H' r' (jQ ns p [])->Q .next ⟨H',σ.m⟩):a7 (prog.at (d+3)) qJ aP.scope [] σ Q X:=by
 have hb:qJ=[nth qJ 0]:=rfl
 rw [hb,bU]
 clear hb
 have e0:nth qJ 0=nth qJ 0:=rfl
 conv at e0=>rhs;whnf
 rw [e0]
 clear e0
 refine ao (S.inst) fun fs g1 _=>?_
 wp_walk using 6,m1,m2,g1
 refine oE (x:=p) (ps:=[]) S hz hs fun H' r' S' A'=>?_
 exact h H' r' S' A'
theorem zI (hz:ns.length+1+1<=big) (hs:∀ y,(su y).length+1 < big) (m1:σ.m (Str.ofString "sorter")=some (.ref r.s)) (m2:σ.m (Str.ofString "ahead")=some (.int a)) (m3:σ.m (Str.ofString "behind")=some (.int p))
  (h:∀ H' r',Srt H' r' (jQ ns p [a]) (upd np p (np p+([a]:List Int).length)) (d7 su p [a]) none->Apart σ.H r ns H' r' (jQ ns p [a])->Q .next ⟨H',σ.m⟩):a7 (prog.at (d+3)) qK aP.scope [] σ Q X:=by
 have hb:qK=[nth qK 0]:=rfl
 rw [hb,bU]
 clear hb
 have e0:nth qK 0=nth qK 0:=rfl
 conv at e0=>rhs;whnf
 rw [e0]
 clear e0
 refine ao (S.inst) fun fs g1 _=>?_
 wp_walk using 6,m1,m2,m3,g1
 refine oE (x:=p) (ps:=[a]) S hz hs fun H' r' S' A'=>?_
 exact h H' r' S' A'
end
theorem jM {H H0 H':List O} {r':SR} {T:List Int} {f g:Int->Nat} (hl:H0.length=H.length+2) (X0:Ext H H0) (A:Apart H0 ⟨H.length,H.length+1,H.length,f,g⟩ [] H' r' T):Ext H H':=
 ⟨GS X0.len A.len,fun j hj=>(A.keep j (GU hj X0.len) (by
  rintro (h | h | h | ⟨x,hx,_⟩)
  .exact Nat.ne_of_lt hj h
  .exact Nat.ne_of_lt (Nat.lt_succ_of_lt hj) h
  .exact Nat.ne_of_lt hj h
  .cases hx)).trans (X0.keep j hj)⟩
theorem dD {d:Nat} {H:List O} {kt ks:Nat} {T:List Int} {E:List (Int × Int)} {vs:List V} {Q X:V->List O->Prop} (ht:H[kt]?=some (.list (T.map .int))) (hs:H[ks]?=some (.list vs)) (hv:ILs H vs (E.map fun e=>[e.1,e.2]))
  (hT:T.Nodup) (hw:Within E T) (hz:T.length<=1000) (hz2:E.length<=1000)
  (h:∀ H' r,Srt H' r T (fun x=>cnt E [] x) (aB E) none->Ext H H'->(∀ j,Own r T j->H.length<=j)->Q (.ref r.s) H'):prog.bP (d+4) 158 [.ref kt,.ref ks] H Q X:=by
 rw [bx AI]
 have hb0:aP.body=[nth aP.body 0,nth aP.body 1,nth aP.body 2,nth aP.body 3]:=rfl
 rw [cO hb0 (ps:=[Str.ofString "things",Str.ofString "steps"]) rfl rfl rfl rfl]
 have e0:nth aP.body 0=nth aP.body 0:=rfl
 have e3:nth aP.body 3=nth aP.body 3:=rfl
 conv at e0=>rhs;whnf
 conv at e3=>rhs;whnf
 have e1:∃ p1 p2 p3,nth aP.body 1=.For (.Name (Str.ofString "thing") p1) (.Name (Str.ofString "things") p2) qJ [] p3:=⟨_,_,_,rfl⟩
 obtain⟨_,_,_,e1⟩:=e1
 have e2:∃ k p0 p1 p2 p3 p4,nth aP.body 2=.For (.Tuple [.Name (Str.ofString "ahead") p1,.Name (Str.ofString "behind") p2] k p0) (.Name (Str.ofString "steps") p3) qK [] p4:=⟨_,_,_,_,_,_,rfl⟩
 obtain⟨_,_,_,_,_,_,e2⟩:=e2
 rw [e0,e1,e2,e3]
 clear e0 e1 e2 e3
 clear hb0
 have hH:0 < H.length:=by have:=aa ht;exact Nat.zero_lt_of_lt this
 wp_walk using 6,aj
 refine Ci hH fun fs f1 f2 f3 f4=>?_
 have S0:=Cj hH f1 f2 f3 f4
 generalize hH0:H++[O.inst aTS fs,O.dict [] 0]=H0 at S0
 have X0:Ext H H0:=by refine rwS hH0 ?_;exact Ext.app
 have ht0:=X0.get ht
 have hs0:=X0.get hs
 have hl0:H0.length=H.length+2:=by refine rwS hH0 ?_;exact GY ..
 wp_walk using 6,ht0
 refine br (fun i σ=>∃ r',Srt σ.H r' (T.take i) (fun _=>0) (fun _=>[]) none/\Apart H0 ⟨H.length,H.length+1,H.length,fun _=>0,fun _=>0⟩ [] σ.H r' (T.take i)/\σ.m (Str.ofString "sorter")=some (.ref H.length)/\σ.m (Str.ofString "steps")=some (.ref ks))
  ⟨_,by rw [List.take_zero];exact S0,by refine rwE List.take_zero ?_;exact Apart.refl,rfl,rfl⟩ ?_ ?_
 ·(intro i it σ R hi ζ7;refine bW ζ7 fun r' S' A' m1 m2=>?_;clear ζ7;intro hR)
  (refine ao (bA hi) fun p hp ζ1=>?_;obtain rfl:=ζ1)
  have old:Ext H σ.H:=jM hl0 X0 A'
  refine⟨aq ht0 rfl (old.get ht),?_⟩
  have hs':r'.s=H.length:=A'.s
  have hpl:=aa hp
  refine rwE gA (rwE (dN (n:=.local) rfl (.inl rfl) List.not_mem_nil) ?_)
  refine zH (p:=p) S' (GS (Nat.succ_le_succ (List.length_take_le ..)) (GS (Nat.succ_le_succ (GS (G5 hpl) hz)) (by decide))) (fun y=>by decide) (hs' ▸ m1) rfl ?_
  .intro H' r2 S2 A2
   have hnd:(T.take i++[p]).Nodup:=take_snoc hp ▸ (List.take_sublist (i+1) T).nodup hT
   have hnp:p∉T.take i:=fun hm=>(List.nodup_append.mp hnd).2.2 p hm p (.head _) rfl
   have e1:jQ (T.take i) p []=T.take (i+1):=by
    refine rwE (take_snoc hp) ?_
    refine (?_:ins (T.take i) p=_)
    exact ye hnp
   have e2:upd (fun _:Int=>(0:Int)) p ((0:Int)+([]:List Int).length)=fun _=>0:=by funext y;unfold upd;split<;>rfl
   have e3:d7 (fun _:Int=>([]:List Int)) p []=fun _=>[]:=rfl
   rw [e1] at S2 A2
   rw [e2,e3] at S2
   refine hR _ ⟨r2,S2,A'.trans A2,m1,m2⟩
 (intro σ ζ8;refine bW ζ8 fun r1 S1 A1 m1 m2=>?_;clear ζ8)
 rw [GX,GX,List.take_length] at S1 A1
 have hs1:=(jM hl0 X0 A1).get hs
 refine⟨aq ht0 rfl ((jM hl0 X0 A1).get ht),?_⟩
 wp_walk using 6,m1,m2,hs1
 refine br (fun i τ=>∃ r',Srt τ.H r' T (fun x=>cnt (E.take i) [] x) (aB (E.take i)) none/\Apart H0 ⟨H.length,H.length+1,H.length,fun _=>0,fun _=>0⟩ [] τ.H r' T/\τ.m (Str.ofString "sorter")=some (.ref H.length))
  ⟨r1,S1,A1,m1⟩ ?_ ?_
 ·(intro i it τ R hi ζ9;refine d8 ζ9 fun r' S' A' k1=>?_;clear ζ9;intro hR)
  obtain⟨v,hv1,rfl⟩:∃ v,vs[i]?=some v/\it=.one v:=by
   simp only [G3,Option.map_eq_some_iff] at hi
   (refine ao hi fun v h1 ζ2=>?_;clear hi;obtain rfl:=ζ2)
   exact aW v h1 rfl
  (refine ao (hv.at hv1) fun l hl1 ζ3=>?_;refine ao ζ3 fun q ζ4 hq=>?_;clear ζ3;obtain rfl:=ζ4)
  rw [G3,Option.map_eq_some_iff] at hl1
  (refine ao hl1 fun ζ5 he ζ6=>?_;clear hl1;obtain⟨a,b⟩:=ζ5;obtain rfl:=ζ6)
  have X':=jM hl0 X0 A'
  have hq':τ.H[q]?=some (.list [.int a,.int b]):=X'.get hq
  obtain⟨wa,wb⟩:=hw (a,b) (G0 he)
  refine⟨aq hs1 rfl (X'.get hs),?_⟩
  have hs':r'.s=H.length:=A'.s
  have hpl:=G5 (aa he)
  wp_walk using 6,aj
  refine zI (p:=b) (a:=a) S' (GS (Nat.add_le_add_right hz 2) (by decide)) (fun y=>GV (Nat.succ_le_succ (GS bg (GS (List.length_take_le' ..) hz2))) (by decide)) (hs' ▸ k1) rfl rfl ?_
  .intro H' r2 S2 A2
   have e1:jQ T b [a]=T:=by unfold jQ;exact rwE List.foldl_cons (rwE List.foldl_nil (rwE (wW wb) (rwE (wW wa) rfl)))
   rw [e1] at S2 A2
   rw [<- uH,<- qL,<- take_snoc he] at S2
   exact hR _ ⟨r2,S2,A'.trans A2,k1⟩
 ·(intro τ Ft;refine d8 Ft fun r' S' A' k1=>?_;clear Ft)
  have hlen:vs.length=E.length:=by exact (hv.len ..).trans (GX ..)
  rw [GX,hlen,List.take_length] at S'
  refine⟨aq hs1 rfl ((jM hl0 X0 A').get hs),?_⟩
  wp_walk using 6,k1
  have e:=A'.s
  have e:r'.s=H.length:=e
  refine rwS e ?_
  refine h _ r' S' (jM hl0 X0 A') fun j hj=>?_
  rcases A'.own j hj with hq | hq
  .rcases hq with h | h | h | ⟨x,hx,_⟩
   .exact Nat.le_of_eq h.symm
   .exact GS (Nat.le_succ _) (Nat.le_of_eq h.symm)
   .exact Nat.le_of_eq h.symm
   .cases hx
  .exact GS (aU2 hl0) hq
noncomputable def bF (su:Int->List Int) (n:Nat) (T:List Int):Bool:=match bO su n [] T with
 | .ring _=>false
 | _=>true
theorem eO {d:Nat} {H:List O} {r:SR} {T:List Int} {np:Int->Int} {su:Int->List Int} {n:Nat} {Q X:V->List O->Prop} (S:Srt H r T np su none) (hsu:∀ x,∀ y∈su x,y∈T) (hz:T.length<=900) (hb:∀ x,(su x).length<=big)
  (hbad:bO su n [] T≠.bad) (hring:∀ l,bO su n [] T=.ring l->l≠[])
  (h:∀ H' r',Srt H' r' T np su (some (T.filter fun x=>np x=0))->Apart H r T H' r' T->Q (.bool (bF su n T)) H'):prog.bP (d+3) 165 [.ref r.s] H Q X:=by
 refine rwE (bx AJ) ?_
 have hb0:iM.body=iM.body:=rfl
 conv at hb0=>rhs;whnf
 rw [cO hb0 (ps:=[Str.ofString "sorter"]) rfl rfl rfl rfl]
 clear hb0
 refine ao (S.inst) fun fs f1 _=>?_
 wp_walk using 6,f1
 refine mi S hsu hz hb hbad (fun H' r' S' A'=>?_) hring
 have h:=h H' r' S' A'
 unfold bF at h
 induction hg:bO su n [] T with
 | bad=>exact absurd hg hbad
 | fin s =>
  rw [hg] at h
  dsimp only
  wp_walk using 6,f1
  exact h
 | ring l =>
  rw [hg] at h
  dsimp only
  intro hl e vs he hel
  wp_walk using 6,he
  exact h
theorem oZ {E:List (Int × Int)} {T:List Int}:∀ {f g:List Int},c6 E T g->f.Nodup->(∀ x∈f,Av E T g x)->c6 E T (g++f)
 | [],g,h,_,_=>by refine rwE (List.append_nil ..) ?_;exact h
 | x::f,g,h,hn,ha=>by
  obtain⟨h1,h2⟩:=List.nodup_cons.mp hn
  have:=oZ (f:=f) (g:=g++[x]) (fm h (ha x (.head _))) h2 fun y hy=>by
   refine aJ (ha y (.tail _ hy)) fun a b c=>?_
   refine⟨a,?_,fun e he hey=>List.mem_append_left _ (c e he hey)⟩
   rw [List.mem_append,List.mem_singleton,not_or]
   exact⟨b,fun e=>h1 (e ▸ hy)⟩
  rwa [List.append_assoc] at this
theorem w0 {E:List (Int × Int)} {T:List Int} (w:Within E T):∀ {xs D R:List Int} {np:Int->Int},Kn E T D xs R np->jn (aB E) T (np,R) xs/\Kn E T (D++xs) [] (xs.foldl (bG (aB E)) (np,R)).2 (xs.foldl (bG (aB E)) (np,R)).1
 | [],D,R,np,K=>⟨trivial,by refine rwE (List.append_nil ..) ?_;exact K⟩
 | x::xs,D,R,np,K=>by
  have K1:=K.done w (.head _)
  have hn:=List.nodup_append.mp K.nd
  have hx:=List.nodup_cons.mp hn.1
  have e:((x::xs).filter fun y=>decide (y≠x))=xs:=by
   refine List.filter_cons.trans ?_
   simp only [ne_eq,not_true_eq_false,decide_false,Bool.false_eq_true,if_false]
   exact List.filter_eq_self.mpr fun y hy=>by simp;exact fun e=>hx.1 (e ▸ hy)
  rw [e] at K1
  obtain⟨h1,h2⟩:=w0 w (xs:=xs) K1
  rw [List.append_assoc] at h2
  have hav:=(K.av x).mp (.inl (.head _))
  exact⟨⟨hav.1,by refine (?_:np x=-1);exact (K.np ..).trans (((if_neg hav.2.1) ..).trans ((if_pos (.head _)) ..)),h1⟩,h2⟩
theorem eG:∀ (l m:List Int),PyData.eqvAll (l.map .int) (m.map .int)=decide (l=m)
 | [],[]=>by rfl
 | [],_::_=>by rfl
 | _::_,[]=>by rfl
 | x::l,y::m=>by
  rw [List.map_cons,List.map_cons,PyData.eqvAll,eG l m,j6]
  by_cases h:x=y<;>by_cases h2:l=m<;>simp [h,h2]
noncomputable def liD (l:List Int):PyData:=.list (l.map .int)
theorem nq (l m:List Int):PyData.eqv (liD l) (liD m)=decide (l=m):=by
 unfold liD;rw [PyData.eqv,eG]
theorem gz:∀ (l m:List (List Int)),PyData.eqvAll (l.map liD) (m.map liD)=decide (l=m)
 | [],[]=>by rfl
 | [],_::_=>by rfl
 | _::_,[]=>by rfl
 | x::l,y::m=>by
  rw [List.map_cons,List.map_cons,PyData.eqvAll,gz l m,nq]
  by_cases h:x=y<;>by_cases h2:l=m<;>simp [h,h2]
theorem dH:∀ l:List (List Int),PyData.canLayAll0 (l.map liD)=true
 | []=>rfl
 | x::l=>by
  rw [List.map_cons,PyData.canLayAll0,dH l]
  unfold liD
  rw [PyData.canLay0,cC];rfl
theorem eg:∀ l:List (List Int),PyData.depthAll (l.map liD)<=1
 | []=>by exact Nat.zero_le _
 | x::l=>by
  rw [List.map_cons,PyData.depthAll]
  have:=eg l
  unfold liD
  rw [PyData.depth,cU]
  unfold liD at this
  simp_all
theorem dT (l:List (List Int)):SeqAt.shaped (.list (l.map liD))=true:=by
 unfold SeqAt.shaped
 rw [PyData.canLay0,dH,PyData.depth]
 have:=eg l
 simp only [Bool.true_and,decide_eq_true_eq]
 lia
theorem gF (l:List Int):SeqAt.shaped (.tuple (l.map .int))=true:=by
 unfold SeqAt.shaped
 rw [PyData.canLay0,cC,PyData.depth,cU];rfl
theorem fU (l:List Int):SeqAt.shaped (liD l)=true:=shaped_ints l
theorem IL.rd {H:List O} {v:V} {l:List Int}:IL H v l->Rd H (liD l) v:=fun ⟨k,h1,h2⟩=>⟨k,_,h1,h2,eX H l⟩
theorem ILs.rd {H:List O}:∀ {vs:List V} {ls:List (List Int)},ILs H vs ls->Rds H (ls.map liD) vs
 | [],[],_=>rfl
 | v::vs,l::ls,h=>⟨v,vs,rfl,h.1.rd,ILs.rd h.2⟩
theorem uQ {H:List O} {a b:V} {l m:List Int} (ha:IL H a l) (hb:IL H b m):eqV H a b (decide (l=m)):=⟨liD l,liD m,ha.rd,hb.rd,fU l,fU m,(nq l m).symm⟩
theorem rM {H:List O} {a b:Nat} {l m:List Int} (ha:H[a]?=some (.tuple (l.map .int))) (hb:H[b]?=some (.tuple (m.map .int))):eqV H (.ref a) (.ref b) (decide (l=m)):=
 ⟨.tuple (l.map .int),.tuple (m.map .int),⟨a,_,rfl,ha,eX H l⟩,⟨b,_,rfl,hb,eX H m⟩,gF l,gF m,by rw [PyData.eqv,eG]⟩
theorem eF {H:List O} {a b:Nat} {vs ws:List V} {l m:List (List Int)} (ha:H[a]?=some (.list vs)) (hb:H[b]?=some (.list ws)) (h1:ILs H vs l) (h2:ILs H ws m):eqV H (.ref a) (.ref b) (decide (l=m)):=
 ⟨.list (l.map liD),.list (m.map liD),⟨a,_,rfl,ha,h1.rd⟩,⟨b,_,rfl,hb,h2.rd⟩,dT l,dT m,by rw [PyData.eqv,gz]⟩
theorem qZ (l:List (List Int)) (c:List Int):(l.map liD).any (fun y=>PyData.eqv y (liD c))=decide (c∈l):=by
 induction l with
 | nil=>rfl
 | cons x l ih =>
  refine rwE (List.map_cons ..) (rwE (List.any_cons ..) (rwE (ih ..) (rwE (nq ..) ?_)))
  by_cases h:x=c
  .simp [h]
  .have:¬ c=x:=fun e=>h e.symm
   simp [h,this]
theorem gj {H:List O} {a b:V} {r:Bool} {Q:Bool->List O->Prop} {X:V->List O->Prop} (h:eqV H a b r) (q:Q (!r) H):f9 .NotEq a b H Q X:=⟨r,h,q⟩
theorem oO {H:List O} {a b:V} {r:Bool} {Q:Bool->List O->Prop} {X:V->List O->Prop} (h:eqV H a b r) (q:Q r H):f9 .Eq a b H Q X:=⟨r,h,q⟩
noncomputable def cu:List Stmt:=bodyOf (nth bc.body 2)
theorem uX {σ:Mine.St} {r:SR} {T g f:List Int} {E:List (Int × Int)} {np:Int->Int} {kg kf B:Nat} {Q:Fl->Mine.St->Prop} {X:V->Mine.St->Prop} (S:Srt σ.H r T np (aB E) (some [])) (K:Kn E T g f [] np) (G:c6 E T g) (w:Within E T) (hz:T.length<=900) (hz2:E.length<=900)
  (hB:∀ j,Own r T j->j < B) (hkg:B<=σ.H.length) (gg:σ.H[kg]?=some (.list (g.map .int))) (gf:σ.H[kf]?=some (.tuple (f.map .int)))
  (m1:σ.m (Str.ofString "sorter")=some (.ref r.s)) (m2:σ.m (Str.ofString "given")=some (.ref kg)) (m3:σ.m (Str.ofString "fresh")=some (.ref kf))
  (h:∀ H' m' R' np' k' k2,Srt H' r T np' (aB E) (some [])->Kn E T (g++f) R' [] np'->c6 E T (g++f)->(∀ j,j < σ.H.length->¬ Own r T j->H'[j]?=σ.H[j]?)->σ.H.length<=k'->k' < H'.length->H'[k']?=some (.list ((g++f).map .int))->H'[k2]?=some (.tuple (R'.map .int)) ->
   m' (Str.ofString "sorter")=some (.ref r.s)->m' (Str.ofString "given")=some (.ref k')->m' (Str.ofString "fresh")=some (.ref k2)->Q .next ⟨H',m'⟩) :
  a7 (prog.at 9) cu bc.scope [] σ Q X:=by
 have hb:cu=[nth cu 0,nth cu 1,nth cu 2]:=rfl
 rw [hb,bU]
 clear hb
 have e0:nth cu 0=nth cu 0:=rfl
 conv at e0=>rhs;whnf
 rw [e0]
 clear e0
 have hfT:∀ x∈f,x∈T:=fun x hx=>((K.av x).mp (.inl hx)).1
 have hfl:f.length<=900:=GS (aQ (List.nodup_append.mp K.nd).1 hfT) hz
 have Gn:c6 E T (g++f):=oZ G (List.nodup_append.mp K.nd).1 fun x hx=>(K.av x).mp (.inl hx)
 have hgn:(g.map V.int++f.map V.int).length<=big:=by rw [<- List.map_append,GX];exact GS (gZ Gn) (GS hz (by decide))
 wp_walk using 6,m1,m2,m3,gf
 refine⟨GS hfl (by decide),?_⟩
 wp_walk using 6,aj
 refine⟨_,(GR (aa gg)).trans gg,_,ak,hgn,?_⟩
 have S3:Srt (σ.H++[O.list (f.map V.int)]++[O.list (g.map V.int++f.map V.int)]) r T np (aB E) (some []):=(S.app _).app _
 have g3:(σ.H++[O.list (f.map V.int)]++[O.list (g.map V.int++f.map V.int)])[(σ.H++[O.list (f.map V.int)]).length]?=some (.list ((g++f).map .int)):=ak.trans (by rw [List.map_append])
 have k3:∀ j,j < σ.H.length->(σ.H++[O.list (f.map V.int)]++[O.list (g.map V.int++f.map V.int)])[j]?=σ.H[j]?:=fun j hj =>
  (GR (by rw [GY];exact Nat.lt_succ_of_lt hj)).trans (GR hj)
 have hq3:σ.H.length<=(σ.H++[O.list (f.map V.int)]).length:=by rw [GY];exact Nat.le_succ _
 generalize (σ.H++[O.list (f.map V.int)]).length=q at g3 hq3
 generalize σ.H++[O.list (f.map V.int)]++[O.list (g.map V.int++f.map V.int)]=H3 at S3 g3 k3
 have l3:σ.H.length<=H3.length:=GS hq3 (G5 (aa g3))
 have gf3:=(k3 _ (aa gf)).trans gf
 have e1:nth cu 1=nth cu 1:=rfl
 conv at e1=>rhs;whnf
 rw [e1]
 clear e1 gg gf hgn S
 refine ao (S3.inst) fun fs f1 _=>?_
 have hfb:(f.map V.int).length<=big:=by rw [GX];exact GS hfl (by decide)
 wp_walk using 6,aj
 obtain⟨dk,K4⟩:=w0 w K
 refine rwE (List.append_nil ..) ?_
 refine iB S3 (fun x y hy=>(w _ (bD.mp hy)).2) (b:=900) (fun x=>GS bg hz2) (GS hfl (by decide)) (GV (Nat.add_le_add_left (Nat.mul_le_mul_left 900 hfl) 0) (by decide)) dk fun H4 S4 A4=>?_
 generalize (f.foldl (bG (aB E)) (np,[])).1=np4 at S4 K4
 generalize (f.foldl (bG (aB E)) (np,[])).2=R4 at S4 K4
 have nown:¬ Own r T q:=fun hq=>Nat.lt_irrefl _ (GU (hB q hq) (GS hkg hq3))
 have e2:nth cu 2=nth cu 2:=rfl
 conv at e2=>rhs;whnf
 wp_walk using 6,aj
 rw [e2]
 clear e2 f1 gf3 hfb
 refine ao (S4.inst) fun fs4 p4 _=>?_
 have hR4:∀ x∈R4,x∈T:=fun x hx=>((K4.av x).mp (.inr hx)).1
 have hR4l:=aQ (List.nodup_append.mp K4.nd).2.1 hR4
 wp_walk using 6,p4
 refine dY S4 hR4 (GV (GS hR4l hz) (by decide)) fun H5 S5 A5 g5=>?_
 have K5:=K4.ready
 rw [List.nil_append] at K5
 wp_walk using 6,aj
 have g4:=(A4.keep q (aa g3) nown).trans g3
 have g6:=(A5.keep q (aa g4) nown).trans g4
 refine h _ _ R4 _ q H4.length S5 K5 Gn (fun j hj ho=>(A5.keep j (GU hj (GS l3 A4.len)) ho).trans ((A4.keep j (GU hj l3) ho).trans (k3 j hj))) hq3 (aa g6) g6 g5 ?_ rfl rfl
 exact m1
theorem qc {H:List O} {r:SR} {T R:List Int} {E:List (Int × Int)} {np:Int->Int} {Q X:V->List O->Prop} (S:Srt H r T np (aB E) (some R)) (w:Within E T) (K:Kn E T [] [] R np) (hz:T.length<=900) (hz2:E.length<=900)
  (h:∀ H' g k,c6 E T g->mW E T g->H.length<=H'.length->(∀ j,j < H.length->¬ Own r T j->H'[j]?=H[j]?)->H.length<=k->H'[k]?=some (.list (g.map .int))->Q (.ref k) H'):prog.bP 10 172 [.ref r.s] H Q X:=by
 rw [bx AK]
 have hb0:bc.body=[nth bc.body 0,nth bc.body 1,nth bc.body 2,nth bc.body 3]:=rfl
 rw [cO hb0 (ps:=[Str.ofString "sorter"]) rfl rfl rfl rfl]
 have e0:nth bc.body 0=nth bc.body 0:=rfl
 have e1:nth bc.body 1=nth bc.body 1:=rfl
 have e3:nth bc.body 3=nth bc.body 3:=rfl
 conv at e0=>rhs;whnf
 conv at e1=>rhs;whnf
 conv at e3=>rhs;whnf
 have e2:∃ p1 p2 p3 p4,nth bc.body 2=.While (.Compare (.Name (Str.ofString "fresh") p1) [.NotEq] [.Tuple [] 0 p2] p3) cu [] p4:=⟨_,_,_,_,rfl⟩
 obtain⟨_,_,_,_,e2⟩:=e2
 rw [e0,e1,e2,e3]
 clear e0 e1 e2 e3
 clear hb0
 have hRT:∀ x∈R,x∈T:=fun x hx=>((K.av x).mp (.inr hx)).1
 have hRl:R.length<=T.length:=aQ (List.nodup_append.mp K.nd).2.1 hRT
 have S0:=S.app [O.list []]
 refine ao (S0.inst) fun fs f1 _=>?_
 wp_walk using 6,aj
 refine dY S0 hRT (by unfold big;lia) fun H1 S1 A1 g1=>?_
 have K1:=K.ready
 have hl0:(H++[O.list []]).length=H.length+1:=by exact GY ..
 wp_walk using 6,aj
 have hgl:H1[H.length]?=some (.list (([]:List Int).map .int)):=by
  rw [A1.keep _ (by refine rwE hl0 ?_;exact Nat.lt_succ_self _) (fun ho=>absurd (S.aU ho) (by exact Nat.lt_irrefl (List.length H)))]
  exact ak
 have old1:∀ j,j < H.length->¬ Own r T j->H1[j]?=H[j]?:=fun j hj ho=>by
  exact (A1.keep j (by rw [hl0];exact Nat.le.step hj) ho).trans (GR hj)
 have hlen1:H.length+1<=H1.length:=by have:=A1.len;exact le_of_eq_of_le (id (Eq.symm hl0)) this
 refine dZ (fun m σ=>∃ g f np' kg kf,m=T.length - g.length/\Srt σ.H r T np' (aB E) (some [])/\Kn E T g f [] np'/\c6 E T g/\H.length<=kg/\σ.H[kg]?=some (.list (g.map .int))/\σ.H[kf]?=some (.tuple (f.map .int))/\H.length+1<=σ.H.length /\
   (∀ j,j < H.length->¬ Own r T j->σ.H[j]?=H[j]?)/\(∀ j,Own r T j->j < H.length)/\σ.m (Str.ofString "sorter")=some (.ref r.s)/\σ.m (Str.ofString "given")=some (.ref kg)/\σ.m (Str.ofString "fresh")=some (.ref kf))
  ⟨[],R,_,H.length,H.length+1,rfl,S1,by simpa using K1,ia,Nat.le_refl _,hgl,by refine rwS hl0 ?_;exact g1,hlen1,old1,fun j ho=>S.aU ho,rfl,rfl,by refine rwS hl0 ?_;rfl⟩ ?_
 (intro m σ ζ1;refine gP ζ1 fun g f np' kg ζ2=>?_;clear ζ1;refine bW ζ2 fun kf hm S' K' ζ3=>?_;clear ζ2;refine lg ζ3 fun G' hkg gg gf hlen old ζ4=>?_;clear ζ3;refine ek ζ4 fun own m1 m2 m3=>?_;clear ζ4)
 wp_walk using 6,aj
 have gf':(σ.H++[O.tuple []])[kf]?=some (.tuple (f.map .int)):=by refine (GR (aa gf)).trans ?_;exact gf
 have ge:(σ.H++[O.tuple []])[σ.H.length]?=some (.tuple (([]:List Int).map .int)):=ak
 refine gj (rM gf' ge) ?_
 wp_walk using 6,aj
 refine⟨fun hne=>?_,fun hne=>?_⟩
 .have hne:f≠[]:=by simpa using hne
  refine uX (σ:=⟨σ.H++[O.tuple []],σ.m⟩) (B:=H.length) (S'.app _) K' G' w hz hz2 own (GS (G5 hlen) (by rw [GY];exact Nat.le_succ _)) ((GR (aa gg)).trans gg) gf' m1 m2 m3 fun H' m' R' np2 k' k2 S2 K2 G2 kp hk hk' g1 g2 n1 n2 n3=>?_
  have hl:(σ.H++[O.tuple []]).length=σ.H.length+1:=GY ..
  have hk:σ.H.length+1<=k':=hl ▸ hk
  have hkp:∀ j,j < H.length->j < σ.H.length:=fun j hj=>GU hj (G5 hlen)
  refine⟨_,?_,g++f,rfl,R',_,S2,K2,G2,k',?_,g1,k2,g2,?_,fun j hj ho=>(kp j ?_ ho).trans ((GR (hkp j hj)).trans (old j hj ho)),own,n1,n2,n3⟩
  .rw [hm]
   have hgn:=gZ G2
   rw [GY] at hgn ⊢
   exact Nat.sub_add_lt_sub hgn (List.length_pos_iff.mpr hne)
  .exact G5 (GU hlen (G5 hk))
  .exact G5 (GV (GS hlen (G5 hk)) hk')
  .exact hl ▸ Nat.lt_succ_of_lt (hkp j hj)
 .have hf:f=[]:=by simpa using hne
  subst hf
  wp_walk using 6,aj
  refine h _ g kg G' (fun x hx=>?_) (by simp;exact G5 (Nat.lt_succ_of_lt hlen)) (fun j hj ho=>by refine (GR (by exact Nat.lt_trans (by assumption) (by assumption))).trans ?_;exact old j hj ho) hkg (by refine (GR (aa gg)).trans ?_;exact gg)
  rcases (K'.av x).mpr hx with h | h<;>cases h
noncomputable def bC (E:List (Int × Int)) (T:List Int):Nat:=cI (aB E) [] T+1
noncomputable def findR (E:List (Int × Int)) (T:List Int):Rs:=bO (aB E) (bC E T) [] T
section
variable {E:List (Int × Int)} {T:List Int}
theorem b8 (w:Within E T):∀ x,∀ y∈aB E x,y∈T:=fun x y hy=>(w _ (bD.mp hy)).2
theorem dw (w:Within E T):findR E T≠.bad:=jR (b8 w) (Nat.lt_succ_self _) fun _ h=>h
theorem fN {l:List Int} (h:findR E T=.ring l):Ring (aB E) l:=by
 have:=oX (su:=aB E) (n:=bC E T) (ns:=T) (seen:=[]) (B:=[]) trivial (fun y=>Iff.rfl)
 unfold findR at h
 rw [h] at this;exact this
theorem iE {s:List Int} (h:findR E T=.fin s):∃ B,mT (aB E) B/\∀ x∈T,x∈B:=by
 have:=oX (su:=aB E) (n:=bC E T) (ns:=T) (seen:=[]) (B:=[]) trivial (fun y=>Iff.rfl)
 unfold findR at h
 rw [h] at this
 (refine bW this fun B t _ h2 _=>?_;clear this)
 exact aW B t h2
theorem gX (w:Within E T) {l:List Int} (h:findR E T=.ring l):l≠[]:=fun e=>by
 have:=(kL (b8 w) (fN h)).1
 rw [e] at this;exact absurd this (Nat.not_lt_zero _)
end
theorem ILs.frame {H H':List O}:∀ {vs:List V} {ls:List (List Int)},ILs H vs ls->(∀ v∈vs,∀ q,v=.ref q->q < H.length->H'[q]?=H[q]?)->ILs H' vs ls
 | [],[],_,_=>trivial
 | v::vs,l::ls,h,k=>by
  obtain⟨⟨q,h1,h2⟩,h3⟩:=h
  exact⟨⟨q,h1,by refine (k v (.head _) q h1 (aa h2)).trans ?_;exact h2⟩,ILs.frame h3 fun w hw=>k w (.tail _ hw)⟩
noncomputable def z0 (E:List (Int × Int)) (T order:List Int) (ws:List (List Int)):Prop:=∀ i x w,order[i]?=some x->ws[i]?=some w->w.Nodup/\∀ y,y∈w↔Av E T (order.take i) y/\y≠x
noncomputable def bE:List Stmt:=bodyOf (nth aE.body 4)
theorem vO {σ:Mine.St} {q:Nat} {L:List Int} {x:Int} {Q:Fl->Mine.St->Prop} {X:V->Mine.St->Prop} (g:σ.H[q]?=some (.list (L.map .int))) (hz:L.length<=900) (m1:σ.m (Str.ofString "waits")=some (.ref q)) (m2:σ.m (Str.ofString "thing")=some (.int x))
  (h:Q .next ⟨σ.H++[O.list ((L.filter fun y=>y≠x).map V.int)],pm σ.m (Str.ofString "waits") (.ref σ.H.length)⟩):awS (prog.at 9) (nth bE 2) aE.scope [] σ Q X:=by
 have hb:nth bE 2=nth bE 2:=rfl
 conv at hb=>rhs;whnf
 rw [hb]
 clear hb
 wp_walk using 6,g
 generalize hsc:az aE.scope _=sc
 generalize hro:freeNames _=ro
 have l1:sc.names.lookup (Str.ofString "one")=some .local:=by refine rwS hsc ?_;kernel_rfl
 have l3:sc.names.lookup (Str.ofString "thing")=some .cell:=by refine rwS hsc ?_;kernel_rfl
 have l2:ro=[Str.ofString "thing"]:=by refine hro.symm.trans ?_;kernel_rfl
 subst l2
 refine aO (fun k τ=>τ.H=σ.H++[O.list (((L.take k).filter fun y=>y≠x).map V.int)]/\τ.m (Str.ofString "thing")=some (.int x)) ⟨rfl,?_⟩ ?_ ?_
 .refine Eq.trans ?_ m2
  kernel_rfl
 .rintro k it τ TT hi ⟨hH,mt⟩ hT
  refine ao (bA hi) fun y hy ζ2=>?_
  obtain rfl:=ζ2
  refine⟨aq g rfl (by rw [hH];exact (GR (aa g)).trans g),?_⟩
  have g7:τ.H[σ.H.length]?=some (.list (((L.take k).filter fun y=>y≠x).map V.int)):=by refine rwE hH ?_;exact ak
  wp_walk using 6,l1,l3,mt
  refine⟨fun hyx=>?_,fun hyx=>?_⟩
  .wp_walk using 6,g7
   refine⟨GV (GS (List.length_filter_le _ _) (GS (List.length_take_le' ..) hz)) (by decide),?_⟩
   wp_walk using 6,aj
   refine hT _ ⟨?_,mt⟩
   refine (?_:τ.H.set _ _=_)
   rw [hH,cW,take_snoc hy,List.filter_append]
   simp [hyx]
  .wp_walk using 6,aj
   refine hT _ ⟨?_,mt⟩
   refine (?_:τ.H=_)
   rw [hH,take_snoc hy,List.filter_append]
   simp [hyx]
 .rintro τ ⟨hH,mt⟩
  rw [GX,GX,List.take_length] at hH
  refine⟨aq g rfl (by rw [hH];exact (GR (aa g)).trans g),?_⟩
  wp_walk using 6,aj
  rw [hH]
  exact h
theorem vN {σ:Mine.St} {r:SR} {T D W R:List Int} {E:List (Int × Int)} {np:Int->Int} {kw ka B:Nat} {us:List V} {x:Int} {Q:Fl->Mine.St->Prop} {X:V->Mine.St->Prop} (S:Srt σ.H r T np (aB E) (some R)) (K:Kn E T D W R np) (w:Within E T) (hT:T.length<=900) (hE:E.length<=900) (hxT:x∈T) (hsx:small x)
  (hB:∀ j,Own r T j->j < B) (hkw:B<=kw) (hka:B<=ka) (ha0:0 < ka) (hus:us.length<=900) (gw:σ.H[kw]?=some (.list (W.map .int))) (ga:σ.H[ka]?=some (.list us))
  (m1:σ.m (Str.ofString "sorter")=some (.ref r.s)) (m2:σ.m (Str.ofString "waits")=some (.ref kw)) (m3:σ.m (Str.ofString "others")=some (.ref ka)) (m4:σ.m (Str.ofString "thing")=some (.int x))
  (h1:x∈W++R->∀ H' m' np' R' k,Srt H' r T np' (aB E) (some R')->Kn E T (D++[x]) ((W++R).filter fun y=>y≠x) R' np'->(∀ j,j < σ.H.length->¬ Own r T j->j≠ka->H'[j]?=σ.H[j]?)->σ.H.length<=k->k < H'.length->H'[k]?=some (.list (((W++R).filter fun y=>y≠x).map .int))->H'[ka]?=some (.list (us++[.ref k])) ->
   m' (Str.ofString "sorter")=some (.ref r.s)->m' (Str.ofString "waits")=some (.ref k)->m' (Str.ofString "others")=some (.ref ka)->Q .next ⟨H',m'⟩)
  (h2:x∉W++R->∀ H' m',(∀ j,j < σ.H.length->¬ Own r T j->H'[j]?=σ.H[j]?)->σ.H.length<=H'.length->Q (.ret .none) ⟨H',m'⟩) :
  a7 (prog.at 9) bE aE.scope [] σ Q X:=by
 have hb:bE=[nth bE 0,nth bE 1,nth bE 2,nth bE 3]:=rfl
 rw [hb,bU]
 clear hb
 have e0:nth bE 0=nth bE 0:=rfl
 conv at e0=>rhs;whnf
 rw [e0]
 clear e0
 refine ao (S.inst) fun fs f1 _=>?_
 have hRT:∀ x∈R,x∈T:=fun x hx=>((K.av x).mp (.inr hx)).1
 have hRl:R.length<=900:=GS (aQ (List.nodup_append.mp K.nd).2.1 hRT) hT
 have hWR:(W++R).length<=900:=GS (aQ K.nd fun y hy=>((K.av y).mp (List.mem_append.mp hy)).1) hT
 wp_walk using 6,m1,m2,m3,f1
 refine dY S hRT (GV hRl (by decide)) fun H4 S4 A4 g4=>?_
 have K4:=K.ready
 have nown:∀ j,B<=j->¬ Own r T j:=fun j hj hq=>Nat.lt_irrefl _ (GU (hB j hq) hj)
 have gw4:H4[kw]?=some (.list (W.map .int)):=(A4.keep _ (aa gw) (nown _ hkw)).trans gw
 wp_walk using 6,g4
 refine⟨GS hRl (by decide),?_⟩
 wp_walk using 6,aj
 have gw4':(H4++[O.list (R.map V.int)])[kw]?=some (.list (W.map .int)):=(GR (aa gw4)).trans gw4
 have hWR':(W.map V.int++R.map V.int).length<=big:=by rw [<- List.map_append,GX];exact GS hWR (by decide)
 refine⟨_,gw4',_,ak,hWR',?_⟩
 have S5:Srt (H4++[O.list (R.map V.int)]++[O.list (W.map V.int++R.map V.int)]) r T (outs np R) (aB E) (some []):=(S4.app _).app _
 have g5:(H4++[O.list (R.map V.int)]++[O.list (W.map V.int++R.map V.int)])[(H4++[O.list (R.map V.int)]).length]?=some (.list ((W++R).map .int)):=ak.trans (by rw [List.map_append])
 have k5:∀ j,j < σ.H.length->¬ Own r T j->(H4++[O.list (R.map V.int)]++[O.list (W.map V.int++R.map V.int)])[j]?=σ.H[j]?:=fun j hj hq =>
  (GR (by rw [GY];exact Nat.lt_succ_of_lt (GU hj A4.len))).trans ((GR (GU hj A4.len)).trans (A4.keep j hj hq))
 have hq5:σ.H.length<=(H4++[O.list (R.map V.int)]).length:=by rw [GY];exact Nat.le_succ_of_le A4.len
 generalize (H4++[O.list (R.map V.int)]).length=q5 at g5 hq5
 generalize H4++[O.list (R.map V.int)]++[O.list (W.map V.int++R.map V.int)]=H5 at S5 g5 k5
 clear gw4' gw4 g4 S4 A4 hWR'
 have l5:σ.H.length<=H5.length:=GS hq5 (G5 (aa g5))
 refine ao (S5.inst) fun fs5 f5 _=>?_
 have e1:nth bE 1=nth bE 1:=rfl
 conv at e1=>rhs;whnf
 rw [e1]
 clear e1
 wp_walk using 6,aj
 by_cases hxW:x∈W++R
 .have K5:=K4.done w hxW
  have hav:=(K4.av x).mp (.inl hxW)
  have dk:jn (aB E) T (outs np R,[]) [x]:=⟨hxT,(K4.np ..).trans (((if_neg hav.2.1) ..).trans ((if_pos hxW) ..)),trivial⟩
  refine iB (xs:=[x]) S5 (b8 w) (b:=900) (fun x=>GS bg hE) (show 1<=big by decide) (show 0+900 * 1 < big by decide) dk fun H6 S6 A6=>?_
  have S6:Srt H6 r T (bG (aB E) (outs np R,[]) x).1 (aB E) (some (bG (aB E) (outs np R,[]) x).2):=S6
  generalize (bG (aB E) (outs np R,[]) x).1=np6 at S6 K5
  generalize (bG (aB E) (outs np R,[]) x).2=R6 at S6 K5
  have g6:H6[q5]?=some (.list ((W++R).map .int)):=(A6.keep _ (aa g5) (nown _ (GS hka (GS (G5 (aa ga)) hq5)))).trans g5
  have k6:∀ j,j < σ.H.length->¬ Own r T j->H6[j]?=σ.H[j]?:=fun j hj hq=>(A6.keep j (GU hj l5) hq).trans (k5 j hj hq)
  have l6:σ.H.length<=H6.length:=GS l5 A6.len
  clear S5 g5 k5 f5 A6
  have e3:nth bE 3=nth bE 3:=rfl
  conv at e3=>rhs;whnf
  wp_walk using 6,aj
  refine vO (x:=x) g6 hWR rfl m4 ?_
  have ga7:(H6++[O.list (((W++R).filter fun y=>y≠x).map V.int)])[ka]?=some (.list us):=(GR (GU (aa ga) l6)).trans ((k6 _ (aa ga) (nown _ hka)).trans ga)
  rw [e3]
  clear e3
  wp_walk using 6,ga7
  refine⟨ha0,GV hus (by decide),?_⟩
  wp_walk using 6,aj
  have hne:ka≠H6.length:=Nat.ne_of_lt (GU (aa ga) l6)
  refine h1 hxW _ _ np6 R6 H6.length ((S6.app _).congr fun j hj=>af fun e=>nown ka hka (e ▸ hj)) K5 (fun j hj hq hn=>(af (Ne.symm hn)).trans ((GR (GU hj l6)).trans (k6 j hj hq))) l6 (by rw [List.length_set,GY];exact Nat.lt_succ_self _) ((af hne).trans ak) (au (aa ga7)) ?_ rfl ?_
  .exact m1
  .exact m3
 .refine rF S5 hxT ?_ ?_ hsx fun H6 e vs k6 hl6 he _=>?_
  .refine rwE (K4.np ..) ?_
   by_cases h1:x∈D
   .refine rwE (if_pos h1) ?_;decide
   .refine rwE (if_neg h1) (rwE (if_neg hxW) ?_);exact Int.ne_of_gt (Int.ofNat_nonneg (cnt E D x))
  .refine rwE (K4.np ..) ?_
   by_cases h1:x∈D
   .refine rwE (if_pos h1) ?_;decide
   .refine rwE (if_neg h1) (rwE (if_neg hxW) ?_);exact Int.NonNeg.mk (cnt E D x+Nat.succ 1)
  .wp_walk using 6,he
   exact h2 hxW _ _ (fun j hj hq=>(k6 j (GU hj l5)).trans (k5 j hj hq)) (GS l5 hl6)
set_option maxHeartbeats 2000000 in
theorem iS {H:List O} {kt ks ko:Nat} {T order:List Int} {E:List (Int × Int)} {vs:List V} {Q X:V->List O->Prop} (ht:H[kt]?=some (.list (T.map .int))) (hs:H[ks]?=some (.list vs)) (hv:ILs H vs (E.map fun e=>[e.1,e.2])) (ho:H[ko]?=some (.list (order.map .int)))
  (hT:T.Nodup) (w:Within E T) (hz:T.length<=900) (hz2:E.length<=900) (hzo:order.length<=900) (hoT:∀ x∈order,x∈T) (hsm:∀ x∈T,small x)
  (h:∀ H' v,Ext H H'->((c6 E T order/\∃ k us ws,v=.ref k/\H'[k]?=some (.list us)/\ILs H' us ws/\ws.length=order.length/\z0 E T order ws)\/(¬ c6 E T order/\v=.none))->Q v H'):prog.bP 10 184 [.ref kt,.ref ks,.ref ko] H Q X:=by
 refine rwE (bx AM) ?_
 have hb0:aE.body=[nth aE.body 0,nth aE.body 1,nth aE.body 2,nth aE.body 3,nth aE.body 4,nth aE.body 5]:=rfl
 rw [cO hb0 (ps:=[Str.ofString "things",Str.ofString "steps",Str.ofString "order"]) rfl rfl rfl rfl]
 clear hb0
 have e0:nth aE.body 0=nth aE.body 0:=rfl
 have e1:nth aE.body 1=nth aE.body 1:=rfl
 have e2:nth aE.body 2=nth aE.body 2:=rfl
 have e3:nth aE.body 3=nth aE.body 3:=rfl
 have e5:nth aE.body 5=nth aE.body 5:=rfl
 conv at e0=>rhs;whnf
 conv at e1=>rhs;whnf
 conv at e2=>rhs;whnf
 conv at e3=>rhs;whnf
 conv at e5=>rhs;whnf
 have e4:∃ p1 p2 p3,nth aE.body 4=.For (.Name (Str.ofString "thing") p1) (.Name (Str.ofString "order") p2) bE [] p3:=⟨_,_,_,rfl⟩
 obtain⟨_,_,_,e4⟩:=e4
 rw [e0,e1,e2,e3,e4,e5]
 clear e0 e1 e2 e3 e4 e5
 wp_walk using 6,aj
 refine dD ht hs hv hT w (by lia) (by lia) fun H1 r1 S1 X1 own1=>?_
 wp_walk using 6,aj
 have hnb:=dw w
 refine eO (n:=bC E T) (d:=6) S1 (b8 w) hz (fun x=>by have:=@bg E x;unfold big;lia) hnb (fun l hl=>gX w hl) fun H2 r2 S2 A2=>?_
 have hrs:=A2.s
 have X2:Ext H H2:=⟨GS X1.len A2.len,fun j hj=>by exact (A2.keep j (GU hj X1.len) fun hq=>by have:=own1 j hq;lia).trans (X1.keep j hj)⟩
 have own2:∀ j,Own r2 T j->H.length<=j/\j < H2.length:=fun j hj=>⟨by
  rcases A2.own j hj with hq | hq
  .exact own1 j hq
  .exact GS X1.len hq,S2.aU hj⟩
 have K2:=Kn.start (E:=E) hT
 generalize (T.filter fun x=>((cnt E [] x:Nat):Int)=0)=R2 at S2 K2
 have ho2:=X2.get ho
 have hol:=aa ho2
 wp_walk using 6,aj
 have S3:Srt (H2++[O.list []]++[O.list []]) r2 T (fun x=>cnt E [] x) (aB E) (some R2):=(S2.app _).app _
 have X3:Ext H (H2++[O.list []]++[O.list []]):=X2.trans (Ext.app.trans Ext.app)
 have gw3:(H2++[O.list []]++[O.list []])[H2.length]?=some (.list (([]:List Int).map .int)):=by refine (GR (by simp)).trans ?_;exact ak
 have ga3:(H2++[O.list []]++[O.list []])[H2.length+1]?=some (.list []):=by refine (List.getElem?_append_right (by simp)).trans ?_;simp
 have hl3:(H2++[O.list []]++[O.list []]).length=H2.length+2:=by simp
 have ho3:=X3.get ho
 have hla:(H2++[O.list []]).length=H2.length+1:=by exact GY ..
 have hN:H.length<=H2.length:=X2.len
 refine rwE ho3 ?_
 generalize H2++[O.list []]++[O.list []]=H3 at S3 X3 gw3 ga3 hl3 ho3
 refine aW _ rfl ?_
 refine br (fun i σ=>∃ W R np kw us ws,Srt σ.H r2 T np (aB E) (some R)/\Kn E T (order.take i) W R np/\c6 E T (order.take i)/\H2.length<=kw/\kw≠H2.length+1/\σ.H[kw]?=some (.list (W.map .int))/\σ.H[H2.length+1]?=some (.list us)/\ILs σ.H us ws /\
   (∀ v∈us,∀ q,v=.ref q->H2.length+2<=q)/\ws.length=i/\(∀ j x w,j < i->order[j]?=some x->ws[j]?=some w->w.Nodup/\∀ y,y∈w↔Av E T (order.take j) y/\y≠x)/\Ext H σ.H/\H2.length+2<=σ.H.length /\
   σ.m (Str.ofString "sorter")=some (.ref r1.s)/\σ.m (Str.ofString "waits")=some (.ref kw)/\σ.m (Str.ofString "others")=some (.ref (H2.length+1)))
  ⟨[],R2,_,H2.length,[],[],S3,by refine rwE List.take_zero ?_;exact K2,by refine rwE List.take_zero ?_;exact ia,Nat.le_refl _,by exact Nat.ne_of_lt (Nat.succ_le_of_lt (Nat.le_refl (Nat.succ (List.length H2)))),gw3,ga3,trivial,(fun v hv=>by cases hv),rfl,(fun j x w hj=>by simp_all),X3,by refine (?_:H2.length+2<=H3.length);simp_all,rfl,rfl,by refine rwS hla ?_;rfl⟩ ?_ ?_
 ·(intro i it σ RR hi ζ3;refine gP ζ3 fun W R np kw ζ4=>?_;clear ζ3;refine jh ζ4 fun us ws S' K' G' ζ5=>?_;clear ζ4;refine lg ζ5 fun hkw hkwa gw ga gus prot ζ6=>?_;clear ζ5;refine lg ζ6 fun hwl hws X' hlen m1 m2 m3=>?_;clear ζ6;intro hR)
  (refine ao (bA hi) fun x hx ζ1=>?_;obtain rfl:=ζ1)
  refine⟨aq ho3 rfl (X'.get ho),?_⟩
  have hxT:=hoT x (G0 hx)
  have hil:=aa hx
  have husl:us.length<=900:=by rw [gus.len,hwl];exact GS (G5 hil) hzo
  have hN2:∀ j,H2.length<=j->¬ Own r2 T j:=fun j hj hq=>Nat.lt_irrefl _ (GU (own2 j hq).2 hj)
  have hN1:∀ j,j < H.length->¬ Own r2 T j:=fun j hj hq=>Nat.lt_irrefl _ (GU hj (own2 j hq).1)
  refine rwE gA (rwE (dN (n:=.cell) rfl (.inr rfl) List.not_mem_nil) ?_)
  refine vN (B:=H2.length) S' K' w hz hz2 hxT (hsm x hxT) (fun j hj=>(own2 j hj).2) hkw (Nat.le_succ _) (Nat.succ_pos _) husl gw ga (hrs.symm ▸ m1) m2 m3 rfl (fun hxW H' m' np' R' k S6 K6 k6 hk1 hk2 g6 ga6 n1 n2 n3=>?_) fun hxW H' m' k6 l6=>?_
  .refine hR _ ⟨(W++R).filter fun y=>y≠x,R',np',k,us++[.ref k],ws++[(W++R).filter fun y=>y≠x],S6,by rw [take_snoc hx];exact K6,by rw [take_snoc hx];exact fm G' ((K'.ready.av x).mp (.inl hxW)),GS hkw (GS (G5 (aa gw)) hk1),Nat.ne_of_gt (GU (aa ga) hk1),g6,ga6,?_,fun v hv q hq=>?_,?_,fun j z u hj hz hu=>?_,⟨GS X'.len (GS hk1 (G5 hk2)),fun j hj=>(k6 j (GU hj X'.len) (hN1 j hj) (Nat.ne_of_lt (GU hj (Nat.le_succ_of_le hN)))).trans (X'.keep j hj)⟩,GS hlen (GS hk1 (G5 hk2)),hrs ▸ n1,n2,n3⟩
   .exact ILs.snoc (gus.frame fun v hv q hq hlt=>k6 q hlt (hN2 q (G5 (G5 (prot v hv q hq)))) (Nat.ne_of_gt (prot v hv q hq))) ⟨_,rfl,g6⟩
   .rcases List.mem_append.mp hv with hv | hv
    .exact prot v hv q hq
    .obtain rfl:=List.mem_singleton.mp hv
     cases hq;exact GS hlen hk1
   .rw [GY,hwl];rfl
   .by_cases hji:j < i
    .rw [GR (by rw [hwl];exact hji)] at hu
     exact hws j z u hji hz hu
    .have:j=i:=Nat.eq_of_lt_succ_of_not_lt hj hji
     subst this
     rw [hx] at hz;cases hz
     rw [List.getElem?_append_right (Nat.le_of_eq hwl),hwl,Nat.sub_self] at hu
     cases hu
     refine⟨(List.nodup_append.mpr (List.nodup_append.mp K'.nd)).filter _,fun y=>?_⟩
     rw [List.mem_filter,decide_eq_true_eq,<- K'.ready.av]
     simp
  .wp_walk using 6,aj
   refine h _ _ ⟨GS X'.len l6,fun j hj=>(k6 j (GU hj X'.len) (hN1 j hj)).trans (X'.keep j hj)⟩ (.inr ⟨fun hG=>hxW ?_,rfl⟩)
   rcases (K'.ready.av x).mpr (hG i x hx) with h | h
   .exact h
   .cases h
 ·(intro σ ζ7;refine gP ζ7 fun W R np kw ζ8=>?_;clear ζ7;refine jh ζ8 fun us ws S' K' G' ζ9=>?_;clear ζ8;refine lg ζ9 fun hkw hkwa gw ga gus prot Ft=>?_;clear ζ9;refine lg Ft fun hwl hws X' hlen m1 m2 m3=>?_;clear Ft)
  rw [GX,GX] at hwl hws K' G'
  refine⟨aq ho3 rfl (X'.get ho),?_⟩
  wp_walk using 6,m3
  rw [List.take_length] at G'
  exact h _ _ X' (.inl ⟨G',_,us,ws,rfl,ga,gus,hwl,fun j x w hj hw=>hws j x w (aa hj) hj hw⟩)
theorem dJ {x:Int}:∀ {l:List Int} {j:Nat},l.Nodup->l[j]?=some x->l.eraseIdx j=l.filter fun y=>y≠x
 | a::l,0,hn,h=>by
  cases h
  obtain⟨h1,h2⟩:=List.nodup_cons.mp hn
  refine rwE List.eraseIdx_cons_zero (rwE List.filter_cons ?_)
  simp only [ne_eq,not_true_eq_false,decide_false,Bool.false_eq_true,if_false]
  exact (List.filter_eq_self.mpr fun y hy=>by simp;exact fun e=>h1 (e ▸ hy)).symm
 | a::l,j+1,hn,h=>by
  obtain⟨h1,h2⟩:=List.nodup_cons.mp hn
  have h:l[j]?=some x:=h
  have hne:a≠x:=fun e=>h1 (e ▸ G0 h)
  refine rwE List.eraseIdx_cons_succ (rwE List.filter_cons (rwE (dJ h2 h) ?_))
  simp [hne]
theorem lF:∀ {l:List Int} {j:Nat},(l.map V.int).eraseIdx j=(l.eraseIdx j).map V.int
 | [],_=>rfl
 | _::_,0=>rfl
 | a::l,j+1=>by exact rwE List.map_cons (rwE List.eraseIdx_cons_succ (rwE lF (rwE List.eraseIdx_cons_succ (rwE List.map_cons rfl))))
noncomputable def ck:List Stmt:=bodyOf (nth aL.body 4)
theorem uO {σ:Mine.St} {r:SR} {T D W R g:List Int} {E:List (Int × Int)} {np:Int->Int} {kw ka B:Nat} {p:Int} {Q:Fl->Mine.St->Prop} {X:V->Mine.St->Prop} (S:Srt σ.H r T np (aB E) (some R)) (K:Kn E T D W R np) (w:Within E T) (hT:T.length<=900) (hE:E.length<=900) (hne:0 < (W++R).length)
  (hB:∀ j,Own r T j->j < B) (hkw:B<=kw) (hka:B<=ka) (ha0:0 < ka) (hus:g.length<=900) (gw:σ.H[kw]?=some (.list (W.map .int))) (ga:σ.H[ka]?=some (.list (g.map .int)))
  (m1:σ.m (Str.ofString "sorter")=some (.ref r.s)) (m2:σ.m (Str.ofString "waits")=some (.ref kw)) (m3:σ.m (Str.ofString "drawn")=some (.ref ka)) (m4:σ.m (Str.ofString "pick")=some (.int p))
  (h:∀ H' m' np' R' k x j,(W++R)[j]?=some x->Srt H' r T np' (aB E) (some R')->Kn E T (D++[x]) ((W++R).eraseIdx j) R' np'->(∀ j,j < σ.H.length->¬ Own r T j->j≠ka->H'[j]?=σ.H[j]?)->σ.H.length<=k->k < H'.length->H'[k]?=some (.list (((W++R).eraseIdx j).map .int))->H'[ka]?=some (.list ((g++[x]).map .int)) ->
   m' (Str.ofString "sorter")=some (.ref r.s)->m' (Str.ofString "waits")=some (.ref k)->m' (Str.ofString "drawn")=some (.ref ka)->Q .next ⟨H',m'⟩) :
  a7 (prog.at 9) ck aL.scope [] σ Q X:=by
 have hb:ck=[nth ck 0,nth ck 1,nth ck 2]:=rfl
 rw [hb,bU]
 clear hb
 have e0:nth ck 0=nth ck 0:=rfl
 conv at e0=>rhs;whnf
 rw [e0]
 clear e0
 refine ao (S.inst) fun fs f1 _=>?_
 have hRT:∀ x∈R,x∈T:=fun x hx=>((K.av x).mp (.inr hx)).1
 have hRl:R.length<=900:=GS (aQ (List.nodup_append.mp K.nd).2.1 hRT) hT
 have hWR:(W++R).length<=900:=GS (aQ K.nd fun y hy=>((K.av y).mp (List.mem_append.mp hy)).1) hT
 wp_walk using 6,m1,m2,m3,f1
 refine dY S hRT (GV hRl (by decide)) fun H4 S4 A4 g4=>?_
 have K4:=K.ready
 have nown:∀ j,B<=j->¬ Own r T j:=fun j hj hq=>Nat.lt_irrefl _ (GU (hB j hq) hj)
 have gw4:H4[kw]?=some (.list (W.map .int)):=(A4.keep _ (aa gw) (nown _ hkw)).trans gw
 wp_walk using 6,g4
 refine⟨GS hRl (by decide),?_⟩
 wp_walk using 6,aj
 have gw4':(H4++[O.list (R.map V.int)])[kw]?=some (.list (W.map .int)):=(GR (aa gw4)).trans gw4
 have hWR':(W.map V.int++R.map V.int).length<=big:=by rw [<- List.map_append,GX];exact GS hWR (by decide)
 refine⟨_,gw4',_,ak,hWR',?_⟩
 have S5:Srt (H4++[O.list (R.map V.int)]++[O.list (W.map V.int++R.map V.int)]) r T (outs np R) (aB E) (some []):=(S4.app _).app _
 have g5:(H4++[O.list (R.map V.int)]++[O.list (W.map V.int++R.map V.int)])[(H4++[O.list (R.map V.int)]).length]?=some (.list ((W++R).map .int)):=ak.trans (by rw [List.map_append])
 have k5:∀ j,j < σ.H.length->¬ Own r T j->(H4++[O.list (R.map V.int)]++[O.list (W.map V.int++R.map V.int)])[j]?=σ.H[j]?:=fun j hj hq =>
  (GR (by rw [GY];exact Nat.lt_succ_of_lt (GU hj A4.len))).trans ((GR (GU hj A4.len)).trans (A4.keep j hj hq))
 have hq5:σ.H.length<=(H4++[O.list (R.map V.int)]).length:=by rw [GY];exact Nat.le_succ_of_le A4.len
 generalize (H4++[O.list (R.map V.int)]).length=q5 at g5 hq5
 generalize H4++[O.list (R.map V.int)]++[O.list (W.map V.int++R.map V.int)]=H5 at S5 g5 k5
 clear gw4' gw4 g4 S4 A4 hWR' hRl hRT
 have haq:ka < q5:=GU (aa ga) hq5
 have hq0:0 < q5:=Nat.zero_lt_of_lt haq
 have ga5:H5[ka]?=some (.list (g.map .int)):=(k5 _ (aa ga) (nown _ hka)).trans ga
 have hm0:(0:Int)<=p % ((W++R).length:Int):=Int.emod_nonneg _ (Int.natCast_ne_zero_iff_pos.mpr hne)
 have hm1:p % ((W++R).length:Int) < (W++R).length:=Int.emod_lt_of_pos _ (Int.natCast_pos.mpr hne)
 have e1:nth ck 1=nth ck 1:=rfl
 conv at e1=>rhs;whnf
 rw [e1]
 clear e1
 wp_walk using 6,g5
 refine⟨GS hWR (by decide),?_⟩
 wp_walk using 6,aj
 refine⟨by lia,by lia,?_⟩
 obtain⟨j,hj⟩:=Int.eq_ofNat_of_zero_le hm0
 rw [hj] at hm1 ⊢
 clear hj hm0
 have hjl:j < (W++R).length:=Int.ofNat_lt.mp hm1
 obtain⟨x,hx⟩:∃ x,(W++R)[j]?=some x:=⟨_,G6 hjl⟩
 have hxW:x∈W++R:=G0 hx
 have K5:=K4.done w hxW
 rw [<- dJ (List.nodup_append.mp K4.nd).1 hx] at K5
 have hav:=(K4.av x).mp (.inl hxW)
 have hpl0:place (W++R).length (j:Int)=some j:=by unfold place;refine (if_pos (Int.natCast_nonneg j)).trans ((if_pos hm1).trans ?_);simp
 wp_walk using 6,g5
 refine⟨hq0,GV hWR (by decide),j,hpl0,by lia,by lia,_,by rw [G3,hx];rfl,?_⟩
 have ga5':(H5.set q5 (O.list (((W++R).map V.int).eraseIdx j)))[ka]?=some (.list (g.map .int)):=(af (Nat.ne_of_gt haq)).trans ga5
 wp_walk using 6,aj
 refine⟨ha0,GV hus (by decide),?_⟩
 have S6:Srt ((H5.set q5 (O.list (((W++R).map V.int).eraseIdx j))).set ka (O.list (g.map V.int++[V.int x]))) r T (outs np R) (aB E) (some []):=S5.congr fun i hi =>
  (af fun (e:ka=i)=>nown ka hka (e ▸ hi)).trans (af fun (e:q5=i)=>nown q5 (GS hka (G5 haq)) (e ▸ hi))
 have g6:((H5.set q5 (O.list (((W++R).map V.int).eraseIdx j))).set ka (O.list (g.map V.int++[V.int x])))[ka]?=some (.list (g.map V.int++[V.int x])):=au (aa ga5')
 have w6:((H5.set q5 (O.list (((W++R).map V.int).eraseIdx j))).set ka (O.list (g.map V.int++[V.int x])))[q5]?=some (.list (((W++R).map V.int).eraseIdx j)):=(af (Nat.ne_of_lt haq)).trans (au (aa g5))
 have k6:∀ i,i < σ.H.length->¬ Own r T i->i≠ka->((H5.set q5 (O.list (((W++R).map V.int).eraseIdx j))).set ka (O.list (g.map V.int++[V.int x])))[i]?=σ.H[i]?:=fun i hi hq hn =>
  (af (Ne.symm hn)).trans ((af (Nat.ne_of_gt (GU hi hq5))).trans (k5 i hi hq))
 clear S5 k5 ga5 ga5' g5
 generalize (H5.set q5 (O.list (((W++R).map V.int).eraseIdx j))).set ka (O.list (g.map V.int++[V.int x]))=H6 at S6 g6 w6 k6
 refine ao (S6.inst) fun fs6 f6 _=>?_
 obtain⟨p1,p2⟩:=@jE (g.map V.int) (V.int x)
 have e2:nth ck 2=nth ck 2:=rfl
 conv at e2=>rhs;whnf
 rw [e2]
 clear e2
 wp_walk using 6,aj
 have dk:jn (aB E) T (outs np R,[]) [x]:=⟨hav.1,(K4.np ..).trans (((if_neg hav.2.1) ..).trans ((if_pos hxW) ..)),trivial⟩
 refine iB (xs:=[x]) S6 (b8 w) (b:=900) (fun x=>GS bg hE) (show 1<=big by decide) (show 0+900 * 1 < big by decide) dk fun H7 S7 A7=>?_
 have S7:Srt H7 r T (bG (aB E) (outs np R,[]) x).1 (aB E) (some (bG (aB E) (outs np R,[]) x).2):=S7
 generalize (bG (aB E) (outs np R,[]) x).1=np7 at S7 K5
 generalize (bG (aB E) (outs np R,[]) x).2=R7 at S7 K5
 wp_walk using 6,aj
 have lw6:=aa w6
 refine h _ _ np7 R7 q5 x j hx S7 K5 (fun i hi hq hn=>(A7.keep _ (GU hi (GS hq5 (G5 lw6))) hq).trans (k6 i hi hq hn)) hq5 (GU lw6 A7.len) ((A7.keep _ lw6 (nown _ (GS hka (G5 haq)))).trans (w6.trans (by rw [lF]))) ((A7.keep _ (aa g6) (nown _ hka)).trans (g6.trans (by rw [List.map_append];rfl))) ?_ rfl ?_
 .exact m1
 .exact m3
theorem pX {H:List O} {kt ks kp:Nat} {T picks:List Int} {E:List (Int × Int)} {vs:List V} {s:List Int} {Q X:V->List O->Prop} (ht:H[kt]?=some (.list (T.map .int))) (hs:H[ks]?=some (.list vs)) (hv:ILs H vs (E.map fun e=>[e.1,e.2])) (hp:H[kp]?=some (.list (picks.map .int)))
  (hT:T.Nodup) (w:Within E T) (hz:T.length<=900) (hz2:E.length<=900) (hpl:picks.length=T.length) (hfin:findR E T=.fin s) (hps:∀ p∈picks,0<=p/\p < 1000000)
  (h:∀ H' k g,Ext H H'->H'[k]?=some (.list (g.map .int))->c6 E T g->g.length=T.length->Q (.ref k) H'):prog.bP 10 179 [.ref kt,.ref ks,.ref kp] H Q X:=by
 refine rwE (bx AL) ?_
 have hb0:aL.body=[nth aL.body 0,nth aL.body 1,nth aL.body 2,nth aL.body 3,nth aL.body 4,nth aL.body 5]:=rfl
 rw [cO hb0 (ps:=[Str.ofString "things",Str.ofString "steps",Str.ofString "picks"]) rfl rfl rfl rfl]
 clear hb0
 have e0:nth aL.body 0=nth aL.body 0:=rfl
 have e1:nth aL.body 1=nth aL.body 1:=rfl
 have e2:nth aL.body 2=nth aL.body 2:=rfl
 have e3:nth aL.body 3=nth aL.body 3:=rfl
 have e5:nth aL.body 5=nth aL.body 5:=rfl
 conv at e0=>rhs;whnf
 conv at e1=>rhs;whnf
 conv at e2=>rhs;whnf
 conv at e3=>rhs;whnf
 conv at e5=>rhs;whnf
 have e4:∃ p1 p2 p3,nth aL.body 4=.For (.Name (Str.ofString "pick") p1) (.Name (Str.ofString "picks") p2) ck [] p3:=⟨_,_,_,rfl⟩
 obtain⟨_,_,_,e4⟩:=e4
 rw [e0,e1,e2,e3,e4,e5]
 clear e0 e1 e2 e3 e4 e5
 wp_walk using 6,aj
 refine dD ht hs hv hT w (by lia) (by lia) fun H1 r1 S1 X1 own1=>?_
 refine ao (S1.inst) fun fs1 f1 _=>?_
 wp_walk using 6,f1
 refine mi (n:=bC E T) (d:=7) S1 (b8 w) hz (fun x=>by have:=@bg E x;unfold big;lia) (dw w) (fun H2 r2 S2 A2=>?_) (fun l hl=>gX w hl)
 have hfin':bO (aB E) (bC E T) [] T=.fin s:=hfin
 refine rwE hfin' ?_
 dsimp only
 have hrs:=A2.s
 have X2:Ext H H2:=⟨GS X1.len A2.len,fun j hj=>by exact (A2.keep j (GU hj X1.len) fun hq=>by have:=own1 j hq;lia).trans (X1.keep j hj)⟩
 have own2:∀ j,Own r2 T j->H.length<=j/\j < H2.length:=fun j hj=>⟨by
  rcases A2.own j hj with hq | hq
  .exact own1 j hq
  .exact GS X1.len hq,S2.aU hj⟩
 have K2:=Kn.start (E:=E) hT
 generalize (T.filter fun x=>((cnt E [] x:Nat):Int)=0)=R2 at S2 K2
 wp_walk using 6,aj
 have S3:Srt (H2++[O.list []]++[O.list []]) r2 T (fun x=>cnt E [] x) (aB E) (some R2):=(S2.app _).app _
 have X3:Ext H (H2++[O.list []]++[O.list []]):=X2.trans (Ext.app.trans Ext.app)
 have gw3:(H2++[O.list []]++[O.list []])[H2.length]?=some (.list (([]:List Int).map .int)):=by refine (GR (by simp)).trans ?_;exact ak
 have ga3:(H2++[O.list []]++[O.list []])[H2.length+1]?=some (.list (([]:List Int).map .int)):=by refine (List.getElem?_append_right (by simp)).trans ?_;simp
 have hl3:(H2++[O.list []]++[O.list []]).length=H2.length+2:=by simp
 have hp3:=X3.get hp
 have hla:(H2++[O.list []]).length=H2.length+1:=by exact GY ..
 have hN:H.length<=H2.length:=X2.len
 refine rwE hp3 ?_
 generalize H2++[O.list []]++[O.list []]=H3 at S3 X3 gw3 ga3 hl3 hp3
 refine aW _ rfl ?_
 refine br (fun i σ=>∃ W R np kw g,Srt σ.H r2 T np (aB E) (some R)/\Kn E T g W R np/\c6 E T g/\g.length=i/\H2.length<=kw/\kw≠H2.length+1/\σ.H[kw]?=some (.list (W.map .int))/\σ.H[H2.length+1]?=some (.list (g.map .int))/\Ext H σ.H/\H2.length+2<=σ.H.length /\
   σ.m (Str.ofString "sorter")=some (.ref r1.s)/\σ.m (Str.ofString "waits")=some (.ref kw)/\σ.m (Str.ofString "drawn")=some (.ref (H2.length+1)))
  ⟨[],R2,_,H2.length,[],S3,K2,ia,rfl,Nat.le_refl _,by exact Nat.ne_of_lt (Nat.succ_le_of_lt (Nat.le_refl (Nat.succ (List.length H2)))),gw3,ga3,X3,by refine (?_:H2.length+2<=H3.length);simp_all,rfl,rfl,by refine rwS hla ?_;rfl⟩ ?_ ?_
 ·(intro i it σ RR hi ζ2;refine gP ζ2 fun W R np kw ζ3=>?_;clear ζ2;refine bW ζ3 fun g S' K' G' ζ4=>?_;clear ζ3;refine lg ζ4 fun hgl hkw hkwa gw ga X' ζ5=>?_;clear ζ4;refine ek ζ5 fun hlen m1 m2 m3=>?_;clear ζ5;intro hR)
  (refine ao (bA hi) fun p hpi ζ1=>?_;obtain rfl:=ζ1)
  refine⟨aq hp3 rfl (X'.get hp),?_⟩
  have hN1:∀ j,j < H.length->¬ Own r2 T j:=fun j hj hq=>Nat.lt_irrefl _ (GU hj (own2 j hq).1)
  have hil:=aa hpi
  have hne:0 < (W++R).length:=by
   refine Nat.pos_of_ne_zero fun h0=>?_
   have h0:W++R=[]:=List.length_eq_zero_iff.mp h0
   refine ao (iE hfin) fun B tB hB=>?_
   have hall:=mO w tB hB (g:=g) fun x hx=>by
    have:=(K'.av x).mpr hx
    rw [<- List.mem_append,h0] at this
    cases this
   exact Nat.lt_irrefl _ (GU hil (hpl ▸ hgl ▸ aQ hT hall))
  refine rwE gA (rwE (dN (n:=.local) rfl (.inl rfl) List.not_mem_nil) ?_)
  refine uO (B:=H2.length) S' K' w hz hz2 hne (fun j hj=>(own2 j hj).2) hkw (Nat.le_succ _) (Nat.succ_pos _) (by rw [hgl];exact GS (G5 hil) (hpl ▸ hz)) gw ga (hrs.symm ▸ m1) m2 m3 rfl fun H' m' np' R' k x j hx S6 K6 k6 hk1 hk2 g6 ga6 n1 n2 n3=>?_
  refine hR _ ⟨(W++R).eraseIdx j,R',np',k,g++[x],S6,K6,fm G' ((K'.ready.av x).mp (.inl (G0 hx))),by rw [GY,hgl];rfl,GS hkw (GS (G5 (aa gw)) hk1),Nat.ne_of_gt (GU (aa ga) hk1),g6,ga6,⟨GS X'.len (GS hk1 (G5 hk2)),fun j hj=>(k6 j (GU hj X'.len) (hN1 j hj) (Nat.ne_of_lt (GU hj (Nat.le_succ_of_le hN)))).trans (X'.keep j hj)⟩,GS hlen (GS hk1 (G5 hk2)),hrs ▸ n1,n2,n3⟩
 ·(intro σ ζ6;refine gP ζ6 fun W R np kw ζ7=>?_;clear ζ6;refine bW ζ7 fun g S' K' G' ζ8=>?_;clear ζ7;refine lg ζ8 fun hgl hkw hkwa gw ga X' ζ9=>?_;clear ζ8;refine ek ζ9 fun hlen m1 m2 m3=>?_;clear ζ9)
  rw [GX,GX] at hgl
  refine⟨aq hp3 rfl (X'.get hp),?_⟩
  wp_walk using 6,m3
  exact h _ _ g X' ga G' (by simp_all)
theorem pL (xs:List V) (k:Nat):sliceOf xs none (some (k:Int))=xs.take k:=by
 have hc:clip xs.length (k:Int)=min k xs.length:=e9
 refine (?_:(xs.drop 0).take (clip xs.length (k:Int) - 0)=_)
 refine rwE (hc ..) (rwE (List.drop_zero ..) (rwE (Nat.sub_zero ..) ?_))
 rcases Nat.le_total k xs.length with h | h
 .exact rwE (Nat.min_eq_left h) rfl
 .exact rwE (Nat.min_eq_right h) (rwE List.take_length (rwE (List.take_of_length_le h) rfl))
theorem qI (xs:List V) (k:Nat):sliceOf xs (some (k:Int)) none=xs.drop k:=by
 have hc:clip xs.length (k:Int)=min k xs.length:=e9
 refine (?_:(xs.drop (clip xs.length (k:Int))).take (xs.length - clip xs.length (k:Int))=_)
 refine rwE hc (rwE (List.take_of_length_le (by simp)) ?_)
 rcases Nat.le_total k xs.length with h | h
 .exact rwE (Nat.min_eq_left h) rfl
 .exact rwE (Nat.min_eq_right h) (rwE List.drop_length (rwE (List.drop_of_length_le h) rfl))
noncomputable def nm:Nat->Int
 | 0=>3
 | 1=>0
 | 2=>5
 | 3=>1
 | 4=>4
 | 5=>2
 | k=>k
noncomputable def nmL:List Int:=[3,0,5,1,4,2]
noncomputable def rowAt (cs:List Int) (r i:Nat):List Int:=((List.range i).filter fun (k:Nat)=>(cs[k]?.getD 0) % 3=(r:Int)).map nm
theorem wF {α:Type} {l:List α} {i:Nat} {a:α} (h:l[i]?=some a):l.set i a=l:=by
 refine List.ext_getElem? fun j=>?_
 refine (List.getElem?_set).trans ?_
 split
 .rename_i e;subst e
  exact rwE (if_pos (aa h)) (rwE h rfl)
 .rfl
theorem mz {Fo H:List O} {i:Nat} {xs:List V} (h:Fo[i]?=some (.list xs)) (h':H[i]?=some (.list xs)):kZ Fo (.enum (.ref i)) H:=by
 intro j hj
 obtain rfl:=List.mem_singleton.mp hj
 exact h'.trans h.symm
theorem cj {n i:Nat} (h:i < n):place n (i:Int)=some i:=by unfold place;refine (if_pos (by exact Int.ofNat_nonneg i)).trans ((if_pos (by exact Iff.mpr Int.ofNat_lt h)).trans ?_);simp
theorem yZ {i:Nat} (h:i < 6):(nmL.map V.int)[i]?=some (.int (nm i)):=(by decide:∀ i,i < 6->(nmL.map V.int)[i]?=some (.int (nm i))) i h
theorem sU {i:Nat} (h:i < 6):nm i∈nmL:=(by decide:∀ i,i < 6->nm i∈nmL) i h
noncomputable def nI:List Stmt:=bodyOf (nth cZ.body 4)
theorem vV {H:List O} {m:Str->Option V} {i:Nat} {cs:List Int} {a b w:Nat} {q:Nat->Nat} {ls:Nat->List Int} {Q:Fl->Mine.St->Prop} {X:V->Mine.St->Prop} (hi:i < 6) (hcs:cs.length=9) (ga:H[a]?=some (.list (cs.map .int))) (gb:H[b]?=some (.list (nmL.map .int)))
  (gw:H[w]?=some (.list [.ref (q 0),.ref (q 1),.ref (q 2)])) (gl:∀ r,r < 3->H[q r]?=some (.list ((ls r).map .int))/\0 < q r/\(ls r).length<=1000)
  (m1:m (Str.ofString "k")=some (.int i)) (m2:m (Str.ofString "cells")=some (.ref a)) (m3:m (Str.ofString "names")=some (.ref b)) (m4:m (Str.ofString "rows")=some (.ref w))
  (h:∀ r:Nat,r < 3->cs[i]?.getD 0 % 3=(r:Int)->Q .next ⟨H.set (q r) (.list ((ls r++[nm i]).map .int)),m⟩):a7 (prog.at 9) nI cZ.scope [] ⟨H,m⟩ Q X:=by
 have hb:nI=nI:=rfl
 conv at hb=>rhs;whnf
 rw [hb]
 clear hb
 obtain⟨c,hc⟩:∃ c,cs[i]?=some c:=⟨_,G6 (GW (GU hi (by decide)) hcs.symm)⟩
 obtain⟨r,hr⟩:=Int.eq_ofNat_of_zero_le (Int.emod_nonneg c (b:=3) (by decide))
 have hr3:r < 3:=Int.ofNat_lt.mp (hr ▸ Int.emod_lt_of_pos c (by decide))
 obtain⟨gq,hq0,hql⟩:=gl r hr3
 have hh:=h r hr3 (by rw [hc];exact hr)
 have hrow:[V.ref (q 0),V.ref (q 1),V.ref (q 2)][r]?=some (.ref (q r)):=by
  refine lt3 hr3 ?_ ?_ ?_<;>rfl
 clear h gl
 wp_walk using 6,ga,gb,gw
 refine⟨i,cj (by rw [hcs];exact GU hi (by decide)),_,by rw [G3,hc];rfl,npos,nlt hi (by decide),?_⟩
 wp_walk using 6,hr,gw,gb
 refine⟨r,cj hr3,_,hrow,npos,nlt hr3 (by decide),?_⟩
 wp_walk using 6,gq,gb
 refine⟨i,cj hi,_,yZ hi,npos,nlt hi (by decide),?_⟩
 wp_walk using 6,gq
 refine⟨hq0,GV hql (by decide),?_⟩
 rw [List.map_append] at hh
 exact hh
theorem vU {cs:List Int} {i r:Nat} (hr:cs[i]?.getD 0 % 3=(r:Int)) (r':Nat):rowAt cs r' (i+1)=rowAt cs r' i++if r'=r then [nm i] else []:=by
 unfold rowAt
 rw [List.range_succ,List.filter_append,List.map_append]
 by_cases h:r'=r
 .subst h;simp [hr]
 .have:¬ ((r:Int)=r'):=fun e=>h (Int.ofNat_inj.1 e).symm
  simp [hr,h,this]
theorem pC {cs:List Int} {r i:Nat}:(rowAt cs r i).length<=i:=by
 unfold rowAt
 rw [GX]
 have:=List.length_filter_le (fun (k:Nat)=>decide ((cs[k]?.getD 0) % 3=(r:Int))) (List.range i)
 rwa [List.length_range] at this
noncomputable def kI:List Stmt:=bodyOf (nth cZ.body 6)
theorem sW {H:List O} {m:Str->Option V} {c:Int} {us:List V} {n p:Nat} {Q:Fl->Mine.St->Prop} {X:V->Mine.St->Prop} (hc:0<=c) (gn:H[n]?=some (.list (nmL.map .int))) (gp:H[p]?=some (.list us)) (hp0:0 < p) (hu:us.length<=1000)
  (m1:m (Str.ofString "cell")=some (.int c)) (m2:m (Str.ofString "names")=some (.ref n)) (m3:m (Str.ofString "pairs")=some (.ref p))
  (h1:∀ H',H.length<=H'.length->(∀ j,j < H.length->H'[j]?=H[j]?)->Q .next ⟨H',pm m (Str.ofString "ends") (.ref H.length)⟩)
  (h2:∀ H' q a b,H.length<=q->H.length<=H'.length->(∀ j,j < H.length->j≠p->H'[j]?=H[j]?)->H'[p]?=some (.list (us++[.ref q]))->H'[q]?=some (.list [.int a,.int b])->a∈nmL->b∈nmL->Q .next ⟨H',pm m (Str.ofString "ends") (.ref H.length)⟩) :
  a7 (prog.at 9) kI cZ.scope [] ⟨H,m⟩ Q X:=by
 have hb:kI=kI:=rfl
 conv at hb=>rhs;whnf
 rw [hb]
 clear hb
 wp_walk using 6,aj
 have kk6:∀ j,j < H.length->(H++[O.list [V.int (c % 6),V.int (c / 6 % 6)]])[j]?=H[j]?:=fun j hj=>GR hj
 have g6:(H++[O.list [V.int (c % 6),V.int (c / 6 % 6)]])[H.length]?=some (.list [V.int (c % 6),V.int (c / 6 % 6)]):=ak
 have l6:(H++[O.list [V.int (c % 6),V.int (c / 6 % 6)]]).length=H.length+1:=by exact GY ..
 have nl:=aa gn
 have pl:=aa gp
 have hq0:0 < H.length:=Nat.zero_lt_of_lt nl
 clear hc
 generalize H++[O.list [V.int (c % 6),V.int (c / 6 % 6)]]=H6 at kk6 g6 l6
 generalize hK:zB (prog.at 9) _ cZ.scope [] _ _=K
 have main:∀ (H6:List O) (a b:Int),(0<=a/\a < 6)->(0<=b/\b < 6)->H6[H.length]?=some (.list [V.int a,V.int b])->(∀ j,j < H.length->H6[j]?=H[j]?)->H6.length=H.length+1->K .next ⟨H6,pm m (Str.ofString "ends") (.ref H.length)⟩:=by
  clear kk6 g6 l6
  clear H6
  intro H6 a b ha hb g6 kk6 l6
  have gn7:H6[n]?=some (.list (nmL.map .int)):=(kk6 _ nl).trans gn
  have pp6:H6[p]?=some (.list us):=(kk6 _ pl).trans gp
  obtain⟨na,rfl⟩:=Int.eq_ofNat_of_zero_le ha.1
  obtain⟨nb,rfl⟩:=Int.eq_ofNat_of_zero_le hb.1
  have la:na < 6:=Int.ofNat_lt.mp ha.2
  have lb:nb < 6:=Int.ofNat_lt.mp hb.2
  clear ha hb
  have hle:H.length<=H6.length:=Nat.le_of_eq l6 |> fun _=>l6 ▸ Nat.le_succ _
  have happ:Q .next ⟨(H6++[O.list [V.int (nm na),V.int (nm nb)]]).set p (O.list (us++[V.ref H6.length])),pm m (Str.ofString "ends") (.ref H.length)⟩:=by
   have pl6:p < H6.length:=GU pl hle
   refine h2 _ H6.length (nm na) (nm nb) hle ?_ (fun j hj hne=>?_) (au ?_) ?_ (sU la) (sU lb)
   .refine rwE List.length_set (rwE GY ?_);exact Nat.le_succ_of_le hle
   .exact (af (Ne.symm hne)).trans ((GR (GU hj hle)).trans (kk6 j hj))
   .refine rwE GY ?_;exact Nat.lt_succ_of_lt pl6
   .exact (af (Nat.ne_of_lt pl6)).trans ak
  have pp7:(H6++[O.list [V.int (nm na),V.int (nm nb)]])[p]?=some (.list us):=(GR (GU pl hle)).trans pp6
  have hs:=h1 H6 hle kk6
  subst hK
  clear h1 h2
  wp_walk using 6,aj
  generalize hT:a7 (prog.at 9) [_] cZ.scope []=T
  generalize hB:bk _ _ _=B
  have hBt:B true ⟨H6,pm m (Str.ofString "ends") (.ref H.length)⟩:=by
   subst hB hT
   wp_walk using 6,gn7
   refine⟨na,cj la,_,yZ la,by simp,by lia,?_⟩
   wp_walk using 6,gn7
   refine⟨nb,cj lb,_,yZ lb,by simp,by lia,?_⟩
   wp_walk using 6,pp7
   exact⟨hp0,GV hu (by decide),happ⟩
  refine⟨fun h7=>?_,fun h7=>?_⟩
  .wp_walk using 6,aj
   refine rwE h7 ?_;exact hBt
  wp_walk using 6,aj
  refine⟨fun h8=>?_,fun h8=>?_⟩
  .wp_walk using 6,aj
   refine rwE h8 ?_;exact hBt
  subst hB
  wp_walk using 6,aj
  exact hs
 have hr:∀ z:Int,0<=z % 6/\z % 6 < 6:=fun z=>⟨Int.emod_nonneg _ (by decide),Int.emod_lt_of_pos _ (by decide)⟩
 refine⟨fun h3=>?_,fun h3=>?_⟩
 .wp_walk using 6,g6
  refine⟨hq0,by exact Nat.le_add_left _ _,[c % 6,c / 6 % 6],rfl,by exact Nat.le_add_left _ _,fun ks' hp _=>?_⟩
  obtain⟨a,b,rfl,ha,hb⟩:∃ a b,ks'=[a,b]/\(0<=a/\a < 6)/\(0<=b/\b < 6):=by
   have hlen:=hp.length_eq
   have hmem:∀ z∈ks',0<=z/\z < 6:=fun z hz=>by
    rcases List.mem_cons.mp (hp.mem_iff.mp hz) with rfl | hz
    .exact hr _
    .obtain rfl:=List.mem_singleton.mp hz;exact hr _
   match ks',hlen with
   | [a,b],_=>exact jk a b rfl (hmem a (.head _)) (hmem b (.tail _ (.head _)))
  have g6':(H6.set H.length (O.list ([a,b].map V.int)))[H.length]?=some (.list [V.int a,V.int b]):=au (l6 ▸ Nat.lt_succ_self _)
  wp_walk using 6,aj
  exact main _ a b ha hb g6' (fun j hj=>(af (Ne.symm (Nat.ne_of_lt hj))).trans (kk6 j hj)) (List.length_set.trans l6)
 .wp_walk using 6,aj
  exact main _ _ _ (hr _) (hr _) g6 kk6 l6
set_option maxHeartbeats 8000000 in
theorem tq {H:List O} {k:Nat} {xs:List Int} {Q X:V->List O->Prop} (hk:H[k]?=some (.frozen (xs.map .int))) (hxl:xs.length<=63)
  (h:∀ H' k (cs:List Int) us (prs:List (Int × Int)) (kk:Nat) (picks:List Int),Ext H H'->H'[k]?=some (.tuple [.ref (H.length+6),.ref (H.length+8),.ref kk])->H'[H.length+6]?=some (.list [.ref (H.length+3),.ref (H.length+4),.ref (H.length+5)])->(∀ r,r < 3->H'[H.length+3+r]?=some (.list ((rowAt cs r 6).map .int))) ->
   H'[H.length+8]?=some (.list us)->ILs H' us (prs.map fun (e:Int × Int)=>[e.1,e.2])->(∀ e∈prs,e.1∈nmL/\e.2∈nmL)->prs.length<=3->H'[kk]?=some (.list (picks.map .int))->picks.length=6->(∀ p∈picks,0<=p/\p < 1000000)->Q (.ref k) H'):prog.bP 10 151 [.ref k] H Q X:=by
 rw [bx AH]
 have hb0:cZ.body=cZ.body:=rfl
 conv at hb0=>rhs;whnf
 rw [run_eq hb0 (ps:=[Str.ofString "script"]) rfl rfl rfl rfl]
 clear hb0
 simp only [List.zip_cons_cons,List.zip_nil_right]
 wp_walk using 6,hk
 have hl1:(H++[O.list [V.int 3,V.int 1,V.int 3,V.int 2,V.int 1,V.int 2,V.int 18,V.int 13,V.int 22]]).length=H.length+1:=by exact GY ..
 have hkl:=aa hk
 refine⟨xs.map .int,.inr (by refine (GR hkl).trans ?_;exact hk),by refine rwE (GX ..) ?_;unfold big;exact GS hxl (Nat.le_of_ble_eq_true rfl),none,rfl,some 60,rfl,(fun k e=>by exact nS e),(fun k e=>by cases e;decide),?_⟩
 have e60:sliceOf (xs.map V.int) none (some 60)=(xs.take 60).map V.int:=(pL _ 60).trans (by rw [List.map_take])
 refine rwE e60 (rwE hl1 ?_)
 have hyl:(xs.take 60).length<=60:=List.length_take_le _ _
 generalize xs.take 60=ys at hyl
 have gs:(H++[O.list [V.int 3,V.int 1,V.int 3,V.int 2,V.int 1,V.int 2,V.int 18,V.int 13,V.int 22]]++[O.list (ys.map V.int)])[H.length+1]?=some (.list (ys.map .int)):=by refine rwS hl1 ?_;exact ak
 have gc:(H++[O.list [V.int 3,V.int 1,V.int 3,V.int 2,V.int 1,V.int 2,V.int 18,V.int 13,V.int 22]]++[O.list (ys.map V.int)])[H.length]?=some (.list (([3,1,3,2,1,2,18,13,22]:List Int).map .int)):=by
  refine (GR (by simp)).trans ?_;exact ak
 have X1:Ext H (H++[O.list [V.int 3,V.int 1,V.int 3,V.int 2,V.int 1,V.int 2,V.int 18,V.int 13,V.int 22]]++[O.list (ys.map V.int)]):=Ext.app.trans Ext.app
 have hl2:(H++[O.list [V.int 3,V.int 1,V.int 3,V.int 2,V.int 1,V.int 2,V.int 18,V.int 13,V.int 22]]++[O.list (ys.map V.int)]).length=H.length+2:=by simp
 refine⟨by refine rwE (GX ..) ?_;exact GS hyl (by decide:60<=big),?_⟩
 wp_walk using 6,gs
 generalize H++[O.list [V.int 3,V.int 1,V.int 3,V.int 2,V.int 1,V.int 2,V.int 18,V.int 13,V.int 22]]++[O.list (ys.map V.int)]=H1 at gs gc X1 hl2
 refine br (fun i σ=>∃ cs,σ.H=H1.set H.length (.list (cs.map .int))/\cs.length=9/\(∀ c∈cs,0<=c/\c<=22+143 * (i:Int))/\σ.m (Str.ofString "cells")=some (.ref H.length))
  ⟨[3,1,3,2,1,2,18,13,22],?_,rfl,?_,rfl⟩ ?_ ?_
 .exact (wF gc).symm
 .exact (by decide:∀ c∈([3,1,3,2,1,2,18,13,22]:List Int),0<=c/\c<=22+143 * ((0:Nat):Int))
 ·(intro i it σ RR hi ζ4;refine bW ζ4 fun cs hH hcl hcb m1=>?_;clear ζ4;intro hR)
  obtain⟨x,hx,rfl⟩:∃ x,ys[i]?=some x/\it=.pair (.int i) (.int x):=by
   rw [G3,List.getElem?_zipIdx,G3] at hi
   induction hq:ys[i]? with
   | none=>rw [hq] at hi;exact nS hi
   | some x=>rw [hq] at hi;cases hi;exact aW x rfl (by simp)
  have g1:σ.H[H.length]?=some (.list (cs.map .int)):=by refine rwE hH ?_;exact au (by exact G5 (Nat.le_of_eq (id (Eq.symm hl2))))
  have hil:=aa hx
  refine⟨mz gs (by refine rwE hH (rwE (af (by exact Nat.ne_of_lt (Nat.succ_le_of_lt (Nat.le_refl (Nat.succ (List.length H)))))) ?_);exact gs),?_⟩
  wp_walk using 6,g1
  obtain⟨c,hc⟩:∃ c,cs[i % 9]?=some c:=⟨_,G6 (GW (Nat.mod_lt i (by decide)) hcl.symm)⟩
  have hj:((i:Int) % 9).toNat=i % 9:=by exact Eq.refl (Int.toNat (↑i % 9))
  have hpl:place cs.length ((i:Int) % 9)=some (i % 9):=by rw [hcl];exact pm9
  refine⟨i % 9,hpl,_,by rw [G3,hc];rfl,npos (i:=i % 9),nlt (Nat.mod_lt i (by decide:0 < 9)) (by decide),?_⟩
  have hcm:=hcb c (G0 hc)
  wp_walk using 6,g1,hj
  refine AQ (by exact Nat.zero_lt_of_lt hkl) (by exact Int.ofNat_nonneg (i % Int.natAbs 9)) (by lia) (hR _ ⟨cs.set (i % 9) (c+x % 144),?_,by rw [List.length_set];exact hcl,?_,m1⟩)
  .refine (?_:σ.H.set _ _=_)
   rw [hH,List.set_set,List.map_set]
  .intro z hz
   rcases List.mem_or_eq_of_mem_set hz with hz | rfl
   .exact cbn (Nat.le_succ i) (hcb z hz)
   .exact cbx hcm
 ·(intro σ ζ5;refine bW ζ5 fun cs hH hcl hcb m1=>?_;clear ζ5)
  have gs':σ.H[H.length+1]?=some (.list (ys.map .int)):=by refine rwE hH (rwE (af (by exact Nat.ne_of_lt (Nat.succ_le_of_lt (Nat.le_refl (Nat.succ (List.length H)))))) ?_);exact gs
  refine⟨mz gs gs',?_⟩
  wp_walk using 6,hk
  refine⟨by unfold small;decide,?_⟩
  wp_walk using 6,aj
  have hl3:σ.H.length=H.length+2:=by exact rwE hH (rwE List.length_set (rwE hl2 rfl))
  have gc3:σ.H[H.length]?=some (.list (cs.map .int)):=by refine rwE hH ?_;exact au (by exact G5 (Nat.le_of_eq (id (Eq.symm hl2))))
  have X3:Ext H σ.H:=by rw [hH];exact X1.set (Nat.le_refl _)
  simp only [GY,List.length_cons,List.length_nil,hl3,Nat.add_assoc,Nat.zero_add,Nat.reduceAdd,List.append_assoc,List.cons_append,List.nil_append]
  have k4:∀ j,j < H.length+2->(σ.H++[O.list [V.int 3,V.int 0,V.int 5,V.int 1,V.int 4,V.int 2],O.list [],O.list [],O.list [],O.list [V.ref (H.length+3),V.ref (H.length+4),V.ref (H.length+5)],O.range 0 6])[j]?=σ.H[j]?:=fun j hj=>GR (by exact GW hj (id (Eq.symm hl3)))
  have r4:∀ j,(σ.H++[O.list [V.int 3,V.int 0,V.int 5,V.int 1,V.int 4,V.int 2],O.list [],O.list [],O.list [],O.list [V.ref (H.length+3),V.ref (H.length+4),V.ref (H.length+5)],O.range 0 6])[H.length+2+j]?=[O.list [V.int 3,V.int 0,V.int 5,V.int 1,V.int 4,V.int 2],O.list [],O.list [],O.list [],O.list [V.ref (H.length+3),V.ref (H.length+4),V.ref (H.length+5)],O.range 0 6][j]?:=fun j=>by
   rw [List.getElem?_append_right (by exact aU5 rfl (aU6 (id (Eq.symm hl3)))),hl3,Nat.add_sub_cancel_left]
  have l4:(σ.H++[O.list [V.int 3,V.int 0,V.int 5,V.int 1,V.int 4,V.int 2],O.list [],O.list [],O.list [],O.list [V.ref (H.length+3),V.ref (H.length+4),V.ref (H.length+5)],O.range 0 6]).length=H.length+8:=by simp [hl3]
  generalize σ.H++[O.list [V.int 3,V.int 0,V.int 5,V.int 1,V.int 4,V.int 2],O.list [],O.list [],O.list [],O.list [V.ref (H.length+3),V.ref (H.length+4),V.ref (H.length+5)],O.range 0 6]=H4 at k4 r4 l4
  have n4:H4[H.length+2]?=some (.list (nmL.map .int)):=r4 0
  have w4:H4[H.length+6]?=some (.list [V.ref (H.length+3),V.ref (H.length+4),V.ref (H.length+5)]):=r4 4
  have q4:H4[H.length+7]?=some (.range 0 6):=r4 5
  have c4:H4[H.length]?=some (.list (cs.map .int)):=by refine (k4 _ (by exact G5 (Nat.le_refl (Nat.succ (Nat.succ (List.length H)))))).trans ?_;exact gc3
  have a4:∀ r,r < 3->H4[H.length+3+r]?=some (.list []):=fun r hr=>by
   have:=r4 (1+r)
   refine rwE (show H.length+3+r=H.length+2+(1+r) from Nat.add_assoc (H.length+2) 1 r) (rwE this ?_)
   refine lt3 hr ?_ ?_ ?_<;>rfl
  refine rwE q4 ?_
  refine aW _ rfl ?_
  refine br (fun i τ=>τ.H.length=H.length+8/\(∀ j,(j < H.length+3\/H.length+6<=j)->τ.H[j]?=H4[j]?)/\(∀ r,r < 3->τ.H[H.length+3+r]?=some (.list ((rowAt cs r i).map .int)))/\τ.m (Str.ofString "cells")=some (.ref H.length)/\τ.m (Str.ofString "names")=some (.ref (H.length+2))/\τ.m (Str.ofString "rows")=some (.ref (H.length+6)))
   ⟨l4,fun _ _=>rfl,fun r hr=>by refine (a4 r hr).trans ?_;rfl,m1,rfl,rfl⟩ ?_ ?_
  ·(intro i it τ RR hi ζ6;refine nk ζ6 fun hl hk ha p1 p2 p3=>?_;clear ζ6;intro hR)
   obtain⟨hi6,rfl⟩:i < 6/\it=.one (.int i):=by
    have hil:=aa hi
    simp at hil
    refine⟨hil,?_⟩
    rw [G3,List.getElem?_range (by exact hil)] at hi
    cases hi
    simp
   refine⟨aq q4 rfl ((hk _ (.inr (Nat.le_succ _))).trans q4),?_⟩
   refine rwE gA (rwE (dN (n:=.local) rfl (.inl rfl) List.not_mem_nil) ?_)
   refine vV (a:=H.length) (b:=H.length+2) (w:=H.length+6) (q:=fun r=>H.length+3+r) (ls:=fun r=>rowAt cs r i) hi6 hcl ((hk _ (.inl (Nat.lt_add_of_pos_right (by decide)))).trans c4) ((hk _ (.inl (Nat.lt_succ_self _))).trans n4) ((hk _ (.inr (Nat.le_refl _))).trans w4)
    (fun r hr=>⟨ha r hr,GU (Nat.succ_pos _) (Nat.le_add_right _ _),GS pC (GS (G5 hi6) (by decide))⟩) rfl p1 p2 p3 fun r hr3 hr=>hR _ ⟨List.length_set.trans hl,fun j hj=>(af (E2 hr3 hj)).trans (hk j hj),fun r' hr'=>?_,p1,p2,p3⟩
   rw [vU hr]
   by_cases h:r'=r
   .subst h
    rw [if_pos rfl];exact au (by rw [hl];exact DF hr' (by decide))
   .refine (af (sne h)).trans ?_
    rw [if_neg h,List.append_nil];exact ha r' hr'
  ·(intro τ ζ7;refine nk ζ7 fun hl hk ha p1 p2 p3=>?_;clear ζ7)
   refine⟨aq q4 rfl (by refine (hk _ (by simp)).trans ?_;exact q4),?_⟩
   have gc5:τ.H[H.length]?=some (.list (cs.map .int)):=by refine (hk _ (by simp)).trans ?_;exact c4
   have gn5:τ.H[H.length+2]?=some (.list (nmL.map .int)):=by refine (hk _ (by exact Or.inl (Nat.le_refl (Nat.succ (List.length H+2))))).trans ?_;exact n4
   have gr5:τ.H[H.length+6]?=some (.list [V.ref (H.length+3),V.ref (H.length+4),V.ref (H.length+5)]):=by refine (hk _ (by simp)).trans ?_;exact w4
   wp_walk using 6,p1,gc5
   have gc6:(τ.H++[O.list []])[H.length]?=some (.list (cs.map .int)):=by refine (GR (by exact PyProof.Rows.place_lt gc5)).trans ?_;exact gc5
   have e6:sliceOf (cs.map V.int) (some 6) none=(cs.drop 6).map V.int:=(qI _ 6).trans (by rw [List.map_drop])
   have hdl:(cs.drop 6).length=3:=List.length_drop.trans (congrArg (· - 6) hcl)
   refine⟨_,.inl gc6,by refine rwE (GX ..) (rwE hcl ?_);decide,some 6,rfl,none,rfl,(fun k e=>by cases e;decide),(fun k e=>by exact nS e),?_⟩
   refine rwE e6 ?_
   have l5:(τ.H++[O.list []]++[O.list ((cs.drop 6).map V.int)]).length=H.length+10:=by simp [hl]
   have hlt:(τ.H++[O.list []]).length=H.length+9:=by simp [hl]
   have k5:∀ j,j < H.length+8->(τ.H++[O.list []]++[O.list ((cs.drop 6).map V.int)])[j]?=τ.H[j]?:=fun j hj=>by exact (GR (GW (Nat.lt_succ_of_lt hj) hlt.symm)).trans (GR (GW hj hl.symm))
   have s5:(τ.H++[O.list []]++[O.list ((cs.drop 6).map V.int)])[H.length+9]?=some (.list ((cs.drop 6).map V.int)):=by refine rwS hlt ?_;exact ak
   have p5:(τ.H++[O.list []]++[O.list ((cs.drop 6).map V.int)])[H.length+8]?=some (.list []):=by refine rwE (GR (GW (Nat.lt_succ_self _) hlt.symm)) (rwS hl ?_);exact ak
   refine⟨by refine rwE (GX ..) (rwE hdl ?_);decide,?_⟩
   wp_walk using 6,aj
   refine rwE hlt (rwE hl (rwE s5 ?_))
   generalize τ.H++[O.list []]++[O.list ((cs.drop 6).map V.int)]=H5 at l5 k5 s5 p5
   refine aW _ rfl ?_
   have hcb':∀ c∈cs.drop 6,0<=c:=fun c hc=>(hcb c (List.mem_of_mem_drop hc)).1
   refine br (fun i υ=>∃ (us:List V) (prs:List (Int × Int)),H.length+10<=υ.H.length/\(∀ j,j < H.length+8->υ.H[j]?=τ.H[j]?)/\υ.H[H.length+9]?=some (.list ((cs.drop 6).map V.int))/\υ.H[H.length+8]?=some (.list us)/\ILs υ.H us (prs.map fun (e:Int × Int)=>[e.1,e.2])/\(∀ v∈us,∀ q,v=.ref q->H.length+10<=q) /\
     (∀ e∈prs,e.1∈nmL/\e.2∈nmL)/\prs.length<=i/\υ.m (Str.ofString "cells")=some (.ref H.length)/\υ.m (Str.ofString "names")=some (.ref (H.length+2))/\υ.m (Str.ofString "rows")=some (.ref (H.length+6))/\υ.m (Str.ofString "pairs")=some (.ref (H.length+8)))
    ⟨[],[],Nat.le_of_eq l5.symm,k5,s5,p5,trivial,(fun v hv=>by cases hv),(fun e he=>by cases he),Nat.le_refl _,p1,p2,p3,rfl⟩ ?_ ?_
   ·(intro i it υ RR hi ζ8;refine jh ζ8 fun us prs ll kk ss ζ9=>?_;clear ζ8;refine lg ζ9 fun pp hus prot hpr hpl t1 Ft=>?_;clear ζ9;refine aJ Ft fun t2 t3 t4=>?_;clear Ft;intro hR)
    (refine ao (bA hi) fun c hc ζ1=>?_;obtain rfl:=ζ1)
    have hil:=aa hc
    refine⟨aq s5 rfl ss,?_⟩
    have hus3:us.length=prs.length:=by exact (hus.len ..).trans (GX ..)
    refine rwE gA (rwE (dN (n:=.local) rfl (.inl rfl) List.not_mem_nil) ?_)
    have hL:H.length+8 < υ.H.length:=aa pp
    refine sW (n:=H.length+2) (p:=H.length+8) (hcb' c (G0 hc)) ((kk _ (by simp)).trans gn5) pp (Nat.succ_pos _) (GS (Nat.le_of_eq hus3) (GS hpl (GS (G5 (GW hil hdl)) (by decide)))) rfl t2 t4 (fun H6 hl6 kk6=>?_) (fun H6 q a b hq hl6 kk6 gp gq ha hb=>?_)
    .exact hR _ ⟨us,prs,GS ll hl6,fun j hj=>(kk6 j (Nat.lt_trans hj hL)).trans (kk j hj),(kk6 _ (aa ss)).trans ss,(kk6 _ hL).trans pp,hus.frame fun v hv q hq hlt=>kk6 q hlt,prot,hpr,Nat.le_succ_of_le hpl,t1,t2,t3,t4⟩
    .refine hR _ ⟨us++[.ref q],prs++[(a,b)],GS ll hl6,fun j hj=>(kk6 j (Nat.lt_trans hj hL) (Nat.ne_of_lt hj)).trans (kk j hj),(kk6 _ (aa ss) (Nat.succ_ne_self _)).trans ss,gp,?_,fun v hv r hr=>?_,fun e he=>?_,?_,t1,t2,t3,t4⟩
     .refine rwE List.map_append ?_
      exact ILs.snoc (hus.frame fun v hv r hr hlt=>kk6 r hlt (Nat.ne_of_gt (GU (Nat.add_lt_add_left (by decide) _) (prot v hv r hr)))) ⟨_,rfl,gq⟩
     .rcases List.mem_append.mp hv with hv | hv
      .exact prot v hv r hr
      .obtain rfl:=List.mem_singleton.mp hv
       cases hr;exact GS ll hq
     .rcases List.mem_append.mp he with he | he
      .exact hpr e he
      .obtain rfl:=List.mem_singleton.mp he
       exact⟨ha,hb⟩
     .refine rwE GY (rwE List.length_singleton ?_);exact Nat.add_le_add_right hpl 1
   ·(intro υ Fp;refine jh Fp fun us prs ll kk ss Fx=>?_;clear Fp;refine lg Fx fun pp hus prot hpr hpl t1 Fy=>?_;clear Fx;refine aJ Fy fun t2 t3 t4=>?_;clear Fy)
    rw [GX,GX] at hpl
    refine⟨aq s5 rfl ss,?_⟩
    wp_walk using 6,t1,t2,t3,t4
    have gc7:υ.H[H.length]?=some (.list (cs.map .int)):=by refine (kk _ (by simp)).trans ?_;exact gc5
    have e7:sliceOf (cs.map V.int) none (some 6)=(cs.take 6).map V.int:=(pL _ 6).trans (by rw [List.map_take])
    have htl:(cs.take 6).length=6:=List.length_take.trans (congrArg (min 6) hcl)
    refine⟨_,.inl gc7,by refine rwE (GX ..) (rwE hcl ?_);decide,none,rfl,some 6,rfl,(fun k e=>by exact nS e),(fun k e=>by cases e;decide),?_⟩
    refine rwE e7 ?_
    have g8:(υ.H++[O.list ((cs.take 6).map V.int)])[υ.H.length]?=some (.list ((cs.take 6).map V.int)):=ak
    have k8:∀ j,j < υ.H.length->(υ.H++[O.list ((cs.take 6).map V.int)])[j]?=υ.H[j]?:=fun j hj=>GR hj
    have l8:(υ.H++[O.list ((cs.take 6).map V.int)]).length=υ.H.length+1:=by exact GY ..
    refine⟨by refine rwE (GX ..) (rwE htl ?_);decide,?_⟩
    wp_walk using 6,aj
    refine rwE g8 ?_
    generalize υ.H++[O.list ((cs.take 6).map V.int)]=H8 at g8 k8 l8
    have hcb2:∀ c∈cs.take 6,0<=c/\c<=22+143 * 60:=fun c hc=>by
     have:=hcb c (List.mem_of_mem_take hc)
     have hlen:(((ys.map V.int).zipIdx).map fun e=>Item.pair (V.int e.2) e.1).length=ys.length:=by simp
     rw [hlen] at this
     exact cbn hyl this
    generalize cs.take 6=ts at htl g8 hcb2
    refine aW _ rfl ?_
    generalize hsc:az cZ.scope _=sc
    generalize hro:freeNames _=ro
    have q1:sc.names.lookup (Str.ofString "cell")=some .local:=by refine rwS hsc ?_;kernel_rfl
    have q2:ro=[]:=by refine hro.symm.trans ?_;kernel_rfl
    subst q2
    refine aO (fun j χ=>χ.H=H8++[O.list (((ts.take j).map fun c=>c / 3).map V.int)]) rfl ?_ ?_
    .rintro j it χ T hi hH hT
     (refine ao (bA hi) fun c hc ζ2=>?_;obtain rfl:=ζ2)
     refine⟨aq g8 rfl (by refine rwE hH (rwE (GR (aa g8)) ?_);exact g8),?_⟩
     have g9:χ.H[H8.length]?=some (.list (((ts.take j).map fun c=>c / 3).map V.int)):=by refine rwE hH ?_;exact ak
     have hjl:=aa hc
     wp_walk using 6,q1,g9
     refine⟨by simp only [GX,List.length_take];exact GV (GS (Nat.min_le_right ..) (Nat.le_of_eq htl)) (by decide),hT _ ?_⟩
     refine (?_:χ.H.set _ _=_)
     refine rwE hH (rwE cW (rwE (take_snoc hc) (rwE List.map_append (rwE List.map_append ?_))))
     rfl
    .rintro χ hH
     rw [GX,GX,List.take_length] at hH
     refine⟨aq g8 rfl (by refine rwE hH (rwE (GR (aa g8)) ?_);exact g8),?_⟩
     wp_walk using 6,q1
     have lχ:χ.H.length=H8.length+1:=by refine rwE hH ?_;exact GY ..
     have kχ:∀ j,j < υ.H.length->(χ.H++[O.tuple [V.ref (H.length+6),V.ref (H.length+8),V.ref H8.length]])[j]?=υ.H[j]?:=fun j hj=>by
      exact rwE (GR (GW (Nat.lt_succ_of_lt (Nat.lt_succ_of_lt hj)) (lχ.trans (congrArg (·+1) l8)).symm)) (rwE hH (rwE (GR (by exact aT5 (aU6 l8) hj)) (rwE (k8 j hj) rfl)))
     refine h _ _ cs us prs H8.length (ts.map fun c=>c / 3) ⟨by refine rwE GY (rwE lχ (rwE l8 ?_));exact GS (GS (Nat.le_add_right _ _) ll) (Nat.le_add_right _ 3),fun j hj=>?_⟩ ak ?_ (fun r hr=>?_) ?_ ?_ hpr (GS hpl (Nat.le_of_eq hdl)) ?_ (by refine (GX ..).trans ?_;exact htl) ?_
     .refine (kχ j (by exact aT5 ll hj)).trans ((kk j (by exact aT5 (aU6 rfl) hj)).trans ((hk j (by exact Or.inl (aT5 Nat.le.refl hj))).trans ((k4 j (by exact aT5 (aU6 rfl) hj)).trans ?_)));exact X3.keep j hj
     .refine (kχ _ (GU (Nat.add_lt_add_left (by decide) _) ll)).trans ((kk _ (Nat.add_lt_add_left (by decide) _)).trans ?_);exact gr5
     .refine (kχ _ (GU (DF hr (by decide)) ll)).trans ((kk _ (DF hr (by decide))).trans ?_)
      have:=ha r hr
      simpa using this
     .refine (kχ _ (GU (Nat.add_lt_add_left (by decide) _) ll)).trans ?_;exact pp
     .exact hus.frame fun v hv q hq hlt=>kχ q hlt
     .refine rwE (GR (GW (Nat.lt_succ_self _) lχ.symm)) (rwE hH ?_);exact ak
     .intro p hp
      (refine ao (List.mem_map.mp hp) fun c hc ζ3=>?_;obtain rfl:=ζ3)
      exact cbd (hcb2 c hc)
theorem xd {i j:Nat} (hi:i < 6) (hj:j < 6) (h:nm i=nm j):i=j:=by
 rcases (by lia:i=0\/i=1\/i=2\/i=3\/i=4\/i=5) with rfl | rfl | rfl | rfl | rfl | rfl <;>
 rcases (by lia:j=0\/j=1\/j=2\/j=3\/j=4\/j=5) with rfl | rfl | rfl | rfl | rfl | rfl<;>first | rfl | exact absurd h (by decide)
theorem sS {x:Int}:x∈nmL↔∃ k,k < 6/\nm k=x:=by
 constructor
 .intro h
  unfold nmL at h
  simp only [List.mem_cons,List.not_mem_nil,or_false] at h
  rcases h with rfl | rfl | rfl | rfl | rfl | rfl
  .exact aW 0 (by simp) rfl
  .exact aW 1 (by exact Nat.lt_succ_of_le (Nat.succ_pos 4)) rfl
  .exact aW 2 (by simp) rfl
  .exact aW 3 (by exact G5 (G5 (Nat.le_refl (Nat.succ (Nat.succ (Nat.succ 3)))))) rfl
  .exact aW 4 (by exact Nat.le.step Nat.le.refl) rfl
  .exact aW 5 (by exact Nat.lt_succ_self _) rfl
 ·(intro ζ1;refine ao ζ1 fun k hk ζ2=>?_;clear ζ1;obtain rfl:=ζ2);exact sU hk
noncomputable def dig (cs:List Int) (k:Nat):Int:=(cs[k]?.getD 0) % 3
theorem dR {cs:List Int} {r:Nat} {x:Int}:x∈rowAt cs r 6↔∃ k,k < 6/\dig cs k=r/\nm k=x:=by
 unfold rowAt dig
 simp only [List.mem_map,List.mem_filter,List.mem_range,decide_eq_true_eq,and_assoc]
theorem cM {cs:List Int} {r:Nat}:(rowAt cs r 6).Nodup:=by
 unfold rowAt
 refine List.pairwise_map.mpr ?_
 have:(List.range 6).Nodup:=List.nodup_range
 refine (this.filter _).imp_of_mem fun {a b} ha hb hab e=>hab (xd ?_ ?_ e)
 .exact List.mem_range.mp (List.mem_filter.mp ha).1
 .exact List.mem_range.mp (List.mem_filter.mp hb).1
theorem bK {cs:List Int} {r r':Nat} {x:Int} (h:x∈rowAt cs r 6) (h':x∈rowAt cs r' 6):r=r':=by
 refine d8 (dR.mp h) fun k hk h1 h2=>?_
 refine d8 (dR.mp h') fun k' hk' h1' h2'=>?_
 have:=xd hk hk' (h2.trans h2'.symm)
 subst this
 lia
noncomputable def ay (cs:List Int):List Int:=rowAt cs 0 6++rowAt cs 1 6++rowAt cs 2 6
theorem cK {cs:List Int} {x:Int}:x∈ay cs↔x∈nmL:=by
 unfold ay
 rw [List.mem_append,List.mem_append,dR,dR,dR,sS]
 constructor
 .rintro ((⟨k,h,_,e⟩ | ⟨k,h,_,e⟩) | ⟨k,h,_,e⟩)<;>exact aW k h e
 ·(intro ζ3;refine ao ζ3 fun k h e=>?_;clear ζ3)
  have hd:dig cs k=0\/dig cs k=1\/dig cs k=2:=by unfold dig;lia
  rcases hd with hd | hd | hd
  .exact .inl (.inl ⟨k,h,hd,e⟩)
  .exact .inl (.inr ⟨k,h,hd,e⟩)
  .exact .inr ⟨k,h,hd,e⟩
theorem ie {cs:List Int} {x:Int}:x∈ay cs↔∃ r,r < 3/\x∈rowAt cs r 6:=by
 unfold ay
 rw [List.mem_append,List.mem_append]
 constructor
 .rintro ((h | h) | h)
  .exact aW 0 (by simp) h
  .exact aW 1 (by exact Nat.le.step Nat.le.refl) h
  .exact aW 2 (by exact Nat.lt_succ_self _) h
 ·(intro ζ4;refine ao ζ4 fun r hr h=>?_;clear ζ4)
  rcases (by lia:r=0\/r=1\/r=2) with rfl | rfl | rfl
  .exact .inl (.inl h)
  .exact .inl (.inr h)
  .exact .inr h
theorem names_nodup {cs:List Int}:(ay cs).Nodup:=by
 unfold ay
 refine List.nodup_append.mpr ⟨List.nodup_append.mpr ⟨cM,cM,fun a ha b hb e=>?_⟩,cM,fun a ha b hb e=>?_⟩
 .subst e;have:=bK ha hb;simp_all
 .subst e
  rcases List.mem_append.mp ha with ha | ha
  .have:=bK ha hb;simp_all
  .have:=bK ha hb;simp_all
theorem cg {cs:List Int}:(ay cs).length=6:=by
 have h1:=aQ (names_nodup (cs:=cs)) (m:=nmL) fun x hx=>cK.mp hx
 have h2:=aQ (l:=nmL) (by decide) (m:=ay cs) fun x hx=>cK.mpr hx
 have:nmL.length=6:=rfl
 exact Eq.symm (Nat.le_antisymm h2 h1)
noncomputable def aA (cs:List Int) (x:Int):Int:=if x∈rowAt cs 0 6 then 0 else if x∈rowAt cs 1 6 then 1 else 2
theorem kB {cs:List Int} {r:Nat} {x:Int} (hr:r < 3) (h:x∈rowAt cs r 6):aA cs x=r:=by
 unfold aA
 rcases (by lia:r=0\/r=1\/r=2) with rfl | rfl | rfl
 .refine (if_pos h).trans ?_;rfl
 .refine (if_neg fun h'=>by have:=bK h h';simp_all).trans ((if_pos h).trans ?_);rfl
 .refine (if_neg fun h'=>by have:=bK h h';simp_all).trans ((if_neg fun h'=>by have:=bK h h';simp_all).trans ?_);rfl
theorem nv {cs:List Int} {x:Int}:aA cs x∈([0,1,2]:List Int):=by
 unfold aA
 split
 .decide
 .split<;>decide
noncomputable def dm:List Int->List (Int × Int)
 | a::b::r=>(a,b)::dm (b::r)
 | _=>[]
theorem fc {a b:Int}:∀ {l:List Int},(a,b)∈dm l↔Adj l a b
 | []=>by
  constructor
  .intro h;cases h
  ·(intro ζ5;refine ao ζ5 fun i h _=>?_;clear ζ5);exact nS h
 | [x]=>by
  constructor
  .intro h;cases h
  ·(intro ζ6;refine ao ζ6 fun i _ h=>?_;clear ζ6);induction i using Nat.casesOn<;>exact nS h
 | x::y::r=>by
  rw [dm,List.mem_cons,fc (l:=y::r)]
  constructor
  .rintro (h | ⟨i,h1,h2⟩)
   .cases h;exact⟨0,rfl,rfl⟩
   .exact⟨i+1,h1,h2⟩
  ·(intro ζ7;refine ao ζ7 fun i h1 h2=>?_;clear ζ7)
   induction i using Nat.casesOn with
   | zero=>cases h1;cases h2;exact .inl rfl
   | succ i=>exact .inr ⟨i,h1,h2⟩
theorem ff:∀ {l:List Int},(dm l).length<=l.length
 | []=>Nat.le_refl _
 | [_]=>Nat.zero_le _
 | x::y::r=>by
  rw [dm,List.length_cons,List.length_cons]
  have:=ff (l:=y::r)
  exact Nat.lt_succ_of_le this
noncomputable def aN (cs:List Int) (prs:List (Int × Int)):List (Int × Int):=dm (rowAt cs 0 6)++dm (rowAt cs 1 6)++dm (rowAt cs 2 6)++prs
theorem qk {cs:List Int} {prs:List (Int × Int)} (hp:∀ e∈prs,e.1∈nmL/\e.2∈nmL):Lw (fun r=>rowAt cs r 6) prs (aN cs prs) (ay cs) (aA cs) where
 e:=fun a b=>by
  unfold aN
  rw [List.mem_append,List.mem_append,List.mem_append,fc,fc,fc]
  constructor
  .rintro (((h | h) | h) | h)
   .exact .inl ⟨0,by simp,h⟩
   .exact .inl ⟨1,by exact Nat.le.step Nat.le.refl,h⟩
   .exact .inl ⟨2,by exact Nat.lt_succ_self _,h⟩
   .exact .inr h
  .rintro (⟨r,hr,h⟩ | h)
   .rcases (by lia:r=0\/r=1\/r=2) with rfl | rfl | rfl
    .exact .inl (.inl (.inl h))
    .exact .inl (.inl (.inr h))
    .exact .inl (.inr h)
   .exact .inr h
 t:=fun x=>ie
 p:=fun a b h=>⟨cK.mpr (hp _ h).1,cK.mpr (hp _ h).2⟩
 h:=fun r x hr h=>kB hr h
theorem jb {cs:List Int} {prs:List (Int × Int)} (h:prs.length<=3):(aN cs prs).length<=9:=by
 unfold aN
 have h0:=@ff (rowAt cs 0 6)
 have h1:=@ff (rowAt cs 1 6)
 have h2:=@ff (rowAt cs 2 6)
 have h3:=@cg cs
 unfold ay at h3
 simp only [GY] at h3 ⊢
 lia
noncomputable def aD (cs:List Int) (prs:List (Int × Int)) (o:List Int):List (List Int):=(o.map fun r=>rowAt cs r.toNat 6)++prs.map fun e=>[e.1,e.2]
theorem oF {a b c e:Int}:Adj [a,b] c e↔c=a/\e=b:=by
 constructor
 ·(intro ζ2;refine ao ζ2 fun i h1 h2=>?_;clear ζ2)
  induction i using Nat.casesOn with
  | zero=>cases h1;cases h2;exact⟨rfl,rfl⟩
  | succ i=>induction i using Nat.casesOn<;>exact nS h2
 .rintro⟨rfl,rfl⟩;exact⟨0,rfl,rfl⟩
theorem dP {o:List Int} (ho:o∈orders) {r:Int} (hr:r∈o):∃ n:Nat,n < 3/\r=n/\r.toNat=n:=by
 have:=((aX ho).2.2 r).mp hr
 rcases this with rfl | rfl | rfl
 .exact kC 0 (by simp) rfl rfl
 .exact kC 1 (by exact Nat.le.step Nat.le.refl) rfl rfl
 .exact kC 2 (by exact Nat.lt_succ_self _) rfl rfl
theorem dX {cs:List Int} {prs:List (Int × Int)} {o:List Int} {l:List Int}:l∈aD cs prs o↔(∃ r∈o,l=rowAt cs r.toNat 6)\/∃ e∈prs,l=[e.1,e.2]:=by
 unfold aD
 simp only [List.mem_append,List.mem_map]
 constructor
 .rintro (⟨r,h,rfl⟩ | ⟨e,h,rfl⟩)
  .exact .inl ⟨r,h,rfl⟩
  .exact .inr ⟨e,h,rfl⟩
 .rintro (⟨r,h,rfl⟩ | ⟨e,h,rfl⟩)
  .exact .inl ⟨r,h,rfl⟩
  .exact .inr ⟨e,h,rfl⟩
section
variable {cs:List Int} {prs:List (Int × Int)} {o:List Int} {ks:List Nat} {Q:Nat->List Int}
theorem fB (hq:∀ (i:Nat) (k:Nat),ks[i]?=some k->(aD cs prs o)[i]?=some (Q k)) (hl:ks.length=(aD cs prs o).length) {l:List Int}:(∃ k∈ks,Q k=l)↔l∈aD cs prs o:=by
 constructor
 ·(intro ζ3;refine ao ζ3 fun k hk ζ4=>?_;clear ζ3;obtain rfl:=ζ4)
  obtain⟨i,hi⟩:=List.mem_iff_getElem?.mp hk
  exact G0 (hq i k hi)
 .intro h
  obtain⟨i,hi⟩:=List.mem_iff_getElem?.mp h
  have hil:=aa hi
  obtain⟨k,hk⟩:∃ k,ks[i]?=some k:=⟨_,G6 (by simp_all)⟩
  have:=hq i k hk
  replace this:=((hi).symm.trans this);cases this
  exact aW k (G0 hk) rfl
theorem yT (ho:o∈orders) (hp:∀ e∈prs,e.1∈nmL/\e.2∈nmL) (hq:∀ (i:Nat) (k:Nat),ks[i]?=some k->(aD cs prs o)[i]?=some (Q k)) (hl:ks.length=(aD cs prs o).length):Mg ks Q (aN cs prs) (ay cs) where
 e:=fun a b=>by
  rw [(qk hp).e]
  constructor
  .rintro (⟨r,hr,h⟩ | h)
   .have hm:((r:Nat):Int)∈o:=((aX ho).2.2 _).mpr (by lia)
    refine ao ((fB hq hl (l:=rowAt cs r 6)).mpr (dX.mpr (.inl ⟨r,hm,rfl⟩))) fun k hk e=>?_
    exact aW k hk (by refine rwE e ?_;exact h)
   .refine ao ((fB hq hl (l:=[a,b])).mpr (dX.mpr (.inr ⟨(a,b),h,rfl⟩))) fun k hk e=>?_
    exact aW k hk (by refine rwE e ?_;exact oF.mpr ⟨rfl,rfl⟩)
  ·(intro ζ5;refine ao ζ5 fun k hk h=>?_;clear ζ5)
   rcases dX.mp ((fB hq hl).mp ⟨k,hk,rfl⟩) with ⟨r,hr,e⟩ | ⟨⟨c,d⟩,he,e⟩
   .refine d8 (dP ho hr) fun n hn _ hn2=>?_
    rw [e,hn2] at h
    exact .inl ⟨n,hn,h⟩
   .rw [e] at h
    obtain⟨rfl,rfl⟩:=oF.mp h
    exact .inr he
 t:=fun x=>by
  constructor
  .intro h
   refine ao (ie.mp h) fun r hr hx=>?_
   have hm:((r:Nat):Int)∈o:=((aX ho).2.2 _).mpr (by lia)
   refine ao ((fB hq hl (l:=rowAt cs r 6)).mpr (dX.mpr (.inl ⟨r,hm,rfl⟩))) fun k hk e=>?_
   exact aW k hk (by refine rwE e ?_;exact hx)
  ·(intro ζ6;refine ao ζ6 fun k hk h=>?_;clear ζ6)
   rcases dX.mp ((fB hq hl).mp ⟨k,hk,rfl⟩) with ⟨r,hr,e⟩ | ⟨⟨c,d⟩,he,e⟩
   .refine d8 (dP ho hr) fun n hn _ hn2=>?_
    rw [e,hn2] at h
    exact ie.mpr ⟨n,hn,h⟩
   .rw [e] at h
    simp only [List.mem_cons,List.not_mem_nil,or_false] at h
    rcases h with rfl | rfl
    .exact cK.mpr (hp _ he).1
    .exact cK.mpr (hp _ he).2
theorem sH (ho:o∈orders) {x:Int} (hx:x∈ay cs):∃ l,(aD cs prs o)[o.idxOf (aA cs x)]?=some l/\x∈l:=by
 refine ao (ie.mp hx) fun r hr hxr=>?_
 refine rwE (kB hr hxr) ?_
 have hm:((r:Nat):Int)∈o:=((aX ho).2.2 _).mpr (by lia)
 have hlt:=List.idxOf_lt_length_of_mem hm
 refine aW (rowAt cs r 6) ?_ hxr
 unfold aD
 refine rwE (GR (by rw [GX];exact hlt)) (rwE (G3) (rwE (G6 hlt) (rwE (List.getElem_idxOf hlt) ?_)))
 rfl
theorem mZ (ho:o∈orders) (hq:∀ (i:Nat) (k:Nat),ks[i]?=some k->(aD cs prs o)[i]?=some (Q k)) {c y:Int} (hc:c∈ay cs) (hy:y∈ay cs) (hb:wO ks Q c y):o.idxOf (aA cs c) < o.idxOf (aA cs y):=by
 (refine eE hb fun a1 k a2 ζ1=>?_;clear hb;refine ek ζ1 fun hks h1 h2 h3=>?_;clear ζ1)
 refine aJ (aX ho) fun hn hol hom=>?_
 have hk:ks[a1.length]?=some k:=by refine rwE hks (rwE (List.getElem?_append_right (Nat.le_refl _)) ?_);simp
 have hkl:=hq _ _ hk
 refine ao (sH (prs:=prs) ho hy) fun l hl hyl=>?_
 have hylt:o.idxOf (aA cs y) < 3:=by
  have:=nv (cs:=cs) (x:=y)
  have hm:aA cs y∈o:=(hom _).mpr (by simpa using this)
  have:=List.idxOf_lt_length_of_mem hm
  simp_all
 have hgt:a1.length < o.idxOf (aA cs y):=by
  refine Nat.lt_of_not_le fun hle=>?_
  rcases Nat.lt_or_eq_of_le hle with hlt | heq
  .obtain⟨k',hk'⟩:∃ k',a1[o.idxOf (aA cs y)]?=some k':=⟨_,G6 hlt⟩
   have:=hq (o.idxOf (aA cs y)) k' (by rw [hks,GR hlt];exact hk')
   replace this:=((hl).symm.trans this);cases this
   exact h3 k' (G0 hk') hyl
  .rw [heq,hkl] at hl;cases hl
   exact h2 hyl
 obtain⟨r,hr⟩:∃ r,o[a1.length]?=some r:=⟨_,G6 (by lia)⟩
 have hrow:(aD cs prs o)[a1.length]?=some (rowAt cs r.toNat 6):=by
  unfold aD
  refine rwE (GR (by rw [GX];lia)) (rwE (G3) (rwE hr ?_));rfl
 replace hrow:=((hkl).symm.trans hrow)
 have hrow:Q k=rowAt cs r.toNat 6:=by injection hrow
 refine d8 (dP ho (G0 hr)) fun n hn3 hrn hrn2=>?_
 have hcq:c∈rowAt cs n 6:=by refine rwS hrn2 (rwS hrow ?_);exact h1
 refine rwE (kB hn3 hcq) (rwS hrn (rwE (fy hn hr) ?_))
 exact hgt
end
noncomputable def d9 (k:Nat):List Stmt:=aC.body.drop k
noncomputable def aT (k:Nat):Stmt:=nth aC.body k
theorem yx:aC.body=aT 0::aT 1::aT 2::d9 3:=by rfl
theorem oQ:∀ {l:List Int} {j:Nat} {a b:Int},l[j]?=some a->l[j+1]?=some b->(dm l)[j]?=some (a,b)
 | x::y::r,0,a,b,h1,h2=>by cases h1;cases h2;rfl
 | x::y::r,j+1,a,b,h1,h2=>by
  rw [dm]
  exact oQ (l:=y::r) (j:=j) h1 h2
 | [x],j,a,b,h1,h2=>by exact nS h2
 | [],j,a,b,h1,h2=>by exact nS h1
theorem gx:∀ {l:List Int},(dm l).length=l.length - 1
 | []=>rfl
 | [_]=>rfl
 | x::y::r=>by
  rw [dm,List.length_cons,gx (l:=y::r)]
  simp only [List.length_cons];exact Eq.refl (List.length r+1 - 1+1)
theorem mK {xs:List V} {j:Nat} {a b:V} (h1:xs[j]?=some a) (h2:xs[j+1]?=some b):sliceOf xs (some ((j:Nat):Int)) (some ((j+2:Nat):Int))=[a,b]:=by
 have hl:=aa h2
 have hc1:clip xs.length (j:Int)=j:=e9.trans (Nat.min_eq_left (G5 (Nat.lt_of_succ_lt hl)))
 have hc2:clip xs.length ((j+2:Nat):Int)=j+2:=e9.trans (Nat.min_eq_left hl)
 refine (?_:(xs.drop (clip xs.length (j:Int))).take (clip xs.length ((j+2:Nat):Int) - clip xs.length (j:Int))=_)
 refine rwE hc1 (rwE hc2 (rwE (List.drop_eq_getElem_cons (by exact G5 hl)) (rwE (List.drop_eq_getElem_cons hl) ?_)))
 refine rwE (show j+2 - j=2 by exact Nat.add_sub_self_left j 2) ?_
 simp only [List.take_succ_cons,List.take_zero]
 exact rwE ((List.getElem?_eq_some_iff.mp h1).2) (rwE ((List.getElem?_eq_some_iff.mp h2).2) rfl)
theorem qa {cs:List Int} {prs:List (Int × Int)}:(([rowAt cs 0 6,rowAt cs 1 6,rowAt cs 2 6]++prs.map fun (e:Int × Int)=>[e.1,e.2]).flatMap dm)=aN cs prs:=by
 unfold aN
 refine List.flatMap_append.trans ?_
 have:(prs.map fun (e:Int × Int)=>[e.1,e.2]).flatMap dm=prs:=by
  induction prs with
  | nil=>rfl
  | cons e prs ih=>refine rwE List.map_cons (rwE List.flatMap_cons (rwE ih ?_));rfl
 refine rwE this ?_
 simp [List.flatMap_cons]
structure qR (σ:Mine.St) (cs:List Int) (prs:List (Int × Int)) (picks:List Int) (us vs:List V) (kk kn ks:Nat):Prop where
 rws:σ.H[7]?=some (.list [V.ref 4,V.ref 5,V.ref 6])
 row:∀ r,r < 3->σ.H[4+r]?=some (.list ((rowAt cs r 6).map .int))
 pairs:σ.H[9]?=some (.list us)
 prl:ILs σ.H us (prs.map fun (e:Int × Int)=>[e.1,e.2])
 pks:σ.H[kk]?=some (.list (picks.map .int))
 names:σ.H[kn]?=some (.list ((ay cs).map .int))
 steps:σ.H[ks]?=some (.list vs)
 stp:ILs σ.H vs ((aN cs prs).map fun (e:Int × Int)=>[e.1,e.2])
 pin:∀ e∈prs,e.1∈nmL/\e.2∈nmL
 pl:prs.length<=3
 kl:picks.length=6
 kb:∀ p∈picks,0<=p/\p < 1000000
 m1:σ.m (Str.ofString "rows")=some (.ref 7)
 m2:σ.m (Str.ofString "pairs")=some (.ref 9)
 m3:σ.m (Str.ofString "picks")=some (.ref kk)
 m4:σ.m (Str.ofString "names")=some (.ref kn)
 m5:σ.m (Str.ofString "steps")=some (.ref ks)
theorem Bq {σ:Mine.St} {a b:Nat} {rv us:List V} {LL:List (List Int)} {Q:Fl->Mine.St->Prop} {X:V->Mine.St->Prop} (gr:σ.H[a]?=some (.list rv)) (gp:σ.H[b]?=some (.list us)) (hall0:ILs σ.H (rv++us) LL) (hLl:∀ l∈LL,l.length<=6) (hLn:LL.length<=6)
  (m1:σ.m (Str.ofString "rows")=some (.ref a)) (m2:σ.m (Str.ofString "pairs")=some (.ref b))
  (h:∀ H' k vs,Ext σ.H H'->H'[k]?=some (.list vs)->ILs H' vs ((LL.flatMap dm).map fun e=>[e.1,e.2])->Q .next ⟨H',pm σ.m (Str.ofString "steps") (.ref k)⟩):awS (prog.at 10) (aT 2) aC.scope [] σ Q X:=by
 have h2:aT 2=aT 2:=rfl
 conv at h2=>rhs;whnf
 rw [h2]
 clear h2
 wp_walk using 6,aj
 refine⟨_,gr,_,gp,GS (Nat.le_of_eq hall0.len) (GS hLn (by decide)),?_⟩
 wp_walk using 6,aj
 have X2:Ext σ.H (σ.H++[O.list (rv++us)]):=Ext.app
 have a2:(σ.H++[O.list (rv++us)])[σ.H.length]?=some (.list (rv++us)):=ak
 have hall:=hall0.ext X2
 clear hall0
 generalize rv++us=av at hall a2 X2
 rw [a2]
 generalize σ.H++[O.list av]=H2 at X2 a2 hall
 refine aW _ rfl ?_
 generalize hsc:az aC.scope _=sc
 generalize hro:freeNames _=ro
 have q1:sc.names.lookup (Str.ofString "row")=some .local:=by refine rwS hsc ?_;kernel_rfl
 have q2:sc.names.lookup (Str.ofString "k")=some .local:=by refine rwS hsc ?_;kernel_rfl
 have q3:sc.names.lookup (Str.ofString "range")=some .globalImplicit:=by refine rwS hsc ?_;kernel_rfl
 have q4:sc.names.lookup (Str.ofString "len")=some .globalImplicit:=by refine rwS hsc ?_;kernel_rfl
 have q5:ro=[]:=by refine hro.symm.trans ?_;kernel_rfl
 subst q5
 clear hsc
 refine aO (fun i χ=>∃ vs,χ.H[H2.length]?=some (.list vs)/\ILs χ.H vs (((LL.take i).flatMap dm).map fun e=>[e.1,e.2])/\(∀ v∈vs,∀ q,v=.ref q->H2.length+1<=q)/\Ext H2 χ.H/\vs.length<=6 * i) ?_ ?_ ?_
 .exact AR ([]) ak trivial (fun v hv=>by cases hv) Ext.app (Nat.le_refl _)
 ·(intro i it χ T hi ζ5;refine bW ζ5 fun vs gv hvs prot ζ6=>?_;clear ζ5;obtain⟨X3,hvl⟩:=ζ6;intro hT)
  obtain⟨v,hv1,rfl⟩:∃ v,av[i]?=some v/\it=.one v:=by
   rw [G3,Option.map_eq_some_iff] at hi
   (refine ao hi fun v h1 ζ2=>?_;clear hi;obtain rfl:=ζ2)
   exact aW v h1 rfl
  (refine ao (hall.at hv1) fun l hl1 ζ3=>?_;refine ao ζ3 fun q ζ4 hq=>?_;clear ζ3;obtain rfl:=ζ4)
  have hq':=X3.get hq
  refine⟨aq a2 rfl (X3.get a2),?_⟩
  wp_walk using 6,q1,q2,q3,q4,hq'
  have hl6:=hLl l (G0 hl1)
  have hil:=aa hl1
  have gr6:(χ.H++[O.range 1 ↑l.length])[χ.H.length]?=some (.range 1 l.length):=ak
  have X4:Ext χ.H (χ.H++[O.range 1 ↑l.length]):=Ext.app
  have hχ:H2.length+1<=χ.H.length:=aa gv
  refine⟨GS hl6 (by decide),?_⟩
  wp_walk using 6,aj
  refine⟨by unfold small;decide,smN (GS hl6 (by decide)),?_⟩
  wp_walk using 6,aj
  refine rwE gr6 ?_
  generalize χ.H++[O.range 1 ↑l.length]=H6 at gr6 X4
  refine aW _ rfl ?_
  have hn:((l.length:Int) - 1).toNat=l.length - 1:=by simp
  refine rwE hn ?_
  refine aO (fun j ψ=>∃ ws,ψ.H[H2.length]?=some (.list ws)/\ILs ψ.H ws (((LL.take i).flatMap dm++(dm l).take j).map fun e=>[e.1,e.2])/\(∀ v∈ws,∀ q,v=.ref q->H2.length+1<=q)/\Ext H2 ψ.H/\ψ.H[χ.H.length]?=some (.range 1 l.length)/\ws.length<=6 * i+j/\ψ.m (Str.ofString "row")=some (.ref q)) ?_ ?_ ?_
  .exact Eo vs (X4.get gv) (by refine rwE (List.take_zero ..) (rwE (List.append_nil ..) ?_);exact hvs.ext X4) prot (X3.trans X4) gr6 hvl rfl
  ·(intro j it ψ T2 hi ζ7;refine bW ζ7 fun ws gw hws prot2 ζ8=>?_;clear ζ7;refine ek ζ8 fun X5 gr7 hwl mr=>?_;clear ζ8;intro hT2)
   obtain⟨hj,rfl⟩:j+1 < l.length/\it=.one (.int ((j+1:Nat):Int)):=by
    have hil:=aa hi
    simp at hil
    refine⟨by exact Nat.add_lt_of_lt_sub hil,?_⟩
    rw [G3,List.getElem?_range (by omega)] at hi
    cases hi
    simp;exact Int.add_comm 1 ↑j
   obtain⟨a,ha⟩:∃ a,l[j]?=some a:=⟨_,G6 (by exact G5 hj)⟩
   obtain⟨b,hb⟩:∃ b,l[j+1]?=some b:=⟨_,G6 (by omega)⟩
   have hq5:ψ.H[q]?=some (.list (l.map .int)):=X5.get hq
   refine⟨aq gr6 rfl gr7,?_⟩
   wp_walk using 6,q1,q2,mr
   have es:sliceOf (l.map V.int) (some (((j+1:Nat):Int) - 1)) (some (((j+1:Nat):Int)+1))=[.int a,.int b]:=by
    have e1:((j+1:Nat):Int) - 1=((j:Nat):Int):=by simp
    have e2:((j+1:Nat):Int)+1=((j+2:Nat):Int):=by rfl
    refine rwE e1 (rwE e2 ?_)
    exact mK (by refine rwE (G3) (rwE ha ?_);rfl) (by refine rwE (G3) (rwE hb ?_);rfl)
   have hNl:H2.length < ψ.H.length:=aa gw
   have hk7:∀ p,p < ψ.H.length->p≠H2.length->((ψ.H++[O.list [V.int a,V.int b]]).set (H2.length) (O.list (ws++[V.ref ψ.H.length])))[p]?=ψ.H[p]?:=fun p hp hne=>by exact (af (Ne.symm hne)).trans (GR hp)
   refine⟨_,.inl hq5,by refine rwE (GX ..) ?_;unfold big;lia,_,rfl,_,rfl,(fun k e=>by cases e;exact smS (GS (G5 hj) (GS hl6 (by decide)))),(fun k e=>by cases e;exact smA (GS (G5 hj) (GS hl6 (by decide)))),?_⟩
   refine rwE es ?_
   refine⟨by unfold big;exact Nat.le_add_left _ _,?_⟩
   wp_walk using 6,aj
   refine kC ws (by refine (GR hNl).trans ?_;exact gw) (GV (GS hwl (Nat.add_le_add (Nat.mul_le_mul_left 6 (GS (G5 hil) hLn)) (GS (G5 (Nat.lt_of_succ_lt hj)) hl6))) (by decide)) ?_
   wp_walk using 6,aj
   refine hT2 _ ⟨ws++[V.ref ψ.H.length],?_,?_,?_,?_,?_,?_,?_⟩
   .exact au (by refine rwE GY ?_;exact Nat.lt_succ_of_lt (by assumption))
   .refine rwE ((take_snoc (oQ ha hb)) ..) (rwS (List.append_assoc ..) (rwE (List.map_append ..) ?_))
    refine ILs.snoc (hws.frame fun v hv p hp hlt=>hk7 p hlt (by have:=prot2 v hv p hp;exact Ne.symm (Nat.ne_of_lt (prot2 v hv p hp)))) ⟨_,rfl,?_⟩
    refine (?_:(List.set _ _ _)[ψ.H.length]?=_)
    refine (af (by exact Nat.ne_of_lt hNl)).trans ?_;exact ak
   .intro v hv p hp
    rcases List.mem_append.mp hv with hv | hv
    .exact prot2 v hv p hp
    .rw [List.mem_singleton] at hv
     subst hv;cases hp;exact hNl
   .refine⟨?_,fun p hp=>?_⟩
    .refine (?_:H2.length<=(List.set _ _ _).length)
     refine rwE List.length_set (rwE GY ?_)
     have:=X5.len
     exact aU5 rfl this
    .refine (?_:(List.set _ _ _)[p]?=_)
     exact (hk7 p (Nat.lt_trans hp hNl) (Nat.ne_of_lt hp)).trans (X5.keep p hp)
   .refine (?_:(List.set _ _ _)[χ.H.length]?=_)
    refine (hk7 _ (aa gr7) (by exact Ne.symm (Nat.ne_of_lt hχ))).trans ?_;exact gr7
   .refine rwE GY (rwE List.length_singleton ?_);exact Nat.add_le_add_right hwl 1
   .exact mr
  ·(intro ψ ζ9;refine bW ζ9 fun ws gw hws prot2 Ft=>?_;clear ζ9;refine ek Ft fun X5 gr7 hwl mr=>?_;clear Ft)
   rw [GX,List.length_range,List.take_of_length_le (l:=dm l) (by refine rwE gx ?_;exact Nat.le_refl _)] at hws
   rw [GX,List.length_range] at hwl
   refine⟨aq gr6 rfl gr7,hT _ ⟨ws,gw,?_,prot2,X5,GS hwl (Nat.add_le_add_left (GS (Nat.sub_le ..) hl6) (6 * i))⟩⟩
   refine rwE (take_snoc hl1) (rwE List.flatMap_append ?_)
   simpa [List.flatMap_cons] using hws
 ·(intro χ Fp;refine bW Fp fun vs gv hvs prot Fx=>?_;clear Fp;obtain⟨X3,hvl⟩:=Fx)
  rw [GX,List.take_of_length_le (Nat.le_of_eq hall.len.symm)] at hvs
  refine⟨aq a2 rfl (X3.get a2),?_⟩
  wp_walk using 6,aj
  exact h _ _ vs (X2.trans X3) gv hvs
theorem Dv {xs:List Int} {p:Str} {m:Str->Option V} {Q:Fl->Mine.St->Prop} {X:V->Mine.St->Prop} (hm:m (Str.ofString "script")=some (.ref 0)) (hxl:xs.length<=63)
  (h:∀ σ cs prs picks us vs kk kn ks,qR σ cs prs picks us vs kk kn ks->a7 (prog.at 10) (d9 3) aC.scope [] σ Q X):a7 (prog.at 10) aC.body aC.scope [] ⟨[.frozen (xs.map .int)],m⟩ Q X:=by
 refine rwE yx ?_
 have h0:aT 0=aT 0:=rfl
 have h1:aT 1=aT 1:=rfl
 conv at h0=>rhs;whnf
 conv at h1=>rhs;whnf
 refine rwE h0 (rwE h1 ?_)
 clear h0 h1
 wp_walk using 6,hm
 refine tq (k:=0) (xs:=xs) rfl hxl fun H' k cs us prs kk picks X1 gk gr ga gp gus hpr hprl gkk hpl hpb=>?_
 have gk:H'[k]?=some (.tuple [.ref 7,.ref 9,.ref kk]):=gk
 have gr:H'[7]?=some (.list [V.ref 4,V.ref 5,V.ref 6]):=gr
 have ga0:H'[4]?=some (.list ((rowAt cs 0 6).map .int)):=ga 0 (by exact Nat.succ_pos _)
 have ga1:H'[5]?=some (.list ((rowAt cs 1 6).map .int)):=ga 1 (by exact Nat.le_add_left _ _)
 have ga2:H'[6]?=some (.list ((rowAt cs 2 6).map .int)):=ga 2 (by exact Nat.lt_succ_self _)
 have gp:H'[9]?=some (.list us):=gp
 have hnl:(ay cs).length=6:=@cg cs
 have hnd:(ay cs).map V.int=(rowAt cs 0 6).map V.int++(rowAt cs 1 6).map V.int++(rowAt cs 2 6).map V.int:=by unfold ay;rw [List.map_append,List.map_append]
 have hn2:((rowAt cs 0 6).map V.int++(rowAt cs 1 6).map V.int++(rowAt cs 2 6).map V.int).length=6:=by rw [<- hnd,GX];exact hnl
 wp_walk using 6,ga0,ga1
 refine⟨GS (GS (Nat.le_add_right _ _) (Nat.le_of_eq (List.length_append.symm.trans hn2))) (by decide),?_⟩
 have gr2:(H'++[O.list ((rowAt cs 0 6).map V.int++(rowAt cs 1 6).map V.int)])[7]?=some (.list [V.ref 4,V.ref 5,V.ref 6]):=(GR (aa gr)).trans gr
 have ga22:(H'++[O.list ((rowAt cs 0 6).map V.int++(rowAt cs 1 6).map V.int)])[6]?=some (.list ((rowAt cs 2 6).map .int)):=(GR (aa ga2)).trans ga2
 wp_walk using 6,ga22
 refine kC _ ak (GS (Nat.le_of_eq hn2) (by decide)) ?_
 wp_walk using 6,aj
 have X2:Ext H' (H'++[O.list ((rowAt cs 0 6).map V.int++(rowAt cs 1 6).map V.int)]++[O.list ((rowAt cs 0 6).map V.int++(rowAt cs 1 6).map V.int++(rowAt cs 2 6).map V.int)]):=Ext.app.trans Ext.app
 have n2:(H'++[O.list ((rowAt cs 0 6).map V.int++(rowAt cs 1 6).map V.int)]++[O.list ((rowAt cs 0 6).map V.int++(rowAt cs 1 6).map V.int++(rowAt cs 2 6).map V.int)])[(H'++[O.list ((rowAt cs 0 6).map V.int++(rowAt cs 1 6).map V.int)]).length]?=some (.list ((ay cs).map .int)):=by rw [hnd];exact ak
 generalize (H'++[O.list ((rowAt cs 0 6).map V.int++(rowAt cs 1 6).map V.int)]).length=kn at n2
 generalize H'++[O.list ((rowAt cs 0 6).map V.int++(rowAt cs 1 6).map V.int)]++[O.list ((rowAt cs 0 6).map V.int++(rowAt cs 1 6).map V.int++(rowAt cs 2 6).map V.int)]=H2 at X2 n2
 have hall:ILs H2 ([V.ref 4,V.ref 5,V.ref 6]++us) ([rowAt cs 0 6,rowAt cs 1 6,rowAt cs 2 6]++prs.map fun (e:Int × Int)=>[e.1,e.2]):=
  ILs.app ⟨⟨4,rfl,X2.get ga0⟩,⟨5,rfl,X2.get ga1⟩,⟨6,rfl,X2.get ga2⟩,trivial⟩ (gus.ext X2)
 refine Bq (X2.get gr) (X2.get gp) hall (fun l hl=>?_) ?_ rfl rfl fun H3 ks vs X3 gv hvs=>?_
 .rcases List.mem_append.mp hl with h | h
  .simp only [List.mem_cons,List.not_mem_nil,or_false] at h
   rcases h with rfl | rfl | rfl<;>exact pC
  .refine ao (List.mem_map.mp h) fun e _ ζ1=>?_
   obtain rfl:=ζ1
   exact Nat.le_add_left _ _
 .rw [GY,GX];exact Nat.add_le_add_left hprl 3
 .rw [qa] at hvs
  wp_walk using 6,aj
  refine h _ cs prs picks us vs kk kn ks ?_
  have X6:=X2.trans X3
  exact⟨X6.get gr,fun r hr=>X6.get (by have:=ga r hr;exact (by refine rwE (show 4+r=1+3+r by exact Eq.refl (4+r)) ?_;exact this)),X6.get gp,gus.ext X6,X6.get gkk,X3.get n2,gv,hvs,hpr,hprl,hpl,hpb,rfl,rfl,rfl,rfl,rfl⟩
theorem yy:d9 3=aT 3::aT 4::aT 5::aT 6::aT 7::d9 8:=by rfl
theorem qR.keep {σ:Mine.St} {cs:List Int} {prs:List (Int × Int)} {picks:List Int} {us vs:List V} {kk kn ks:Nat} (L:qR σ cs prs picks us vs kk kn ks) {H':List O} {m':Str->Option V} (x:Ext σ.H H')
  (h1:m' (Str.ofString "rows")=some (.ref 7)) (h2:m' (Str.ofString "pairs")=some (.ref 9)) (h3:m' (Str.ofString "picks")=some (.ref kk)) (h4:m' (Str.ofString "names")=some (.ref kn)) (h5:m' (Str.ofString "steps")=some (.ref ks)):qR ⟨H',m'⟩ cs prs picks us vs kk kn ks:=
 ⟨x.get L.rws,fun r hr=>x.get (L.row r hr),x.get L.pairs,L.prl.ext x,x.get L.pks,x.get L.names,x.get L.steps,L.stp.ext x,L.pin,L.pl,L.kl,L.kb,h1,h2,h3,h4,h5⟩
structure Cx (H:List O) (m:Str->Option V) (cs:List Int) (prs:List (Int × Int)) (picks:List Int) (us vs ow:List V) (kk kn ks ko kg:Nat) (g:List Int):Prop where
 a:qR ⟨H,m⟩ cs prs picks us vs kk kn ks
 g1:c6 (aN cs prs) (ay cs) g
 g2:mW (aN cs prs) (ay cs) g
 gg:H[kg]?=some (.list (g.map .int))
 oo:H[ko]?=some (.list ow)
 ol:ILs H ow orders
 m6:m (Str.ofString "smooth")=some (.bool (bF (aB (aN cs prs)) (bC (aN cs prs) (ay cs)) (ay cs)))
 m7:m (Str.ofString "given")=some (.ref kg)
 m8:m (Str.ofString "orders")=some (.ref ko)
 m9:m (Str.ofString "merges")=some (.ref H.length)
theorem Dw {σ:Mine.St} {cs:List Int} {prs:List (Int × Int)} {picks:List Int} {us vs:List V} {kk kn ks:Nat} {Q:Fl->Mine.St->Prop} {X:V->Mine.St->Prop} (L:qR σ cs prs picks us vs kk kn ks)
  (h:∀ H m ow ko kg g,Cx H m cs prs picks us vs ow kk kn ks ko kg g->a7 (prog.at 10) (d9 8) aC.scope [] ⟨H++[.list []],m⟩ Q X):a7 (prog.at 10) (d9 3) aC.scope [] σ Q X:=by
 refine rwE yy ?_
 have h0:aT 3=aT 3:=rfl
 have h1:aT 4=aT 4:=rfl
 have h2:aT 5=aT 5:=rfl
 have h3:aT 6=aT 6:=rfl
 have h4:aT 7=aT 7:=rfl
 conv at h0=>rhs;whnf
 conv at h1=>rhs;whnf
 conv at h2=>rhs;whnf
 conv at h3=>rhs;whnf
 conv at h4=>rhs;whnf
 refine rwE h0 (rwE h1 (rwE h2 (rwE h3 (rwE h4 ?_))))
 clear h0 h1 h2 h3 h4
 have m4:=L.m4
 have m5:=L.m5
 wp_walk using 6,aj
 have W:=(qk (cs:=cs) L.pin).within
 have hsl:=jb (cs:=cs) L.pl
 have hnl:=@cg cs
 refine dD (d:=6) L.names L.steps L.stp names_nodup W (by simp_all) (by lia) fun H1 r1 S1 X1 own1=>?_
 wp_walk using 6,aj
 refine eO (n:=bC (aN cs prs) (ay cs)) (d:=7) S1 (b8 W) (by simp_all) (fun x=>by have:=@bg (aN cs prs) x;unfold big;lia) (dw W) (fun l hl=>gX W hl) fun H2 r2 S2 A2=>?_
 have hrs:=A2.s
 have K2:=Kn.start (E:=aN cs prs) (names_nodup (cs:=cs))
 wp_walk using 6,aj
 refine rwS hrs ?_
 refine qc S2 W K2 (by simp_all) (by lia) fun H3 g kg G1 G2 hl3 k3 hkg gg=>?_
 wp_walk using 6,aj
 have X3:Ext σ.H H3:=⟨by have:=X1.len;have:=A2.len;lia,fun j hj=>by
  have hj1:=GU hj X1.len
  have no1:¬ Own r1 (ay cs) j:=fun hq=>by have:=own1 j hq;lia
  have no2:¬ Own r2 (ay cs) j:=fun hq=>by
   rcases A2.own j hq with hq | hq
   .exact no1 hq
   .lia
  rw [k3 j (GU hj1 A2.len) no2,A2.keep j hj1 no1,X1.keep j hj]⟩
 simp only [GY,List.length_cons,List.length_nil,Nat.add_assoc,Nat.zero_add,Nat.reduceAdd,List.append_assoc,List.cons_append,List.nil_append]
 have e8:H3++[O.list [V.int 0,V.int 1,V.int 2],O.list [V.int 0,V.int 2,V.int 1],O.list [V.int 1,V.int 0,V.int 2],O.list [V.int 1,V.int 2,V.int 0],O.list [V.int 2,V.int 0,V.int 1],O.list [V.int 2,V.int 1,V.int 0],O.list [V.ref H3.length,V.ref (H3.length+1),V.ref (H3.length+2),V.ref (H3.length+3),V.ref (H3.length+4),V.ref (H3.length+5)],O.list []]=(H3++[O.list [V.int 0,V.int 1,V.int 2],O.list [V.int 0,V.int 2,V.int 1],O.list [V.int 1,V.int 0,V.int 2],O.list [V.int 1,V.int 2,V.int 0],O.list [V.int 2,V.int 0,V.int 1],O.list [V.int 2,V.int 1,V.int 0],O.list [V.ref H3.length,V.ref (H3.length+1),V.ref (H3.length+2),V.ref (H3.length+3),V.ref (H3.length+4),V.ref (H3.length+5)]])++[O.list []]:=by simp
 have hr:∀ j,(H3++[O.list [V.int 0,V.int 1,V.int 2],O.list [V.int 0,V.int 2,V.int 1],O.list [V.int 1,V.int 0,V.int 2],O.list [V.int 1,V.int 2,V.int 0],O.list [V.int 2,V.int 0,V.int 1],O.list [V.int 2,V.int 1,V.int 0],O.list [V.ref H3.length,V.ref (H3.length+1),V.ref (H3.length+2),V.ref (H3.length+3),V.ref (H3.length+4),V.ref (H3.length+5)]])[H3.length+j]?=[O.list [V.int 0,V.int 1,V.int 2],O.list [V.int 0,V.int 2,V.int 1],O.list [V.int 1,V.int 0,V.int 2],O.list [V.int 1,V.int 2,V.int 0],O.list [V.int 2,V.int 0,V.int 1],O.list [V.int 2,V.int 1,V.int 0],O.list [V.ref H3.length,V.ref (H3.length+1),V.ref (H3.length+2),V.ref (H3.length+3),V.ref (H3.length+4),V.ref (H3.length+5)]][j]?:=fun j=>by
  rw [List.getElem?_append_right (by exact Nat.le_add_right _ _),Nat.add_sub_cancel_left]
 have hl8:(H3++[O.list [V.int 0,V.int 1,V.int 2],O.list [V.int 0,V.int 2,V.int 1],O.list [V.int 1,V.int 0,V.int 2],O.list [V.int 1,V.int 2,V.int 0],O.list [V.int 2,V.int 0,V.int 1],O.list [V.int 2,V.int 1,V.int 0],O.list [V.ref H3.length,V.ref (H3.length+1),V.ref (H3.length+2),V.ref (H3.length+3),V.ref (H3.length+4),V.ref (H3.length+5)]]).length=H3.length+7:=by exact GY ..
 have X4:Ext H3 (H3++[O.list [V.int 0,V.int 1,V.int 2],O.list [V.int 0,V.int 2,V.int 1],O.list [V.int 1,V.int 0,V.int 2],O.list [V.int 1,V.int 2,V.int 0],O.list [V.int 2,V.int 0,V.int 1],O.list [V.int 2,V.int 1,V.int 0],O.list [V.ref H3.length,V.ref (H3.length+1),V.ref (H3.length+2),V.ref (H3.length+3),V.ref (H3.length+4),V.ref (H3.length+5)]]):=Ext.app
 refine rwE e8 ?_
 have hr6:=hr 6
 have ol:ILs (H3++[O.list [V.int 0,V.int 1,V.int 2],O.list [V.int 0,V.int 2,V.int 1],O.list [V.int 1,V.int 0,V.int 2],O.list [V.int 1,V.int 2,V.int 0],O.list [V.int 2,V.int 0,V.int 1],O.list [V.int 2,V.int 1,V.int 0],O.list [V.ref H3.length,V.ref (H3.length+1),V.ref (H3.length+2),V.ref (H3.length+3),V.ref (H3.length+4),V.ref (H3.length+5)]]) [V.ref H3.length,V.ref (H3.length+1),V.ref (H3.length+2),V.ref (H3.length+3),V.ref (H3.length+4),V.ref (H3.length+5)] orders:=⟨⟨_,rfl,hr 0⟩,⟨_,rfl,hr 1⟩,⟨_,rfl,hr 2⟩,⟨_,rfl,hr 3⟩,⟨_,rfl,hr 4⟩,⟨_,rfl,hr 5⟩,trivial⟩
 clear e8 hr
 generalize (H3++[O.list [V.int 0,V.int 1,V.int 2],O.list [V.int 0,V.int 2,V.int 1],O.list [V.int 1,V.int 0,V.int 2],O.list [V.int 1,V.int 2,V.int 0],O.list [V.int 2,V.int 0,V.int 1],O.list [V.int 2,V.int 1,V.int 0],O.list [V.ref H3.length,V.ref (H3.length+1),V.ref (H3.length+2),V.ref (H3.length+3),V.ref (H3.length+4),V.ref (H3.length+5)]])=H4 at hr6 ol hl8 X4
 have m1:=L.m1
 have m2:=L.m2
 have m3:=L.m3
 refine h H4 _ _ (H3.length+6) kg g ⟨L.keep (X3.trans X4) ?_ ?_ ?_ ?_ ?_,G1,G2,X4.get gg,hr6,ol,?_,?_,?_,?_⟩
 .exact m1
 .exact m2
 .exact m3
 .exact m4
 .exact m5
 .rfl
 .rfl
 .rfl
 .refine rwE hl8 ?_;rfl
theorem yz:d9 8=aT 8::d9 9:=by rfl
noncomputable def cA (k:Nat):Stmt:=nth (bodyOf (aT 8)) k
noncomputable def sF (us:List V) (o:List Int):List V:=(o.map fun r=>V.ref (4+r.toNat))++us
theorem vy {σ:Mine.St} {cs:List Int} {prs:List (Int × Int)} {picks o:List Int} {us vs:List V} {kk kn ks:Nat} (L:qR σ cs prs picks us vs kk kn ks) (ho:o∈orders):ILs σ.H (sF us o) (aD cs prs o):=by
 unfold aD sF
 refine ILs.app ?_ L.prl
 have main:∀ l:List Int,(∀ r∈l,r∈o)->ILs σ.H (l.map fun r=>V.ref (4+r.toNat)) (l.map fun r=>rowAt cs r.toNat 6):=by
  intro l
  induction l with
  | nil=>intro _;trivial
  | cons r l ih =>
   intro hl
   refine d8 (dP ho (hl r (.head _))) fun n hn3 _ hn2=>?_
   exact⟨⟨_,rfl,L.row _ (by exact lt_of_eq_of_lt hn2 hn3)⟩,ih fun x hx=>hl x (.tail _ hx)⟩
 exact main o fun r hr=>hr
theorem vD {σ:Mine.St} {cs:List Int} {prs:List (Int × Int)} {picks o:List Int} {us vs:List V} {kk kn ks qo:Nat} {Q:Fl->Mine.St->Prop} {X:V->Mine.St->Prop} (L:qR σ cs prs picks us vs kk kn ks)
  (ho:o∈orders) (hq:σ.H[qo]?=some (.list (o.map .int))) (hm:σ.m (Str.ofString "order")=some (.ref qo))
  (h:∀ H' kl,Ext σ.H H'->σ.H.length<=kl->H'[kl]?=some (.list (sF us o))->Q .next ((⟨H',σ.m⟩:Mine.St).put (Str.ofString "laid") (.ref kl))):awS (prog.at 10) (cA 0) aC.scope [] σ Q X:=by
 have h0:cA 0=cA 0:=rfl
 conv at h0=>rhs;whnf
 refine rwE h0 ?_
 clear h0
 have m1:=L.m1
 have m2:=L.m2
 have g1:=L.rws
 have g2:=L.pairs
 refine aJ (aX ho) fun hn hol hom=>?_
 wp_walk using 6,hm,hq
 generalize hsc:az aC.scope _=sc
 generalize hro:freeNames _=ro
 have q1:sc.names.lookup (Str.ofString "r")=some .local:=by refine rwS hsc ?_;kernel_rfl
 have q2:sc.names.lookup (Str.ofString "rows")=some .cell:=by refine rwS hsc ?_;kernel_rfl
 have q5:ro=[Str.ofString "rows"]:=by refine hro.symm.trans ?_;kernel_rfl
 subst q5
 refine aO (fun j χ=>χ.H=σ.H++[O.list ((o.take j).map fun r=>V.ref (4+r.toNat))]/\χ.m (Str.ofString "rows")=some (.ref 7)) ?_ ?_ ?_
 .refine⟨by rfl,Eq.trans ?_ m1⟩
  kernel_rfl
 .rintro j it χ T hi ⟨hH,mr⟩ hT
  (refine ao (bA hi) fun r hr ζ1=>?_;obtain rfl:=ζ1)
  refine⟨aq hq rfl (by refine rwE hH (rwE (GR (aa hq)) ?_);exact hq),?_⟩
  have g7:χ.H[7]?=some (.list [V.ref 4,V.ref 5,V.ref 6]):=by refine rwE hH (rwE (GR (aa g1)) ?_);exact g1
  wp_walk using 6,q1,q2,mr,g7
  (refine d8 (dP ho (G0 hr)) fun n hn3 ζ2 hn2=>?_;obtain rfl:=ζ2)
  have hrow:[V.ref 4,V.ref 5,V.ref 6][n]?=some (.ref (4+n)):=by
   rcases (by lia:n=0\/n=1\/n=2) with rfl | rfl | rfl<;>rfl
  have gl:χ.H[σ.H.length]?=some (.list ((o.take j).map fun r=>V.ref (4+r.toNat))):=by refine rwE hH ?_;exact ak
  refine⟨n,cj hn3,_,hrow,by exact Int.NonNeg.mk (n+Nat.succ 4611686018427387903),by lia,?_⟩
  wp_walk using 6,gl
  refine⟨by refine rwE List.length_take ?_;unfold big;lia,?_⟩
  wp_walk using 6,aj
  refine hT _ ⟨?_,mr⟩
  .refine (?_:χ.H.set _ _=_)
   refine rwE hH (rwE cW (rwE (take_snoc hr) (rwE List.map_append ?_)))
   rfl
 .rintro χ ⟨hH,mr⟩
  refine⟨aq hq rfl (by refine rwE hH (rwE (GR (aa hq)) ?_);exact hq),?_⟩
  have g9:χ.H[9]?=some (.list us):=by refine rwE hH (rwE (GR (aa g2)) ?_);exact g2
  rw [GX,GX,List.take_length] at hH
  wp_walk using 6,m2,g9
  have gl:χ.H[σ.H.length]?=some (.list (o.map fun r=>V.ref (4+r.toNat))):=by refine rwE hH ?_;exact ak
  have husl:us.length=prs.length:=by exact (L.prl.len ..).trans (GX ..)
  have hpl:=L.pl
  have X1:Ext σ.H χ.H:=by refine rwE hH ?_;exact Ext.app
  have X2:Ext σ.H (χ.H++[O.list ((o.map fun r=>V.ref (4+r.toNat))++us)]):=X1.trans Ext.app
  refine kC _ gl (by refine rwE (GY ..) (rwE (GX ..) ?_);unfold big;lia) ?_
  wp_walk using 6,aj
  exact h _ χ.H.length X2 X1.len ak
noncomputable def a8 (n k:Nat):List Nat:=(List.range k).map fun j=>n+1+j
theorem qj {σ:Mine.St} {kl:Nat} {lv:List V} {ls:List (List Int)} {Q:Fl->Mine.St->Prop} {X:V->Mine.St->Prop} (hq:σ.H[kl]?=some (.list lv)) (hv:ILs σ.H lv ls) (hb:ls.length<=100) (hb2:∀ l∈ls,l.length<=100) (hm:σ.m (Str.ofString "laid")=some (.ref kl))
  (h:Q .next ((⟨σ.H++.list ((a8 σ.H.length ls.length).map .ref)::ls.map fun l=>.list (l.map .int),σ.m⟩:Mine.St).put (Str.ofString "handed") (.ref σ.H.length))):awS (prog.at 10) (cA 1) aC.scope [] σ Q X:=by
 have h0:cA 1=cA 1:=rfl
 conv at h0=>rhs;whnf
 refine rwE h0 ?_
 clear h0
 wp_walk using 6,hm,hq
 generalize hsc:az aC.scope _=sc
 generalize hro:freeNames _=ro
 have q1:sc.names.lookup (Str.ofString "row")=some .local:=by refine rwS hsc ?_;kernel_rfl
 have q2:sc.names.lookup (Str.ofString "list")=some .globalImplicit:=by refine rwS hsc ?_;kernel_rfl
 have q5:ro=[]:=by refine hro.symm.trans ?_;kernel_rfl
 subst q5
 refine aO (fun j χ=>χ.H=σ.H++.list ((a8 σ.H.length j).map .ref)::(ls.take j).map fun l=>.list (l.map .int)) ?_ ?_ ?_
 .rfl
 .rintro j it χ T hi hH hT
  obtain⟨v,hv1,rfl⟩:∃ v,lv[j]?=some v/\it=.one v:=by
   rw [G3,Option.map_eq_some_iff] at hi
   (refine ao hi fun v h1 ζ1=>?_;clear hi;obtain rfl:=ζ1)
   exact aW v h1 rfl
  (refine ao (hv.at hv1) fun l hl1 ζ2=>?_;refine ao ζ2 fun q ζ3 gq=>?_;clear ζ2;obtain rfl:=ζ3)
  have X1:Ext σ.H χ.H:=by refine rwE hH ?_;exact Ext.app
  have gq':=X1.get gq
  refine⟨aq hq rfl (X1.get hq),?_⟩
  wp_walk using 6,q1,q2,gq'
  have hl6:=hb2 l (G0 hl1)
  have hjl:=aa hl1
  have hlen:χ.H.length=σ.H.length+1+j:=by
   refine rwE (hH ..) (rwE (GY ..) (rwE (List.length_cons ..) (rwE (GX ..) (rwE (List.length_take ..) ?_))));lia
  have gl:χ.H[σ.H.length]?=some (.list ((a8 σ.H.length j).map .ref)):=by refine rwE (hH ..) (rwE ((List.getElem?_append_right (Nat.le_refl _)) ..) (rwE (Nat.sub_self ..) ?_));rfl
  refine⟨by unfold big;lia,?_⟩
  wp_walk using 6,aj
  refine kC _ (by rw [GR (aa gl)];exact gl) (by unfold a8 big;refine rwE (GX ..) (rwE (GX ..) (rwE (List.length_range ..) ?_));lia) ?_
  wp_walk using 6,aj
  refine hT _ ?_
  refine (?_:(List.set _ _ _)=_)
  have e1:a8 σ.H.length (j+1)=a8 σ.H.length j++[χ.H.length]:=by unfold a8;refine rwE List.range_succ (rwE List.map_append (rwE hlen ?_));rfl
  refine rwE e1 (rwE (take_snoc hl1) (rwE hH ?_))
  simp
 .rintro χ hH
  have hjl:lv.length=ls.length:=hv.len
  rw [GX,hjl,List.take_length] at hH
  refine⟨aq hq rfl (by refine rwE hH (rwE (GR (aa hq)) ?_);exact hq),?_⟩
  wp_walk using 6,aj
  refine rwE hH ?_
  exact h
set_option maxHeartbeats 1000000 in
theorem yH {σ:Mine.St} {kh km:Nat} {ks:List Nat} {Qr:Nat->List Int} {mv:List V} {E:List (Int × Int)} {T:List Int} {Q:Fl->Mine.St->Prop} {X:V->Mine.St->Prop} (mg:Mg ks Qr E T) (hT:T.length<=100)
  (hh:σ.H[kh]?=some (.list (ks.map .ref))) (hkh:kh∉ks) (hk:∀ k∈ks,0 < k/\σ.H[k]?=some (.list ((Qr k).map .int))) (hn:ks.Nodup) (hz:ks.length<=1000) (hr:∀ k,(Qr k).length<=1000)
  (gm:σ.H[km]?=some (.list mv)) (hkm0:0 < km) (hkm:km∉ks) (hml:mv.length<=100) (m1:σ.m (Str.ofString "handed")=some (.ref kh)) (m2:σ.m (Str.ofString "merges")=some (.ref km))
  (h:∀ H' m' v acc,(∀ x:String,x ≠ "error" -> m' (Str.ofString x)=σ.m (Str.ofString x))->(∀ k∈ks,H'[k]?=some (.list (((Qr k).filter fun x=>x∉acc).map .int)))->(∀ j,j < σ.H.length->j∉ks->j≠km->H'[j]?=σ.H[j]?)->σ.H.length<=H'.length->H'[km]?=some (.list (mv++[v]))->c6 E T acc ->
   ((xr ks Qr E T acc/\(∀ x∈T,x∈acc)/\∃ q,v=.ref q/\σ.H.length<=q/\H'[q]?=some (.list (acc.map .int)))\/(mW E T acc/\(∃ x∈T,x∉acc)/\v=.str (Str.ofString "Inconsistent hierarchy")))->Q .next ⟨H',m'⟩):awS (prog.at 10) (cA 2) aC.scope [] σ Q X:=by
 have h0:cA 2=cA 2:=rfl
 conv at h0=>rhs;whnf
 rw [h0]
 clear h0
 have hkml:=aa gm
 wp_walk using 6,m1,m2,gm
 have hgo:=Aj (n:=T.length+1) mg (jP.start (ks0:=ks) (Q:=Qr) (E:=E) (T:=T)) (by exact Nat.lt_succ_self _)
 refine xQ (n:=T.length+1) hh hkh hk hn hz (by first | exact GS (Nat.succ_le_succ hT) (by decide) | exact GV (Nat.succ_le_succ hT) (by decide)) hr ?_ ?_
 .intro e;rw [e] at hgo;exact hgo
 induction hc:rj (T.length+1) ks Qr [] with
 | bad=>trivial
 | ok acc R' =>
  rw [hc] at hgo
  (refine ek hgo fun G hall hle hR=>?_;clear hgo)
  intro H' v k1 k2 hl hv gv
  have gm':H'[km]?=some (.list mv):=by refine (k2 km hkml hkm).trans ?_;exact gm
  have hkv:km≠v:=Nat.ne_of_lt (GU hkml hv)
  wp_walk using 6,aj
  refine⟨hkm0,GV hml (by decide),?_⟩
  wp_walk using 6,aj
  refine h _ _ (.ref v) acc (fun _ _=>rfl) (fun k hk'=>?_) (fun j hj hjk hjm=>?_) (by refine rwE List.length_set ?_;exact hl) (au (aa gm')) G (.inl ⟨hle,hall,v,rfl,hv,?_⟩)
  .exact rwE (af (fun (e:km=k)=>hkm (by rw [e];exact hk'))) (rwE (k1 k hk') (rwE (hR k hk') rfl))
  .exact (af (Ne.symm hjm)).trans (k2 j hj hjk)
  .rw [af hkv];exact gv
 | fail R' =>
  rw [hc] at hgo
  (refine bW hgo fun acc G hst hno hR=>?_;clear hgo)
  intro H' e k1 k2 hl he ge
  have gm':H'[km]?=some (.list mv):=by refine (k2 km hkml hkm).trans ?_;exact gm
  wp_walk using 6,ge
  refine aW _ rfl ?_
  wp_walk using 6,aj
  refine⟨hkm0,GV hml (by decide),?_⟩
  wp_walk using 6,aj
  refine h _ _ _ acc (fun x hx=>?_) (fun k hk'=>?_) (fun j hj hjk hjm=>?_) (by refine rwE List.length_set ?_;exact hl) (au (aa gm')) G (.inr ⟨hst,hno,rfl⟩)
  .have hx:¬ Str.ofString x=Str.ofString "error" := by rw [aG];exact hx
   show (if _ then _ else pm _ _ _ _)=_
   refine (if_neg hx).trans ?_;exact if_neg hx
  .exact rwE (af (fun (e:km=k)=>hkm (by rw [e];exact hk'))) (rwE (k1 k hk') (rwE (hR k hk') rfl))
  .exact (af (Ne.symm hjm)).trans (k2 j hj hjk)
theorem yD {σ:Mine.St} {kh kl kg:Nat} {lv hv:List V} {ls ms:List (List Int)} {g:List Int} {Q:Fl->Mine.St->Prop} {X:V->Mine.St->Prop} (hq:σ.H[kl]?=some (.list lv)) (hlv:ILs σ.H lv ls) (hb:ls.length<=100) (hb2:∀ l∈ls,l.length<=100) (hm:σ.m (Str.ofString "laid")=some (.ref kl))
  (gh:σ.H[kh]?=some (.list hv)) (hhv:ILs σ.H hv ms) (hm2:σ.m (Str.ofString "handed")=some (.ref kh)) (gg:σ.H[kg]?=some (.list (g.map .int))) (hm3:σ.m (Str.ofString "given")=some (.ref kg))
  (he:ms=ls.map fun l=>l.filter fun x=>x∉g) (h:∀ H',Ext σ.H H'->Q .next ⟨H',σ.m⟩):awS (prog.at 10) (cA 3) aC.scope [] σ Q X:=by
 have h0:cA 3=cA 3:=rfl
 conv at h0=>rhs;whnf
 refine rwE h0 ?_
 clear h0
 wp_walk using 6,hm,hm2,hq
 refine aO (fun j χ=>∃ ws,χ.H[σ.H.length]?=some (.list ws)/\ILs χ.H ws ((ls.take j).map fun l=>l.filter fun x=>x∉g)/\(∀ v∈ws,∀ q,v=.ref q->σ.H.length+1<=q)/\Ext σ.H χ.H/\χ.m (Str.ofString "given")=some (.ref kg)) ?_ ?_ ?_
 .refine AR ([]) ak trivial (fun v hv=>by cases hv) Ext.app (Eq.trans ?_ hm3)
  kernel_rfl
 ·(intro j it χ T hi ζ6;refine bW ζ6 fun ws gw hws prot ζ7=>?_;clear ζ6;obtain⟨X1,mg⟩:=ζ7;intro hT)
  obtain⟨v,hv1,rfl⟩:∃ v,lv[j]?=some v/\it=.one v:=by
   rw [G3,Option.map_eq_some_iff] at hi
   (refine ao hi fun v h1 ζ2=>?_;clear hi;obtain rfl:=ζ2)
   exact aW v h1 rfl
  (refine ao (hlv.at hv1) fun l hl1 ζ3=>?_;refine ao ζ3 fun q ζ4 gq=>?_;clear ζ3;obtain rfl:=ζ4)
  have gq':=X1.get gq
  refine⟨aq hq rfl (X1.get hq),?_⟩
  wp_walk using 6,gq'
  have hl6:=hb2 l (G0 hl1)
  have hjl:=aa hl1
  refine aO (fun i ψ=>ψ.H=χ.H++[.list (((l.take i).filter fun x=>x∉g).map .int)]/\ψ.m (Str.ofString "given")=some (.ref kg)) ?_ ?_ ?_
  .refine⟨rfl,Eq.trans ?_ mg⟩
   rfl
  .rintro i it ψ T2 hi ⟨hH,mg2⟩ hT2
   (refine ao (bA hi) fun x hx ζ5=>?_;obtain rfl:=ζ5)
   refine⟨aq gq' rfl (by refine rwE hH (rwE (GR (aa gq')) ?_);exact gq'),?_⟩
   have g7:ψ.H[χ.H.length]?=some (.list (((l.take i).filter fun x=>x∉g).map .int)):=by refine rwE hH ?_;exact ak
   have gg2:ψ.H[kg]?=some (.list (g.map .int)):=by refine rwE hH (rwE (GR (aa (X1.get gg))) ?_);exact X1.get gg
   wp_walk using 6,gg2
   refine aW _ (r9 _ g x) ?_
   wp_walk using 6,aj
   refine⟨fun hxg=>?_,fun hxg=>?_⟩
   .have h1:=List.length_filter_le (fun y=>decide (y∉g)) (l.take i)
    have h2:(l.take i).length<=l.length:=by refine rwE List.length_take ?_;exact Nat.min_le_right i (List.length l)
    wp_walk using 6,g7
    refine⟨by exact GV (GS h1 (GS h2 (by assumption))) (by decide),?_⟩
    wp_walk using 6,aj
    refine hT2 _ ⟨?_,mg2⟩
    refine (?_:ψ.H.set _ _=_)
    refine rwE (hH ..) (rwE (cW ..) (rwE ((take_snoc hx) ..) (rwE (List.filter_append ..) ?_)))
    simp [hxg]
   .wp_walk using 6,aj
    refine hT2 _ ⟨?_,mg2⟩
    refine (?_:ψ.H=_)
    refine rwE (hH ..) (rwE ((take_snoc hx) ..) (rwE (List.filter_append ..) ?_))
    simp [hxg]
  .rintro ψ ⟨hH,mg2⟩
   rw [GX,GX,List.take_length] at hH
   refine⟨aq gq' rfl (by refine rwE hH (rwE (GR (aa gq')) ?_);exact gq'),?_⟩
   have gw2:ψ.H[σ.H.length]?=some (.list ws):=by refine rwE hH (rwE (GR (aa gw)) ?_);exact gw
   have hwl:=hws.len
   rw [GX,List.length_take] at hwl
   have hgw:=aa gw
   have k7:∀ p,p < χ.H.length->p≠σ.H.length->(ψ.H.set σ.H.length (O.list (ws++[V.ref χ.H.length])))[p]?=χ.H[p]?:=fun p hp hne=>by exact rwE (af (Ne.symm hne)) (rwE hH (rwE (GR hp) rfl))
   have hpl:ψ.H.length=χ.H.length+1:=by refine rwE hH ?_;exact GY ..
   wp_walk using 6,aj
   refine kC ws gw2 (by exact GV (GS (Nat.le_of_eq hwl) (GS (Nat.min_le_right ..) hb)) (by decide)) ?_
   wp_walk using 6,aj
   refine hT _ ⟨ws++[V.ref χ.H.length],au (aa gw2),?_,?_,?_,?_⟩
   .refine rwE (take_snoc hl1) (rwE List.map_append ?_)
    refine ILs.snoc (hws.frame fun v hv p hp hlt=>k7 p hlt (by have:=prot v hv p hp;exact Nat.ne_of_gt this)) ⟨_,rfl,?_⟩
    refine (?_:(List.set _ _ _)[χ.H.length]?=_)
    refine rwE (af (by exact Nat.ne_of_lt hgw)) (rwE hH ?_);exact ak
   .intro v hv p hp
    rcases List.mem_append.mp hv with hv | hv
    .exact prot v hv p hp
    .rw [List.mem_singleton] at hv
     subst hv;cases hp;exact hgw
   .refine⟨?_,fun p hp=>?_⟩
    .refine (?_:σ.H.length<=(List.set _ _ _).length)
     refine rwE List.length_set ?_;exact GS (G5 hgw) (GS (Nat.le_succ _) (Nat.le_of_eq hpl.symm))
    .refine (?_:(List.set _ _ _)[p]?=_)
     exact (k7 p (by exact Nat.lt_trans (by assumption) (by assumption)) (by exact Nat.ne_of_lt hp)).trans (X1.keep p hp)
   .exact mg
 ·(intro χ ζ8;refine bW ζ8 fun ws gw hws prot ζ9=>?_;clear ζ8;obtain⟨X1,mg⟩:=ζ9)
  rw [GX,hlv.len,List.take_length,<- he] at hws
  refine⟨aq hq rfl (X1.get hq),?_⟩
  wp_walk using 6,aj
  refine gj (eF (X1.get gh) gw (hhv.ext X1) hws) ?_
  wp_walk using 6,aj
  exact h _ X1
theorem st8:∃ p q r,aT 8=.For (.Name (Str.ofString "order") p) (.Name (Str.ofString "orders") q) [cA 0,cA 1,cA 2,cA 3] [] r:=⟨_,_,_,rfl⟩
noncomputable def fC:List String:=["rows", "pairs", "picks", "names", "steps", "smooth", "given", "orders", "merges"]
noncomputable def pR (m m':Str->Option V):Prop:=∀ s∈fC,m' (Str.ofString s)=m (Str.ofString s)
theorem sX {σ:Mine.St} {x s:String} {v:V} (h:s≠x):(σ.put (Str.ofString x) v).m (Str.ofString s)=σ.m (Str.ofString s):=by
 exact DM.trans (if_neg (by rw [aG];exact h))
theorem fT {m:Str->Option V} {x s:String} {v:V} (h:s≠x):pm m (Str.ofString x) v (Str.ofString s)=m (Str.ofString s):=if_neg (by rw [aG];exact h)
theorem pR.put {m:Str->Option V} {σ:Mine.St} {x:String} {v:V} (h:pR m σ.m) (hx:x∉fC):pR m (σ.put (Str.ofString x) v).m:=fun s hs=>by
 rw [sX (fun e:s=x=>hx (by rw [<- e];exact hs))];exact h s hs
noncomputable def sm (cs:List Int) (prs:List (Int × Int)):Bool:=bF (aB (aN cs prs)) (bC (aN cs prs) (ay cs)) (ay cs)
section
variable {E:List (Int × Int)} {T acc:List Int}
theorem tU (w:Within E T) (h:bF (aB E) (bC E T) T=true):∃ s,findR E T=.fin s:=by
 have hb:=dw w
 unfold bF at h
 have e:findR E T=bO (aB E) (bC E T) [] T:=rfl
 rw [<- e] at h
 induction hq:findR E T with
 | bad=>exact absurd hq hb
 | ring l=>rw [hq] at h;exact Bool.noConfusion h
 | fin s=>exact⟨s,rfl⟩
theorem tW (h:bF (aB E) (bC E T) T=false):∃ l,findR E T=.ring l:=by
 unfold bF at h
 have e:findR E T=bO (aB E) (bC E T) [] T:=rfl
 rw [<- e] at h
 induction hq:findR E T with
 | bad=>rw [hq] at h;exact Bool.noConfusion h
 | ring l=>exact⟨l,rfl⟩
 | fin s=>rw [hq] at h;exact Bool.noConfusion h
theorem tV (w:Within E T) (G:c6 E T acc) (hall:∀ x∈T,x∈acc):bF (aB E) (bC E T) T=true:=by
 induction hq:bF (aB E) (bC E T) T with
 | true=>rfl
 | false =>
  obtain⟨l,hl⟩:=tW hq
  have r:=fN hl
  obtain⟨h1,h2⟩:=kL (b8 w) r
  induction l using List.casesOn with
  | nil=>exact absurd h1 (Nat.not_lt_zero _)
  | cons x l=>exact absurd (hall x (h2 x (.head _)).1) (vS w r G x (.head _))
theorem wI (w:Within E T) (hs:mW E T acc) (hx:∃ x∈T,x∉acc):bF (aB E) (bC E T) T=false:=by
 induction hq:bF (aB E) (bC E T) T with
 | false=>rfl
 | true =>
  obtain⟨s,hs'⟩:=tU w hq
  refine ao (iE hs') fun B t hB=>?_
  refine ao hx fun x hx hn=>?_
  exact absurd (mO w t hB hs x hx) hn
end
noncomputable def MOk (H:List O) (n:Nat) (cs:List Int) (prs:List (Int × Int)) (o:List Int) (v:V):Prop:=
 (sm cs prs=true/\∃ q acc,v=.ref q/\n < q/\H[q]?=some (.list (acc.map .int))/\c6 (aN cs prs) (ay cs) acc/\(∀ x∈ay cs,x∈acc) /\
  ∀ i c,acc[i]?=some c->∀ y,Av (aN cs prs) (ay cs) (acc.take i) y->y≠c->o.idxOf (aA cs c) < o.idxOf (aA cs y))\/(sm cs prs=false/\v=.str (Str.ofString "Inconsistent hierarchy"))
theorem o5 {H:List O} {f:Nat->List Int}:∀ {ks:List Nat},(∀ k∈ks,H[k]?=some (.list ((f k).map .int)))->ILs H (ks.map .ref) (ks.map f)
 | [],_=>trivial
 | k::ks,h=>⟨⟨k,rfl,h k (.head _)⟩,o5 fun j hj=>h j (.tail _ hj)⟩
theorem iI {n k i j:Nat} (h:(a8 n k)[i]?=some j):j=n+1+i/\i < k:=by
 unfold a8 at h
 have hl:=aa h
 rw [GX,List.length_range] at hl
 rw [G3,List.getElem?_range hl] at h
 cases h
 exact⟨rfl,hl⟩
theorem fR {n k:Nat}:(a8 n k).length=k:=by unfold a8;exact (GX ..).trans (List.length_range ..)
theorem qg {n k j:Nat} (h:j∈a8 n k):n+1<=j/\j < n+1+k:=by
 obtain⟨i,hi⟩:=List.mem_iff_getElem?.mp h
 have:=iI hi
 simp_all
theorem lL {n k:Nat}:(a8 n k).Nodup:=by
 unfold a8
 refine List.pairwise_map.mpr ?_
 exact List.nodup_range.imp fun {a b} hab e=>hab (by exact Nat.add_left_cancel e)
theorem vz {cs:List Int} {prs:List (Int × Int)} {o:List Int} (ho:o∈orders) (hp:prs.length<=3):(aD cs prs o).length<=6:=by
 have:=(aX ho).2.1
 unfold aD
 refine rwE (GY ..) (rwE (GX ..) (rwE (GX ..) ?_));simp_all +arith
theorem sG {cs:List Int} {prs:List (Int × Int)} {o l:List Int} (h:l∈aD cs prs o):l.length<=6:=by
 rcases dX.mp h with ⟨r,hr,rfl⟩ | ⟨e,he,rfl⟩
 .unfold rowAt
  refine rwE (GX ..) ?_
  have:=List.length_filter_le (fun (k:Nat)=>decide ((cs[k]?.getD 0) % 3=((r.toNat:Nat):Int))) (List.range 6)
  rw [List.length_range] at this
  exact this
 .exact Nat.le_add_left _ _
set_option maxHeartbeats 1000000 in
theorem Dy {H:List O} {m:Str->Option V} {cs:List Int} {prs:List (Int × Int)} {picks:List Int} {us vs ow:List V} {kk kn ks ko kg:Nat} {g:List Int} {Q:Fl->Mine.St->Prop} {X:V->Mine.St->Prop} (B:Cx H m cs prs picks us vs ow kk kn ks ko kg g)
  (h:∀ (χ:Mine.St) (mv:List V),Ext H χ.H->pR m χ.m->χ.H[H.length]?=some (.list mv)->mv.length=6->(∀ (j:Nat) (o:List Int) (v:V),orders[j]?=some o->mv[j]?=some v->MOk χ.H H.length cs prs o v)->a7 (prog.at 10) (d9 9) aC.scope [] χ Q X) :
  a7 (prog.at 10) (d9 8) aC.scope [] ⟨H++[.list []],m⟩ Q X:=by
 refine rwE yz ?_
 refine eE st8 fun p8 q8 r8 e8=>?_
 refine rwE e8 ?_
 have m8:=B.m8
 have oo:(H++[O.list []])[ko]?=some (.list ow):=by refine (GR (aa B.oo)).trans ?_;exact B.oo
 wp_walk using 6,m8,oo
 have low:ow.length=6:=by refine B.ol.len.trans ?_;rfl
 have hH0:9 < H.length:=aa B.a.pairs
 have w:=(qk (cs:=cs) B.a.pin).within
 refine br (fun i χ=>Ext H χ.H/\pR m χ.m/\∃ mv:List V,χ.H[H.length]?=some (.list mv)/\mv.length=i/\∀ (j:Nat) (o:List Int) (v:V),orders[j]?=some o->mv[j]?=some v->MOk χ.H H.length cs prs o v)
  ⟨Ext.app,fun _ _=>rfl,[],ak,rfl,fun j o v _ hv=>by exact nS hv⟩ ?_ ?_
 ·(intro i it χ R hi ζ4;refine aJ ζ4 fun X1 hN ζ5=>?_;clear ζ4;refine d8 ζ5 fun mv gm hml hmo=>?_;clear ζ5;intro hR)
  obtain⟨v,hv1,rfl⟩:∃ v,ow[i]?=some v/\it=.one v:=by
   rw [G3,Option.map_eq_some_iff] at hi
   (refine ao hi fun v h1 ζ1=>?_;clear hi;obtain rfl:=ζ1)
   exact aW v h1 rfl
  have hil:=aa hv1
  (refine ao (B.ol.at hv1) fun o ho1 ζ2=>?_;refine ao ζ2 fun qo ζ3 hqo=>?_;clear ζ2;obtain rfl:=ζ3)
  have ho:o∈orders:=G0 ho1
  refine⟨aq oo rfl (X1.get B.oo),?_⟩
  wp_walk using 6,aj
  have N:∀ s∈fC,(χ.put (Str.ofString "order") (.ref qo)).m (Str.ofString s)=m (Str.ofString s):=hN.put (by decide)
  have LA:qR (χ.put (Str.ofString "order") (.ref qo)) cs prs picks us vs kk kn ks:=B.a.keep X1 ((N "rows" (by decide)).trans B.a.m1) ((N "pairs" (by decide)).trans B.a.m2) ((N "picks" (by decide)).trans B.a.m3) ((N "names" (by decide)).trans B.a.m4) ((N "steps" (by decide)).trans B.a.m5)
  refine vD LA ho (X1.get hqo) (rfl) fun H2 kl X2 hkl gl=>?_
  have X2:Ext χ.H H2:=X2
  have hkl:χ.H.length<=kl:=hkl
  have X12:=X1.trans X2
  have hil2:=(vy (σ:=⟨H,m⟩) B.a ho)
  have hil2:ILs H (sF us o) (aD cs prs o):=hil2
  have hln:=vz (cs:=cs) ho B.a.pl
  have hle:∀ l∈aD cs prs o,l.length<=6:=fun l hl=>sG hl
  have hgm:=aa gm
  have hkll:=aa gl
  wp_walk using 6,aj
  refine qj (ls:=aD cs prs o) gl (hil2.ext X12) (GS hln (by decide)) (fun l hl=>GS (hle l hl) (by decide)) (rfl) ?_
  wp_walk using 6,aj
  have X3:Ext H2 (H2++O.list ((a8 H2.length (aD cs prs o).length).map V.ref)::(aD cs prs o).map fun l=>O.list (l.map V.int)):=Ext.app
  have gh:(H2++O.list ((a8 H2.length (aD cs prs o).length).map V.ref)::(aD cs prs o).map fun l=>O.list (l.map V.int))[H2.length]?=some (.list ((a8 H2.length (aD cs prs o).length).map V.ref)):=by
   refine rwE ((List.getElem?_append_right (Nat.le_refl _)) ..) (rwE (Nat.sub_self ..) ?_);rfl
  have hq3:∀ (j k:Nat),(a8 H2.length (aD cs prs o).length)[j]?=some k->(aD cs prs o)[j]?=some (((aD cs prs o)[k - (H2.length+1)]?).getD []):=fun j k hj=>by
   obtain⟨rfl,hlt⟩:=iI hj
   refine rwE (show H2.length+1+j - (H2.length+1)=j by exact Nat.add_sub_self_left (List.length H2+1) j) (rwE (G6 hlt) ?_);rfl
  have hg3:∀ k∈a8 H2.length (aD cs prs o).length,0 < k/\(H2++O.list ((a8 H2.length (aD cs prs o).length).map V.ref)::(aD cs prs o).map fun l=>O.list (l.map V.int))[k]?=some (.list ((((aD cs prs o)[k - (H2.length+1)]?).getD []).map .int)):=fun k hk=>by
   obtain⟨j,hj⟩:=List.mem_iff_getElem?.mp hk
   have hq:=hq3 j k hj
   obtain⟨rfl,hlt⟩:=iI hj
   refine⟨by exact Nat.pos_of_neZero (List.length H2+1+j),?_⟩
   refine rwE (List.getElem?_append_right (by exact G5 (Nat.succ_le_of_lt (Nat.le_add_right (Nat.succ (List.length H2)) j)))) (rwE ((congrArg (· - H2.length) (Nat.add_assoc ..)).trans ((Nat.add_sub_cancel_left ..).trans (Nat.add_comm ..)):H2.length+1+j - H2.length=j+1) (rwE (List.getElem?_cons_succ) (rwE (G3) (rwE hq ?_))))
   rfl
  have hl3:(H2++O.list ((a8 H2.length (aD cs prs o).length).map V.ref)::(aD cs prs o).map fun l=>O.list (l.map V.int)).length=H2.length+1+(aD cs prs o).length:=by
   refine rwE (GY ..) (rwE (List.length_cons ..) (rwE (GX ..) ?_));exact Eq.symm (Nat.succ_add_eq_add_succ (List.length H2) (List.length (aD cs prs o)))
  generalize (H2++O.list ((a8 H2.length (aD cs prs o).length).map V.ref)::(aD cs prs o).map fun l=>O.list (l.map V.int))=H3 at X3 gh hg3 hl3
  have MG:=yT (Q:=fun k=>((aD cs prs o)[k - (H2.length+1)]?).getD []) ho B.a.pin hq3 fR
  have hmem:=fun {j:Nat} (h:j∈a8 H2.length (aD cs prs o).length)=>qg h
  have hx12:=X12.len
  have hx2:=X2.len
  have hnl:=@cg cs
  refine yH (Qr:=fun k=>((aD cs prs o)[k - (H2.length+1)]?).getD []) MG (by simp_all) gh (fun hq=>Nat.not_succ_le_self _ (hmem hq).1) hg3 lL (by refine rwE fR ?_;exact GS hln (by decide)) (fun k=>?_) (km:=H.length) (X3.get (X2.get gm)) (by exact Nat.zero_lt_of_lt hH0) (fun hq=>Nat.not_succ_le_self _ (GS (hmem hq).1 hx12)) (GS (Nat.le_of_eq hml) (GS (G5 (GW hil low)) (by decide))) (rfl) ?_ ?_
  .induction hk:(aD cs prs o)[k - (H2.length+1)]? with
   | none=>exact Nat.zero_le _
   | some l=>have:=hle l (G0 hk);simp;exact GS this (by decide)
  .refine Eq.trans ?_ ((hN "merges" (by decide)).trans B.m9)
   rfl
  intro H4 m4 v acc hm4 k4 keep4 hl4 gm4 G4 alt
  have hsame:∀ x,x∈acc↔x∈g:=fun x=>by
   rcases alt with ⟨_,hall,_⟩ | ⟨hst,_,_⟩
   .exact⟨fQ G4 B.g2 x,fun hx=>hall x (fq B.g1 x hx)⟩
   .exact⟨fQ G4 B.g2 x,fQ B.g1 hst x⟩
  have hl4':H3.length<=H4.length:=hl4
  have low4:∀ j,j < H2.length->j≠H.length->H4[j]?=H2[j]?:=fun j hj hne=>by
   refine (keep4 j (by refine (?_:j < H3.length);exact aT5 (aU2 hl3) hj) (fun hq=>Nat.lt_irrefl _ (Nat.lt_trans hj (hmem hq).1)) hne).trans ?_
   exact X3.keep j hj
  have h34:H2.length<=H3.length:=GS (Nat.le_succ _) (GS (Nat.le_add_right _ _) (Nat.le_of_eq hl3.symm))
  have X4:Ext H H4:=⟨GS (G5 hgm) (GS hx2 (GS h34 hl4)),fun j hj=>by exact (low4 j (by exact GU (by assumption) (by assumption)) (by exact Nat.ne_of_lt hj)).trans (X12.keep j hj)⟩
  have gl4:H4[kl]?=some (.list (sF us o)):=by refine (low4 kl hkll (Nat.ne_of_gt (GU hgm hkl))).trans ?_;exact gl
  have gh4:H4[H2.length]?=some (.list ((a8 H2.length (aD cs prs o).length).map V.ref)):=by
   refine (keep4 _ (by refine (?_:H2.length < H3.length);exact PyProof.Rows.place_lt gh) (fun hq=>Nat.not_succ_le_self _ (hmem hq).1) (Nat.ne_of_gt (GU hgm hx2))).trans ?_;exact gh
  wp_walk using 6,aj
  refine yD (g:=g) (ls:=aD cs prs o) gl4 (hil2.ext X4) (by lia) (fun l hl=>by have:=hle l hl;lia) ?_ gh4 (o5 k4) ?_ (X4.get B.gg) ?_ ?_ ?_
  .exact (hm4 "laid" (by decide)).trans (rfl)
  .exact (hm4 "handed" (by decide)).trans (rfl)
  .refine (hm4 "given" (by decide)).trans (Eq.trans ?_ ((hN "given" (by decide)).trans B.m7))
   rfl
  .have e1:(a8 H2.length (aD cs prs o).length).map (fun k=>((aD cs prs o)[k - (H2.length+1)]?).getD [])=aD cs prs o:=by
    refine List.ext_getElem? fun j=>?_
    refine (G3).trans ?_
    induction hj:(a8 H2.length (aD cs prs o).length)[j]? with
    | none =>
     have:=List.getElem?_eq_none_iff.mp hj
     rw [fR] at this
     refine rwE (List.getElem?_eq_none this) ?_;rfl
    | some k=>refine rwE (hq3 j k hj) ?_;rfl
   have e2:(fun x=>decide (x∉acc))=fun x=>decide (x∉g):=by funext x;simp only [hsame]
   conv=>rhs;rw [<- e1]
   rw [List.map_map,e2]
   rfl
  intro H5 X5
  have X5:Ext H4 H5:=X5
  wp_walk using 6,aj
  refine hR _ ⟨X4.trans X5,fun s hs=>?_,mv++[v],X5.get gm4,by refine rwE GY (rwE hml ?_);rfl,fun j o' v' hj hv'=>?_⟩
  .have hne:s ≠ "error" := fun e=>by subst e;exact absurd hs (by decide)
   have hne1:s ≠ "handed" := fun e=>by subst e;exact absurd hs (by decide)
   have hne2:s ≠ "laid" := fun e=>by subst e;exact absurd hs (by decide)
   refine (hm4 s hne).trans ?_
   refine (?_:pm (pm _ _ _) _ _ _=_)
   refine (fT hne1).trans ((fT hne2).trans ?_)
   exact N s hs
  .by_cases hji:j < i
   .rw [GR (by simp_all)] at hv'
    rcases hmo j o' v' hj hv' with ⟨hs,q,a,e1,hq,gq,r⟩ | hs
    .have hql:=aa gq
     refine .inl ⟨hs,q,a,e1,hq,X5.get ?_,r⟩
     refine (low4 q (by exact GU (by assumption) (by assumption)) (by exact Ne.symm (Nat.ne_of_lt hq))).trans ?_
     exact X2.get gq
    .exact .inr hs
   .have hjl:=aa hv'
    rw [GY,hml] at hjl
    have hjl:j < i+1:=hjl
    have:j=i:=Nat.le_antisymm (Nat.le_of_lt_succ hjl) (Nat.not_lt.1 hji)
    subst this
    rw [ho1] at hj;cases hj
    rw [List.getElem?_append_right (by exact Nat.le_of_eq hml),hml,Nat.sub_self] at hv'
    cases hv'
    rcases alt with ⟨hle',hall,q,rfl,hq,gq⟩ | ⟨hst,hno,rfl⟩
    .have hq:H3.length<=q:=hq
     refine .inl ⟨tV w G4 hall,q,acc,rfl,GU hgm (GS hx2 (GS h34 hq)),X5.get gq,G4,hall,fun i c hc y hy hyc=>?_⟩
     exact mZ ho hq3 (fq G4 c (G0 hc)) hy.1 (hle' i c hc y hy hyc)
    .exact .inr ⟨wI w hst hno,rfl⟩
 ·(intro χ ζ6;refine aJ ζ6 fun X1 hN ζ7=>?_;clear ζ6;refine d8 ζ7 fun mv gm hml hmo=>?_;clear ζ7)
  refine⟨aq oo rfl (X1.get B.oo),?_⟩
  wp_walk using 6,aj
  rw [GX,low] at hml
  exact h χ mv X1 hN gm hml hmo
theorem yC:d9 9=aT 9::aT 10::aT 11::d9 12:=by rfl
noncomputable def zV:PyData:=.list (List.replicate 6 (.str (Str.ofString "Inconsistent hierarchy")))
theorem iK:SeqAt.shaped zV=true:=by kernel_rfl
theorem uZ:PyData.eqv zV zV=true:=by kernel_rfl
theorem xg {H:List O} {k:Nat} (h:H[k]?=some (.list (List.replicate 6 (.str (Str.ofString "Inconsistent hierarchy"))))):Rd H zV (.ref k):=
 ⟨k,_,rfl,h,⟨_,_,rfl,rfl,_,_,rfl,rfl,_,_,rfl,rfl,_,_,rfl,rfl,_,_,rfl,rfl,_,_,rfl,rfl,rfl⟩⟩
theorem lC {ns:List Int} (f:Int->V) (x:Int):dF (ns.map fun y=>(y,f y)) x=if x∈ns then some (f x) else none:=by
 unfold dF
 induction ns with
 | nil=>rfl
 | cons y ns ih =>
  simp only [List.map_cons,List.find?_cons]
  by_cases e:y=x
  .subst e;simp
  .simp only [e,decide_false]
   refine ih.trans ?_
   have:x≠y:=fun h=>e h.symm
   simp [this]
noncomputable def eK (cs:List Int) (l:List Int):List (Int × V):=l.map fun x=>(x,V.int (aA cs x))
noncomputable def cN (cs:List Int) (i:Nat):List Int:=(List.range i).flatMap fun r=>rowAt cs r 6
theorem bL {cs:List Int} {i:Nat}:cN cs (i+1)=cN cs i++rowAt cs i 6:=by unfold cN;refine rwE List.range_succ (rwE List.flatMap_append ?_);simp [List.flatMap_cons]
theorem pD {cs:List Int}:cN cs 3=ay cs:=by
 refine rwE bL (rwE bL (rwE bL ?_))
 unfold ay cN
 rfl
theorem qp {cs:List Int} {i:Nat} {x:Int} (h:x∈cN cs i):∃ r,r < i/\x∈rowAt cs r 6:=by
 unfold cN at h
 refine ao (List.mem_flatMap.mp h) fun r hr hx=>?_
 exact aW r (List.mem_range.mp hr) hx
theorem fG {cs:List Int} {r:Nat}:(rowAt cs r 6).length<=6:=by
 unfold rowAt
 refine rwE (GX ..) ?_
 have:=List.length_filter_le (fun (k:Nat)=>decide ((cs[k]?.getD 0) % 3=(r:Int))) (List.range 6)
 rw [List.length_range] at this
 exact this
theorem rZ {cs:List Int} {l:List Int} {x:Int} (h:x∉l):lE (eK cs l) x (.int (aA cs x))=eK cs (l++[x]):=by
 unfold eK
 rw [j0,List.map_append];rfl
 intro e he
 (refine ao (List.mem_map.mp he) fun y hy ζ1=>?_;obtain rfl:=ζ1)
 exact fun e=>h (e ▸ hy)
structure zZ (H:List O) (m:Str->Option V) (cs:List Int) (prs:List (Int × Int)) (picks:List Int) (us vs ow mv:List V) (kk kn ks ko km kd:Nat):Prop where
 a:qR ⟨H,m⟩ cs prs picks us vs kk kn ks
 oo:H[ko]?=some (.list ow)
 ol:ILs H ow orders
 m8:m (Str.ofString "orders")=some (.ref ko)
 mm:H[km]?=some (.list mv)
 ml:mv.length=6
 m9:m (Str.ofString "merges")=some (.ref km)
 mok:∀ (j:Nat) (o:List Int) (v:V),orders[j]?=some o->mv[j]?=some v->MOk H km cs prs o v
 s:sm cs prs=true
 dd:∃ n,H[kd]?=some (.dict (eK cs (ay cs)) n)
 mh:m (Str.ofString "home")=some (.ref kd)
 mr:m (Str.ofString "runs")=some (.ref H.length)
theorem MOk.ext {H H':List O} (x:Ext H H') {n:Nat} {cs:List Int} {prs:List (Int × Int)} {o:List Int} {v:V}:MOk H n cs prs o v->MOk H' n cs prs o v
 | .inl ⟨h,q,a,e,hq,gq,r⟩=>.inl ⟨h,q,a,e,hq,x.get gq,r⟩
 | .inr h=>.inr h
set_option maxHeartbeats 1000000 in
theorem Dz {H:List O} {m:Str->Option V} {cs:List Int} {prs:List (Int × Int)} {picks:List Int} {us vs ow:List V} {kk kn ks ko kg:Nat} {g:List Int} {Q:Fl->Mine.St->Prop} {X:V->Mine.St->Prop} (B:Cx H m cs prs picks us vs ow kk kn ks ko kg g)
  {χ:Mine.St} {mv:List V} (X1:Ext H χ.H) (hN:pR m χ.m) (gm:χ.H[H.length]?=some (.list mv)) (hml:mv.length=6) (hmo:∀ (j:Nat) (o:List Int) (v:V),orders[j]?=some o->mv[j]?=some v->MOk χ.H H.length cs prs o v) (hQ:∀ σ,Q (.ret (.bool true)) σ)
  (h:∀ H' m' kd,zZ H' m' cs prs picks us vs ow mv kk kn ks ko H.length kd->a7 (prog.at 10) (d9 12) aC.scope [] ⟨H'++[.list []],m'⟩ Q X) :
  a7 (prog.at 10) (d9 9) aC.scope [] χ Q X:=by
 refine rwE yC ?_
 have h0:aT 9=aT 9:=rfl
 have h1:aT 10=aT 10:=rfl
 have h2:aT 11=aT 11:=rfl
 conv at h0=>rhs;whnf
 conv at h1=>rhs;whnf
 conv at h2=>rhs;whnf
 refine rwE h0 (rwE h1 (rwE h2 ?_))
 clear h0 h1 h2
 have m6:χ.m (Str.ofString "smooth")=some (.bool (sm cs prs)):=(hN "smooth" (by decide)).trans B.m6
 have m9:χ.m (Str.ofString "merges")=some (.ref H.length):=(hN "merges" (by decide)).trans B.m9
 have m1:χ.m (Str.ofString "rows")=some (.ref 7):=(hN "rows" (by decide)).trans B.a.m1
 wp_walk using 6,m6,m9,gm
 refine⟨fun hs=>?_,fun hs=>?_⟩
 .have hmv:mv=List.replicate 6 (.str (Str.ofString "Inconsistent hierarchy")):=by
   refine List.eq_replicate_iff.mpr ⟨hml,fun v hv=>?_⟩
   obtain⟨j,hj⟩:=List.mem_iff_getElem?.mp hv
   have hjl:=aa hj
   obtain⟨o,ho⟩:∃ o,orders[j]?=some o:=⟨_,G6 (by rw [hml] at hjl;exact hjl)⟩
   rcases hmo j o v ho hj with ⟨h,_⟩ | ⟨_,h⟩
   .rw [h] at hs;exact Bool.noConfusion hs
   .exact h
  subst hmv
  have X2:Ext χ.H (χ.H++[O.list [V.str (Str.ofString "Inconsistent hierarchy")]]++[O.list (List.replicate 6 (V.str (Str.ofString "Inconsistent hierarchy")))]):=Ext.app.trans Ext.app
  wp_walk using 6,aj
  refine AR _ ak (by decide) (by decide) (Nat.le_of_ble_eq_true rfl) ?_
  wp_walk using 6,aj
  refine oO ⟨zV,zV,xg (X2.get gm),xg ak,iK,iK,uZ.symm⟩ ?_
  wp_walk using 6,aj
  exact hQ _
 .have hs:sm cs prs=true:=by simpa using hs
  wp_walk using 6,aj
  refine⟨by unfold small;decide,?_⟩
  wp_walk using 6,aj
  have gr6:(χ.H++[O.range 0 3])[χ.H.length]?=some (.range 0 3):=ak
  have X4:Ext χ.H (χ.H++[O.range 0 3]):=Ext.app
  have hl6:(χ.H++[O.range 0 3]).length=χ.H.length+1:=by exact GY ..
  refine rwE gr6 ?_
  generalize χ.H++[O.range 0 3]=H6 at gr6 X4 hl6
  refine aW _ rfl ?_
  have hnd:(ay cs).Nodup:=names_nodup
  rw [<- pD] at hnd
  have hnl:=@cg cs
  have hr7:=X4.get (X1.get B.a.rws)
  refine aO (fun i ψ=>(∃ n,ψ.H=H6++[.dict (eK cs (cN cs i)) n])/\ψ.m (Str.ofString "rows")=some (.ref 7)) ?_ ?_ ?_
  .refine⟨⟨0,rfl⟩,Eq.trans ?_ m1⟩
   kernel_rfl
  .rintro i it ψ T hi ⟨⟨n,hH⟩,mr⟩ hT
   obtain⟨hi3,rfl⟩:i < 3/\it=.one (.int (i:Int)):=by
    have hil:=aa hi
    simp at hil
    refine⟨hil,?_⟩
    rw [G3,List.getElem?_range (by simpa using hil)] at hi
    cases hi
    simp
   have X5:Ext H6 ψ.H:=by refine rwE hH ?_;exact Ext.app
   have g7:ψ.H[7]?=some (.list [V.ref 4,V.ref 5,V.ref 6]):=X5.get hr7
   have grow:ψ.H[4+i]?=some (.list ((rowAt cs i 6).map .int)):=X5.get (X4.get (X1.get (B.a.row i hi3)))
   refine⟨aq gr6 rfl (X5.get gr6),?_⟩
   have hrow:[V.ref 4,V.ref 5,V.ref 6][i]?=some (.ref (4+i)):=by
    rcases (by lia:i=0\/i=1\/i=2) with rfl | rfl | rfl<;>rfl
   wp_walk using 6,g7
   refine⟨i,cj hi3,_,hrow,by exact Int.NonNeg.mk (i+Nat.succ 4611686018427387903),by lia,?_⟩
   wp_walk using 6,grow
   refine aO (fun j ξ=>(∃ n,ξ.H=H6++[.dict (eK cs (cN cs i++(rowAt cs i 6).take j)) n])/\ξ.m (Str.ofString "rows")=some (.ref 7)/\ξ.m (Str.ofString "r")=some (.int (i:Int))) ?_ ?_ ?_
   .exact⟨⟨n,by refine rwE (List.take_zero ..) (rwE (List.append_nil ..) ?_);exact hH⟩,mr,rfl⟩
   ·(intro j it ξ T2 hj ζ3;refine aJ ζ3 fun ζ4 mr2 mr3=>?_;clear ζ3;obtain⟨n2,hH2⟩:=ζ4;intro hT2)
    (refine ao (bA hj) fun x hx ζ2=>?_;obtain rfl:=ζ2)
    have X6:Ext H6 ξ.H:=by refine rwE hH2 ?_;exact Ext.app
    refine⟨aq grow rfl (X6.get (X4.get (X1.get (B.a.row i hi3)))),?_⟩
    have gd:ξ.H[H6.length]?=some (.dict (eK cs (cN cs i++(rowAt cs i 6).take j)) n2):=by refine rwE hH2 ?_;exact ak
    wp_walk using 6,aj
    have hxr:x∈rowAt cs i 6:=G0 hx
    have hnx:x∉cN cs i++(rowAt cs i 6).take j:=fun hm=>by
     rcases List.mem_append.mp hm with hm | hm
     .refine ao (qp hm) fun r hr hxr'=>?_
      have:=bK hxr hxr';simp_all
     .obtain⟨p,hp⟩:=List.mem_iff_getElem?.mp hm
      have hpl:=aa hp
      rw [List.length_take] at hpl
      rw [List.getElem?_take_of_lt (by lia)] at hp
      have h1:=fy cM hp
      have h2:=fy cM hx
      lia
    have hkl:(eK cs (cN cs i++(rowAt cs i 6).take j)).length<=big:=by
     unfold eK
     have h1:=@fG cs 0
     have h2:=@fG cs 1
     have h3:=@fG cs 2
     have h4:=@fG cs i
     have h5:(cN cs i).length<=18:=by
      rcases (by lia:i=0\/i=1\/i=2) with rfl | rfl | rfl
      .exact Nat.zero_le _
      .refine rwE bL (rwE GY ?_);simp [cN];lia
      .refine rwE bL (rwE bL (rwE GY (rwE GY ?_)));simp [cN];lia
     rw [GX,GY,List.length_take]
     unfold big;lia
    refine jk _ _ gd hkl (fun n'=>?_)
    wp_walk using 6,aj
    refine hT2 _ ⟨⟨n',?_⟩,mr2,mr3⟩
    refine (?_:ξ.H.set _ _=_)
    have e1:aA cs x=(i:Int):=kB hi3 hxr
    rw [<- e1,rZ hnx,hH2,cW,List.append_assoc,take_snoc hx]
   ·(intro ξ ζ5;refine aJ ζ5 fun ζ6 mr2 mr3=>?_;clear ζ5;obtain⟨n2,hH2⟩:=ζ6)
    have X6:Ext H6 ξ.H:=by refine rwE hH2 ?_;exact Ext.app
    refine⟨aq grow rfl (X6.get (X4.get (X1.get (B.a.row i hi3)))),?_⟩
    rw [GX,GX,List.take_length] at hH2
    refine hT _ ⟨⟨n2,?_⟩,mr2⟩
    exact rwE hH2 (rwE bL rfl)
  .rintro ψ ⟨⟨n,hH⟩,mr⟩
   have X5:Ext H6 ψ.H:=by refine rwE hH ?_;exact Ext.app
   refine⟨aq gr6 rfl (X5.get gr6),?_⟩
   rw [GX,List.length_range] at hH
   have hH:ψ.H=H6++[.dict (eK cs (ay cs)) n]:=by refine rwE hH (rwS pD ?_);rfl
   wp_walk using 6,aj
   have XX:=(X1.trans X4).trans X5
   have hm2:∀ s∈fC,(pm (pm χ.m (Str.ofString "home") (.ref H6.length)) (Str.ofString "runs") (.ref ψ.H.length)) (Str.ofString s)=m (Str.ofString s):=fun s hs=>by
    refine (fT (fun e:s = "runs" => by subst e;exact absurd hs (by decide))).trans ((fT (fun e:s = "home" => by subst e;exact absurd hs (by decide))).trans ?_)
    exact hN s hs
   refine h ψ.H _ H6.length ⟨B.a.keep XX ?_ ?_ ?_ ?_ ?_,XX.get B.oo,B.ol.ext XX,?_,(X4.trans X5).get gm,hml,?_,fun j o v ho hv=>(hmo j o v ho hv).ext (X4.trans X5),hs,⟨n,?_⟩,?_,?_⟩
   .exact (hm2 "rows" (by decide)).trans B.a.m1
   .exact (hm2 "pairs" (by decide)).trans B.a.m2
   .exact (hm2 "picks" (by decide)).trans B.a.m3
   .exact (hm2 "names" (by decide)).trans B.a.m4
   .exact (hm2 "steps" (by decide)).trans B.a.m5
   .exact (hm2 "orders" (by decide)).trans B.m8
   .exact (hm2 "merges" (by decide)).trans B.m9
   .refine rwE hH ?_;exact ak
   .rfl
   .rfl
noncomputable def xx (hm:Int->Int) (G:List (Int × Int)) (x:Int) (w:List Int):List (Int × Int):=G++(w.filter fun y=>decide ((hm x,hm y)∉G)).map fun y=>(hm x,hm y)
noncomputable def bz (hm:Int->Int) (c:List Int) (ws:List (List Int)) (i:Nat):List (Int × Int):=((c.zip ws).take i).foldl (fun G p=>xx hm G p.1 p.2) []
section
variable {hm:Int->Int} {c:List Int} {ws:List (List Int)}
theorem uv {G:List (Int × Int)} {x:Int} {w:List Int} {e:Int × Int}:e∈xx hm G x w↔e∈G\/∃ y∈w,e=(hm x,hm y):=by
 unfold xx
 simp only [List.mem_append,List.mem_map,List.mem_filter,decide_eq_true_eq]
 constructor
 .rintro (h | ⟨y,⟨h1,_⟩,rfl⟩)
  .exact .inl h
  .exact .inr ⟨y,h1,rfl⟩
 .rintro (h | ⟨y,h1,rfl⟩)
  .exact .inl h
  .by_cases h2:(hm x,hm y)∈G
   .exact .inl h2
   .exact .inr ⟨y,⟨h1,h2⟩,rfl⟩
theorem uu {G:List (Int × Int)} {x:Int} {w:List Int}:(xx hm G x w).length<=G.length+w.length:=by
 unfold xx
 refine rwE (GY ..) (rwE (GX ..) ?_)
 have:=List.length_filter_le (fun y=>decide ((hm x,hm y)∉G)) w
 exact aT2 Nat.le.refl this
theorem iH {i:Nat} {x:Int} {w:List Int} (h:(c.zip ws)[i]?=some (x,w)):bz hm c ws (i+1)=xx hm (bz hm c ws i) x w:=by
 unfold bz
 refine rwE (take_snoc h) (rwE List.foldl_append ?_);rfl
theorem uY {i:Nat} {e:Int × Int}:e∈bz hm c ws i↔∃ j x w y,j < i/\(c.zip ws)[j]?=some (x,w)/\y∈w/\e=(hm x,hm y):=by
 induction i with
 | zero =>
  constructor
  .intro h;cases h
  ·(intro ζ5;refine gP ζ5 fun j _ _ _ ζ6=>?_;clear ζ5;obtain⟨h,_⟩:=ζ6);simp_all
 | succ i ih =>
  induction hz:(c.zip ws)[i]? with
  | none =>
   have e1:bz hm c ws (i+1)=bz hm c ws i:=by
    unfold bz
    have:=List.getElem?_eq_none_iff.mp hz
    exact rwE (List.take_of_length_le (by exact Nat.le.step this)) (rwE (List.take_of_length_le (by omega)) rfl)
   rw [e1,ih]
   constructor
   ·(intro ζ7;refine gP ζ7 fun j x w y ζ8=>?_;clear ζ7;obtain⟨h,r⟩:=ζ8);exact D6 j x w y (by exact Nat.le.step h) r
   ·(intro ζ9;refine gP ζ9 fun j x w y Ft=>?_;clear ζ9;refine aJ Ft fun h h2 r=>?_;clear Ft)
    refine Es j x w y ?_ h2 r
    have:=List.getElem?_eq_none_iff.mp hz
    have:=aa h2
    exact GU (by assumption) (by assumption)
  | some p =>
   obtain⟨x,w⟩:=p
   rw [iH hz,uv,ih]
   constructor
   .rintro (⟨j,x,w,y,h,r⟩ | ⟨y,hy,rfl⟩)
    .exact D6 j x w y (by exact Nat.le.step h) r
    .exact D7 i x w y (by exact Nat.lt_succ_self _) hz hy rfl
   ·(intro Fp;refine gP Fp fun j x' w' y Fx=>?_;clear Fp;refine ek Fx fun h h2 hy Fy=>?_;clear Fx;obtain rfl:=Fy)
    by_cases hji:j=i
    .subst hji
     rw [hz] at h2;cases h2
     exact .inr ⟨y,hy,rfl⟩
    .exact .inl ⟨j,x',w',y,by lia,h2,hy,rfl⟩
theorem oY {b:Nat} (hw:∀ w∈ws,w.length<=b) {i:Nat}:(bz hm c ws i).length<=b * i:=by
 induction i with
 | zero=>exact Nat.le_refl _
 | succ i ih =>
  induction hz:(c.zip ws)[i]? with
  | none =>
   have e1:bz hm c ws (i+1)=bz hm c ws i:=by
    unfold bz
    have:=List.getElem?_eq_none_iff.mp hz
    exact rwE (List.take_of_length_le (by exact Nat.le.step this)) (rwE (List.take_of_length_le (by omega)) rfl)
   refine rwE (e1 ..) (rwE (Nat.mul_succ ..) ?_);exact aU5 rfl ih
  | some p =>
   obtain⟨x,w⟩:=p
   refine rwE ((iH hz) ..) (rwE (Nat.mul_succ ..) ?_)
   have h1:=uu (hm:=hm) (G:=bz hm c ws i) (x:=x) (w:=w)
   have hmem:w∈ws:=by
    have:=G0 hz
    exact (List.of_mem_zip this).2
   have:=hw w hmem
   lia
end
noncomputable def lh (G:List (Int × Int)) (o:List Int):Bool:=decide (∀ e∈G,o.idxOf e.1 < o.idxOf e.2)
section
variable {row:Nat->List Int} {prs E:List (Int × Int)} {T:List Int} {home:Int->Int} {c:List Int} {ws:List (List Int)}
theorem ua {i:Nat} {x:Int} {w:List Int}:(c.zip ws)[i]?=some (x,w)↔c[i]?=some x/\ws[i]?=some w:=by
 exact List.getElem?_zip_eq_some
theorem gY (hw:z0 E T c ws) (hl:ws.length=c.length) {e:Int × Int}:e∈bz home c ws c.length↔∃ i x y,c[i]?=some x/\Av E T (c.take i) y/\y≠x/\e=(home x,home y):=by
 refine uY.trans ?_
 constructor
 ·(intro Fz;refine gP Fz fun j x w y FD=>?_;clear Fz;refine ek FD fun hj hz hy FE=>?_;clear FD;obtain rfl:=FE)
  obtain⟨h1,h2⟩:=ua.mp hz
  obtain⟨_,h3⟩:=hw j x w h1 h2
  obtain⟨h4,h5⟩:=(h3 y).mp hy
  exact Cp j x y h1 h4 h5 rfl
 ·(intro FH;refine eE FH fun j x y FN=>?_;clear FH;refine ek FN fun h1 h4 h5 FP=>?_;clear FN;obtain rfl:=FP)
  have hj:=aa h1
  obtain⟨w,h2⟩:∃ w,ws[j]?=some w:=⟨_,G6 (by simp_all)⟩
  obtain⟨_,h3⟩:=hw j x w h1 h2
  exact D7 j x w y hj (ua.mpr ⟨h1,h2⟩) ((h3 y).mpr ⟨h4,h5⟩) rfl
theorem qd (L:Lw row prs E T home) (g:c6 E T c) (hw:z0 E T c ws) (hl:ws.length=c.length) {a b:Int} (h:(a,b)∈bz home c ws c.length):a≠b:=by
 (refine eE ((gY hw hl).mp h) fun i x y ζ1=>?_;refine ek ζ1 fun h1 h2 h3 e=>?_;clear ζ1)
 cases e
 have g2:=rW g i
 exact L.apart (fun z hz e he hez=>nt g2 z hz e he hez) (g i x h1) h2 (Ne.symm h3)
theorem zM (g:c6 E T c) (hw:z0 E T c ws) (hl:ws.length=c.length) {o acc:List Int} (ga:c6 E T acc) (hal:acc.length=c.length)
  (la:∀ i x,acc[i]?=some x->∀ y,Av E T (acc.take i) y->y≠x->o.idxOf (home x) < o.idxOf (home y)):decide (acc=c)=lh (bz home c ws c.length) o:=by
 unfold lh
 refine decide_eq_decide.mpr ?_
 refine (vJ (rk:=fun x=>o.idxOf (home x)) ga g hal la).trans ?_
 constructor
 .intro h e he
  (refine eE ((gY hw hl).mp he) fun i x y ζ2=>?_;refine ek ζ2 fun h1 h2 h3 ζ3=>?_;clear ζ2;obtain rfl:=ζ3)
  exact h i x h1 y h2 h3
 .intro h i x h1 y h2 h3
  exact h _ ((gY hw hl).mpr ⟨i,x,y,h1,h2,h3,rfl⟩)
end
section
variable {G:List (Int × Int)} (w:Within G [0,1,2])
include w in
theorem j9 {o:List Int} (ho:o∈orders):lh G o=true↔c6 G [0,1,2] o:=by
 unfold lh
 rw [decide_eq_true_eq,qf ho w]
include w in
theorem eH:bF (aB G) (bC G [0,1,2]) [0,1,2]=decide (orders.filter (lh G)≠[]):=by
 induction hs:bF (aB G) (bC G [0,1,2]) [0,1,2] with
 | true =>
  obtain⟨s,hf⟩:=tU w hs
  refine ao (iE hf) fun B t hB=>?_
  refine ao (kH w t hB) fun o ho hk=>?_
  refine (decide_eq_true ?_).symm
  intro e
  have:o∈orders.filter (lh G):=List.mem_filter.mpr ⟨ho,by unfold lh;exact decide_eq_true hk⟩
  rw [e] at this;cases this
 | false =>
  refine (decide_eq_false ?_).symm
  intro hne
  obtain⟨o,ho⟩:=List.exists_mem_of_ne_nil _ hne
  obtain⟨h1,h2⟩:=List.mem_filter.mp ho
  have g:=(j9 w h1).mp h2
  have:=tV w g (fun x hx=>((aX h1).2.2 x).mpr (by simpa using hx))
  rw [hs] at this;exact Bool.noConfusion this
end
theorem tm {su:Int->List Int} {l:List Int} (r:Ring su l) (hne:∀ x,x∉su x):3<=l.length/\∃ x,l[0]?=some x/\l.getLast?=some x:=by
 (refine bq r fun x m ζ4 hw=>?_;clear r;obtain rfl:=ζ4)
 refine⟨?_,x,rfl,by refine (List.getLast?_append).trans ?_;rfl⟩
 induction m using List.casesOn with
 | nil=>exact absurd (hw.1 x rfl) (hne x)
 | cons y m=>simp
theorem t7 {su:Int->List Int}:∀ {l:List Int} {i:Nat} {a b:Int},Walk su l->l[i]?=some a->l[i+1]?=some b->b∈su a
 | x::l,0,a,b,h,h1,h2=>by
  cases h1
  exact h.1 b (by refine (List.head?_eq_getElem?).trans ?_;exact h2)
 | x::l,i+1,a,b,h,h1,h2=>t7 (l:=l) (i:=i) h.2 h1 h2
noncomputable def lp (k:Nat):Stmt:=nth (bodyOf (aT 12)) k
noncomputable def yP (k:Nat):List Stmt:=(bodyOf (aT 12)).drop k
noncomputable def CT (s:Stmt):Expr:=if h:s.ctorIdx=9 then Stmt.For.elim (motive_2:=fun _=>Expr) s h fun _ i _ _ _=>i else .Name (Str.ofString "") ⟨0,0,0,0⟩
theorem E3:∃ p r,aT 12=.For (.Name (Str.ofString "run") p) (CT (aT 12)) (lp 0::lp 1::lp 2::lp 3::lp 4::yP 5) [] r:=⟨_,_,rfl⟩
theorem iJ {H:List O} {a:V} {ws:List V} {c:List Int} {l:List (List Int)} (ha:IL H a c) (h2:ILs H ws l):∃ d,Rd H d a/\∃ x,Rds H x ws/\SeqAt.shaped d=true/\SeqAt.shaped (.list x)=true/\decide (c∈l)=x.any fun y=>y.eqv d:=
 ⟨liD c,ha.rd,l.map liD,h2.rd,fU c,dT l,(qZ l c).symm⟩
noncomputable def kM:List String := "home" :: "runs" :: fC
noncomputable def lj (m m':Str->Option V):Prop:=∀ s∈kM,m' (Str.ofString s)=m (Str.ofString s)
theorem lj.put {m:Str->Option V} {σ:Mine.St} {x:String} {v:V} (h:lj m σ.m) (hx:x∉kM):lj m (σ.put (Str.ofString x) v).m:=fun s hs=>by
 exact (fT (fun e:s=x=>hx (by refine rwS e ?_;exact hs))).trans (h s hs)
section
variable {H:List O} {m:Str->Option V} {cs:List Int} {prs:List (Int × Int)} {picks:List Int} {us vs ow mv:List V} {kk kn ks ko km kd:Nat}
theorem zZ.at (D:zZ H m cs prs picks us vs ow mv kk kn ks ko km kd) {H':List O} {m':Str->Option V} (x:Ext H H') (N:lj m m'):qR ⟨H',m'⟩ cs prs picks us vs kk kn ks:=
 D.a.keep x ((N "rows" (by decide)).trans D.a.m1) ((N "pairs" (by decide)).trans D.a.m2) ((N "picks" (by decide)).trans D.a.m3) ((N "names" (by decide)).trans D.a.m4) ((N "steps" (by decide)).trans D.a.m5)
theorem vM {cs:List Int} {x:Int} (h:x∈ay cs):small x:=by
 (refine ao (sS.mp (cK.mp h)) fun k hk ζ1=>?_;obtain rfl:=ζ1)
 rcases (by lia:k=0\/k=1\/k=2\/k=3\/k=4\/k=5) with rfl | rfl | rfl | rfl | rfl | rfl<;>(unfold small;decide)
set_option maxHeartbeats 1000000 in
theorem DA {σ:Mine.St} {c:List Int} {rls:List (List Int)} {rv:List V} {q:Nat} {Q:Fl->Mine.St->Prop} {X:V->Mine.St->Prop} (D:zZ H m cs prs picks us vs ow mv kk kn ks ko km kd) (X0:Ext H σ.H) (N:lj m σ.m)
  (mq:σ.m (Str.ofString "run")=some (.ref q)) (hq:σ.H[q]?=some (.list (c.map .int))) (hqr:q≠H.length) (gr:σ.H[H.length]?=some (.list rv)) (grs:ILs σ.H rv rls) (hrl:rv.length<=100) (G:c6 (aN cs prs) (ay cs) c) (hc:c.length=6)
  (h1:c∈rls->Q .cont σ)
  (h2:c∉rls->∀ H' m' k ur ws kg,Ext (σ.H.set H.length (.list (rv++[.ref q]))) H'->(∀ s:String,s ≠ "others" -> s ≠ "goes" -> m' (Str.ofString s)=σ.m (Str.ofString s))->m' (Str.ofString "others")=some (.ref k)->H'[k]?=some (.list ur)->ILs H' ur ws->ws.length=c.length->z0 (aN cs prs) (ay cs) c ws->m' (Str.ofString "goes")=some (.ref kg)->H'[kg]?=some (.list [])->a7 (prog.at 10) (yP 5) aC.scope [] ⟨H',m'⟩ Q X) :
  a7 (prog.at 10) (lp 0::lp 1::lp 2::lp 3::lp 4::yP 5) aC.scope [] σ Q X:=by
 have e0:lp 0=lp 0:=rfl
 have e1:lp 1=lp 1:=rfl
 have e2:lp 2=lp 2:=rfl
 have e3:lp 3=lp 3:=rfl
 have e4:lp 4=lp 4:=rfl
 conv at e0=>rhs;whnf
 conv at e1=>rhs;whnf
 conv at e2=>rhs;whnf
 conv at e3=>rhs;whnf
 conv at e4=>rhs;whnf
 refine rwE e0 (rwE e1 (rwE e2 (rwE e3 (rwE e4 ?_))))
 clear e0 e1 e2 e3 e4
 have mr:σ.m (Str.ofString "runs")=some (.ref H.length):=(N "runs" (by decide)).trans D.mr
 have LA0:=D.at X0 N
 have m4:σ.m (Str.ofString "names")=some (.ref kn):=LA0.m4
 have m5:σ.m (Str.ofString "steps")=some (.ref ks):=LA0.m5
 wp_walk using 6,mq,mr,gr
 have hH0:9 < H.length:=aa D.a.pairs
 refine aW _ (iJ ⟨q,rfl,hq⟩ grs) ?_
 wp_walk using 6,aj
 refine⟨fun hin=>?_,fun hin=>?_⟩
 .wp_walk using 6,aj
  exact h1 hin
 wp_walk using 6,gr
 refine⟨by lia,by unfold big;lia,?_⟩
 have X1:Ext H (σ.H.set H.length (.list (rv++[.ref q]))):=X0.set (Nat.le_refl _)
 have LA:=D.at X1 N
 have hq':(σ.H.set H.length (.list (rv++[.ref q])))[q]?=some (.list (c.map .int)):=by refine (af (Ne.symm hqr)).trans ?_;exact hq
 have w:=(qk (cs:=cs) D.a.pin).within
 have hsl:=jb (cs:=cs) D.a.pl
 have hnl:=@cg cs
 generalize σ.H.set H.length (.list (rv++[.ref q]))=H2 at X1 LA hq' h2
 wp_walk using 6,aj
 refine iS LA.names LA.steps LA.stp hq' names_nodup w (by simp_all) (by lia) (by simp_all) (fq G) (fun x hx=>vM hx) fun H3 v X3 hv=>?_
 rcases hv with ⟨_,k,ur,ws,rfl,gk,gur,hwl,hws⟩ | ⟨hn,_⟩
 .have hq3:=X3.get hq'
  wp_walk using 6,hq3
  refine⟨by unfold big;simp_all,?_⟩
  wp_walk using 6,aj
  refine⟨fun hne=>?_,fun hne=>?_⟩
  .have hne:(!decide ((c.length:Int)=6))=true:=hne
   simp [hc] at hne
  refine rwE xo (rwE D9 (rwE (Ea (show ¬ ((BoolOp.Or == BoolOp.And)=true) by decide)) ?_))
  wp_walk using 6,aj
  refine h2 hin _ _ k ur ws H3.length (X3.trans Ext.app) (fun s hs1 hs2=>?_) ?_ ?_ (gur.ext Ext.app) hwl hws ?_ ?_
  .exact (fT hs2).trans (fT hs1)
  .rfl
  .refine (GR (aa gk)).trans ?_;exact gk
  .rfl
  .exact ak
 .exact absurd G hn
end
theorem il {Fo H:List O} {i j:Nat} {xs ys:List V} (h1:Fo[i]?=some (.list xs)) (h2:Fo[j]?=some (.list ys)) (h1':H[i]?=some (.list xs)) (h2':H[j]?=some (.list ys)):kZ Fo (.zip (.ref i) (.ref j)) H:=by
 intro k hk
 have:DR Fo (.zip (.ref i) (.ref j))=[i,j]:=rfl
 rw [this] at hk
 simp only [List.mem_cons,List.not_mem_nil,or_false] at hk
 rcases hk with rfl | rfl
 .exact rwE h1 (rwE h1' rfl)
 .exact rwE h2 (rwE h2' rfl)
theorem lP {H:List O} {i j:Nat} {xs ys:List V} (h1:H[i]?=some (.list xs)) (h2:H[j]?=some (.list ys)):aY H (.zip (.ref i) (.ref j))=some ((xs.zip ys).map fun e=>.pair e.1 e.2):=by
 refine (?_:((H[i]?.bind lU).bind fun xs=>(H[j]?.bind lU).map fun ys=>(xs.zip ys).map fun e=>Item.pair e.1 e.2)=_)
 refine rwE h1 (rwE h2 ?_);rfl
theorem wN {c:List Int} {us:List V} {i:Nat} {it:Item} (h:(List.map (fun (e:V × V)=>Item.pair e.1 e.2) ((c.map V.int).zip us))[i]?=some it):∃ x v,c[i]?=some x/\us[i]?=some v/\it=.pair (.int x) v:=by
 rw [G3,Option.map_eq_some_iff] at h
 (refine ao h fun ζ1 h1 ζ2=>?_;clear h;obtain⟨a,b⟩:=ζ1;obtain rfl:=ζ2)
 rw [List.getElem?_zip_eq_some] at h1
 obtain⟨h1,h2⟩:=h1
 rw [G3,Option.map_eq_some_iff] at h1
 (refine ao h1 fun x hx ζ3=>?_;clear h1;obtain rfl:=ζ3)
 exact jk x b hx h2 rfl
theorem pn {G:List (Int × Int)} {a b:Int}:([a,b]∈G.map fun (e:Int × Int)=>[e.1,e.2])↔(a,b)∈G:=by
 refine List.mem_map.trans ?_
 constructor
 ·(intro ζ8;refine ao ζ8 fun ζ9 h e=>?_;clear ζ8;obtain⟨c,d⟩:=ζ9)
  cases e;exact h
 .intro h;exact aW (a,b) h rfl
set_option maxHeartbeats 1000000 in
theorem vC {σ:Mine.St} {cs:List Int} {c:List Int} {ws:List (List Int)} {ur:List V} {q k kd kg n:Nat} {Q:Fl->Mine.St->Prop} {X:V->Mine.St->Prop}
  (mq:σ.m (Str.ofString "run")=some (.ref q)) (hq:σ.H[q]?=some (.list (c.map .int))) (mk:σ.m (Str.ofString "others")=some (.ref k)) (hk:σ.H[k]?=some (.list ur)) (hur:ILs σ.H ur ws) (hwl:ws.length=c.length) (mh:σ.m (Str.ofString "home")=some (.ref kd)) (hd:σ.H[kd]?=some (.dict (eK cs (ay cs)) n))
  (mg:σ.m (Str.ofString "goes")=some (.ref kg)) (hg:σ.H[kg]?=some (.list [])) (hcn:∀ x∈c,x∈ay cs) (hcl:c.length<=6) (hwn:∀ w∈ws,∀ x∈w,x∈ay cs) (hws:∀ w∈ws,w.length<=6)
  (h:∀ H' m' kG gv,Ext σ.H H'->(∀ s:String,s ≠ "name" -> s ≠ "waits" -> s ≠ "goes" -> m' (Str.ofString s)=σ.m (Str.ofString s))->m' (Str.ofString "goes")=some (.ref kG)->H'[kG]?=some (.list gv)->ILs H' gv ((bz (aA cs) c ws c.length).map fun e=>[e.1,e.2])->Q .next ⟨H',m'⟩) :
  awS (prog.at 10) (lp 5) aC.scope [] σ Q X:=by
 have e0:lp 5=lp 5:=rfl
 conv at e0=>rhs;whnf
 refine rwE e0 ?_
 clear e0
 wp_walk using 6,mq,mk
 refine aW _ (lP hq hk) ?_
 have hul:ur.length=c.length:=by refine hur.len.trans ?_;exact hwl
 refine br (fun i τ=>Ext σ.H τ.H/\(∀ s:String,s ≠ "name" -> s ≠ "waits" -> s ≠ "goes" -> τ.m (Str.ofString s)=σ.m (Str.ofString s))/\∃ kG gv,τ.m (Str.ofString "goes")=some (.ref kG)/\τ.H[kG]?=some (.list gv)/\ILs τ.H gv ((bz (aA cs) c ws i).map fun e=>[e.1,e.2]))
  ⟨Ext.refl,fun _ _ _ _=>rfl,kg,[],mg,hg,trivial⟩ ?_ ?_
 ·(intro i it τ R hi Ft;refine aJ Ft fun X1 hN Fp=>?_;clear Ft;refine fh Fp fun kG gv m1 g1 gvs=>?_;clear Fp;intro hR)
  (refine fh (wN hi) fun x v hx hv ζ4=>?_;obtain rfl:=ζ4)
  (refine ao (hur.at hv) fun w hw ζ5=>?_;refine ao ζ5 fun qw ζ6 gw=>?_;clear ζ5;obtain rfl:=ζ6)
  have hxn:=hcn x (G0 hx)
  have hwm:=G0 hw
  have hil:=aa hx
  have gw1:=X1.get gw
  have gd1:=X1.get hd
  have mh1:τ.m (Str.ofString "home")=some (.ref kd):=(hN "home" (by decide) (by decide) (by decide)).trans mh
  have hGl:(bz (aA cs) c ws i).length<=6 * i:=oY hws
  have hgvl:gv.length<=36:=by refine rwE (gvs.len ..) (rwE (GX ..) ?_);lia
  have hwl6:=hws w hwm
  refine⟨il hq hk (X1.get hq) (X1.get hk),?_⟩
  wp_walk using 6,gw1
  generalize hG:bz (aA cs) c ws i=G at gvs hGl
  refine aO (fun j ξ=>∃ vs,ξ.H[τ.H.length]?=some (.list vs)/\ILs ξ.H vs (((w.take j).filter fun y=>decide ((aA cs x,aA cs y)∉G)).map fun y=>[aA cs x,aA cs y])/\(∀ v∈vs,∀ p,v=.ref p->τ.H.length+1<=p)/\Ext τ.H ξ.H/\vs.length<=j /\
    ξ.m (Str.ofString "home")=some (.ref kd)/\ξ.m (Str.ofString "name")=some (.int x)/\ξ.m (Str.ofString "goes")=some (.ref kG)) ?_ ?_ ?_
  .refine Ep ([]) ak trivial (fun v hv=>by cases hv) Ext.app (Nat.le_refl _) (Eq.trans ?_ mh1) ?_ (Eq.trans ?_ m1)<;>kernel_rfl
  ·(intro j it ξ T hj Fx;refine bW Fx fun vs gv1 hvs prot Fy=>?_;clear Fx;refine rH Fy fun X3 hvl n1 n2 n3=>?_;clear Fy;intro hT)
   (refine ao (bA hj) fun y hy ζ7=>?_;obtain rfl:=ζ7)
   have hyw:=G0 hy
   have hyn:=hwn w hwm y hyw
   have hjl:=aa hy
   refine⟨aq gw1 rfl (X3.get gw1),?_⟩
   have gd3:=X3.get gd1
   have gG3:=X3.get g1
   have e1:dF (eK cs (ay cs)) x=some (.int (aA cs x)):=by unfold eK;exact (lC ..).trans ((if_pos hxn) ..)
   have e2:dF (eK cs (ay cs)) y=some (.int (aA cs y)):=by unfold eK;exact (lC ..).trans ((if_pos hyn) ..)
   have hNl:=aa gv1
   have X4:Ext ξ.H (ξ.H++[O.list [V.int (aA cs x),V.int (aA cs y)]]):=Ext.app
   have gn:(ξ.H++[O.list [V.int (aA cs x),V.int (aA cs y)]])[ξ.H.length]?=some (.list ([aA cs x,aA cs y].map .int)):=ak
   have hl4:(ξ.H++[O.list [V.int (aA cs x),V.int (aA cs y)]]).length=ξ.H.length+1:=by exact GY ..
   have gd4:=X4.get gd3
   have gG4:=X4.get gG3
   have gv4:=X4.get gv1
   have gvs4:=(gvs.ext X3).ext X4
   wp_walk using 6,gG4
   generalize ξ.H++[O.list [V.int (aA cs x),V.int (aA cs y)]]=H4 at X4 gn hl4 gd4 gG4 gv4 gvs4
   have X5:Ext H4 (H4++[O.list [V.int (aA cs x),V.int (aA cs y)]]):=Ext.app
   have hpm:([aA cs x,aA cs y]∈G.map fun (e:Int × Int)=>[e.1,e.2])↔(aA cs x,aA cs y)∈G:=pn
   have hn3:∀ s:String,s ≠ "one" -> pm ξ.m (Str.ofString "one") (V.int y) (Str.ofString s)=ξ.m (Str.ofString s):=fun s hs=>fT hs
   refine aW _ (iJ ⟨_,rfl,gn⟩ gvs4) ?_
   wp_walk using 6,aj
   refine⟨fun hin=>?_,fun hin=>?_⟩
   .have hin:(aA cs x,aA cs y)∉G:=fun h=>by have:=hpm.mpr h;contradiction
    wp_walk using 6,aj
    refine kC vs (X5.get gv4) (by unfold big;lia) ?_
    wp_walk using 6,aj
    refine hT _ ⟨vs++[V.ref H4.length],au (aa (X5.get gv4)),?_,?_,?_,?_,?_,?_,?_⟩
    .have k7:∀ p,p < ξ.H.length->p≠τ.H.length->((H4++[O.list [V.int (aA cs x),V.int (aA cs y)]]).set τ.H.length (O.list (vs++[V.ref H4.length])))[p]?=ξ.H[p]?:=fun p hp hne=>by
      exact (af (Ne.symm hne)).trans ((X5.keep p (by exact aT5 (aU6 hl4) hp)).trans (X4.keep p hp))
     refine rwE ((take_snoc hy) ..) (rwE (List.filter_append ..) (rwE (List.map_append ..) ?_))
     have e3:([y].filter fun y=>decide ((aA cs x,aA cs y)∉G))=[y]:=by simp [hin]
     refine rwE e3 ?_
     refine ILs.snoc (hvs.frame fun v hv p hp hlt=>k7 p hlt (by have:=prot v hv p hp;exact Ne.symm (Nat.ne_of_lt (prot v hv p hp)))) ⟨_,rfl,?_⟩
     refine (?_:(List.set _ _ _)[H4.length]?=_)
     refine (af (by lia)).trans ?_;exact ak
    .intro v hv p hp
     rcases List.mem_append.mp hv with hv | hv
     .exact prot v hv p hp
     .rw [List.mem_singleton] at hv
      subst hv;cases hp;exact aT5 (aU6 hl4) hNl
    .exact ((X3.trans X4).trans X5).set (Nat.le_refl _)
    .refine rwE GY (rwE List.length_singleton ?_);exact Nat.add_le_add_right hvl 1
    .exact (hn3 "home" (by decide)).trans n1
    .exact (hn3 "name" (by decide)).trans n2
    .exact (hn3 "goes" (by decide)).trans n3
   .have hin:(aA cs x,aA cs y)∈G:=by
     have:[aA cs x,aA cs y]∈G.map fun (e:Int × Int)=>[e.1,e.2]:=by simpa using hin
     exact hpm.mp this
    wp_walk using 6,aj
    refine hT _ ⟨vs,gv4,?_,prot,X3.trans X4,by exact Nat.le.step hvl,(hn3 "home" (by decide)).trans n1,(hn3 "name" (by decide)).trans n2,(hn3 "goes" (by decide)).trans n3⟩
    refine rwE ((take_snoc hy) ..) (rwE (List.filter_append ..) ?_)
    have e3:([y].filter fun y=>decide ((aA cs x,aA cs y)∉G))=[]:=by simp [hin]
    refine rwE (e3 ..) (rwE (List.append_nil ..) ?_)
    exact hvs.ext X4
  ·(intro ξ Fz;refine bW Fz fun vs gv1 hvs prot FD=>?_;clear Fz;refine rH FD fun X3 hvl n1 n2 n3=>?_;clear FD)
   rw [GX,GX,List.take_length] at hvs
   rw [GX,GX] at hvl
   refine⟨aq gw1 rfl (X3.get gw1),?_⟩
   wp_walk using 6,aj
   refine⟨gv,X3.get g1,vs,gv1,by refine rwE GY ?_;unfold big;lia,?_⟩
   wp_walk using 6,aj
   refine hR _ ⟨X1.trans (X3.trans Ext.app),fun s h1 h2 h3=>?_,_,_,rfl,ak,?_⟩
   .refine Eq.trans ?_ (hN s h1 h2 h3)
    exact (fT h3).trans ((fT h2).trans (fT h1))
   .have hz:(c.zip ws)[i]?=some (x,w):=ua.mpr ⟨hx,hw⟩
    refine rwE (iH hz) (rwE hG ?_)
    unfold xx
    refine rwE List.map_append (rwE List.map_map ?_)
    exact ILs.app ((gvs.ext X3).ext Ext.app) (hvs.ext Ext.app)
 ·(intro τ FE;refine aJ FE fun X1 hN FH=>?_;clear FE;refine fh FH fun kG gv m1 g1 gvs=>?_;clear FH)
  refine⟨il hq hk (X1.get hq) (X1.get hk),?_⟩
  wp_walk using 6,m1
  rw [GX,List.length_zip,GX,hul,Nat.min_self] at gvs
  exact h _ _ kG gv X1 hN m1 g1 gvs
theorem ud {us ws:List V} {i:Nat} {it:Item} (h:(List.map (fun (e:V × V)=>Item.pair e.1 e.2) (us.zip ws))[i]?=some it):∃ u v,us[i]?=some u/\ws[i]?=some v/\it=.pair u v:=by
 rw [G3,Option.map_eq_some_iff] at h
 (refine ao h fun ζ1 h1 ζ2=>?_;clear h;obtain⟨a,b⟩:=ζ1;obtain rfl:=ζ2)
 rw [List.getElem?_zip_eq_some] at h1
 exact jk a b h1.1 h1.2 rfl
noncomputable def kc (ls accs:List (List Int)) (c:List Int) (i:Nat):List (List Int):=(((ls.zip accs).take i).filter fun p=>decide (p.2=c)).map (·.1)
set_option maxHeartbeats 1000000 in
theorem vB {σ:Mine.St} {c:List Int} {ls accs:List (List Int)} {ow mv:List V} {q ko km:Nat} {Q:Fl->Mine.St->Prop} {X:V->Mine.St->Prop}
  (mq:σ.m (Str.ofString "run")=some (.ref q)) (hq:σ.H[q]?=some (.list (c.map .int))) (mo:σ.m (Str.ofString "orders")=some (.ref ko)) (ho:σ.H[ko]?=some (.list ow)) (hol:ILs σ.H ow ls) (mm:σ.m (Str.ofString "merges")=some (.ref km)) (hm:σ.H[km]?=some (.list mv)) (hml:ILs σ.H mv accs) (hb:ow.length<=100)
  (h:∀ fv,ILs σ.H fv (kc ls accs c (ls.zip accs).length)->Q .next ((⟨σ.H++[.list fv],σ.m⟩:Mine.St).put (Str.ofString "fits") (.ref σ.H.length))) :
  awS (prog.at 10) (lp 6) aC.scope [] σ Q X:=by
 have e0:lp 6=lp 6:=rfl
 conv at e0=>rhs;whnf
 refine rwE e0 ?_
 clear e0
 wp_walk using 6,aj
 refine aW _ (lP ho hm) ?_
 have hl1:=hol.len
 have hl2:=hml.len
 refine aO (fun j χ=>∃ fv,χ.H=σ.H++[.list fv]/\ILs σ.H fv (kc ls accs c j)/\fv.length<=j/\χ.m (Str.ofString "run")=some (.ref q)) ?_ ?_ ?_
 .refine zR ([]) rfl trivial (Nat.le_refl _) (Eq.trans ?_ mq)
  kernel_rfl
 ·(intro j it χ T hj Fp;refine bW Fp fun fv hH hfv hfl mr=>?_;clear Fp;intro hT)
  (refine fh (ud hj) fun u v hu hv ζ3=>?_;obtain rfl:=ζ3)
  (refine ao (hol.at hu) fun l hl ζ4=>?_;refine ao ζ4 fun qu ζ5 gu=>?_;clear ζ4;obtain rfl:=ζ5)
  (refine ao (hml.at hv) fun a ha ζ6=>?_;refine ao ζ6 fun qv ζ7 gv=>?_;clear ζ6;obtain rfl:=ζ7)
  have X1:Ext σ.H χ.H:=by refine rwE hH ?_;exact Ext.app
  have hjl:=aa hu
  refine⟨il ho hm (X1.get ho) (X1.get hm),?_⟩
  wp_walk using 6,aj
  have hz:(ls.zip accs)[j]?=some (l,a):=List.getElem?_zip_eq_some.mpr ⟨hl,ha⟩
  have gl:χ.H[σ.H.length]?=some (.list fv):=by refine rwE hH ?_;exact ak
  have hs:kc ls accs c (j+1)=if a=c then kc ls accs c j++[l] else kc ls accs c j:=by
   unfold kc
   refine rwE ((take_snoc hz) ..) (rwE (List.filter_append ..) (rwE (List.map_append ..) ?_))
   by_cases hac:a=c
   .simp [hac]
   .simp [hac]
  refine oO (uQ ⟨_,rfl,X1.get gv⟩ ⟨_,rfl,X1.get hq⟩) ?_
  wp_walk using 6,aj
  refine⟨fun hac=>?_,fun hac=>?_⟩
  .have hac:a=c:=by simpa using hac
   rw [if_pos hac] at hs
   wp_walk using 6,aj
   refine kC fv gl (by unfold big;lia) ?_
   wp_walk using 6,aj
   refine hT _ ⟨fv++[V.ref qu],?_,?_,by refine rwE GY (rwE List.length_singleton ?_);exact Nat.add_le_add_right hfl 1,?_⟩
   .refine (?_:List.set _ _ _=_)
    exact rwE hH (rwE cW rfl)
   .refine rwE hs ?_;exact hfv.snoc ⟨_,rfl,gu⟩
   .exact mr
  .have hac:¬ a=c:=by simpa using hac
   rw [if_neg hac] at hs
   wp_walk using 6,aj
   exact hT _ ⟨fv,hH,by refine rwE hs ?_;exact hfv,by exact Nat.le.step hfl,mr⟩
 ·(intro χ Fx;refine bW Fx fun fv hH hfv hfl mr=>?_;clear Fx)
  refine⟨il ho hm (by refine rwE hH (rwE (GR (aa ho)) ?_);exact ho) (by refine rwE hH (rwE (GR (aa hm)) ?_);exact hm),?_⟩
  wp_walk using 6,aj
  refine rwE hH ?_
  rw [GX,List.length_zip,hl1,hl2,<- List.length_zip] at hfv
  exact h fv hfv
theorem pN:([0,1,2]:List Int).Nodup:=by decide
theorem oq:∀ x∈([0,1,2]:List Int),small x:=fun x hx=>by
 simp only [List.mem_cons,List.not_mem_nil,or_false] at hx
 rcases hx with rfl | rfl | rfl<;>(unfold small;decide)
set_option maxHeartbeats 1000000 in
theorem vF {σ:Mine.St} {ow fv gv:List V} {fl:List (List Int)} {G:List (Int × Int)} {ko kf kG:Nat} {Q:Fl->Mine.St->Prop} {X:V->Mine.St->Prop}
  (mo:σ.m (Str.ofString "orders")=some (.ref ko)) (ho:σ.H[ko]?=some (.list ow)) (hol:ILs σ.H ow orders) (mf:σ.m (Str.ofString "fits")=some (.ref kf)) (hf:σ.H[kf]?=some (.list fv)) (hfl:ILs σ.H fv fl) (mG:σ.m (Str.ofString "goes")=some (.ref kG)) (hG:σ.H[kG]?=some (.list gv)) (hGl:ILs σ.H gv (G.map fun e=>[e.1,e.2]))
  (w:Within G [0,1,2]) (hz:G.length<=900) (he:fl=orders.filter (lh G))
  (h:∀ H',Ext σ.H H'->Q .next ⟨H',σ.m⟩):awS (prog.at 10) (lp 7) aC.scope [] σ Q X:=by
 have e0:lp 7=lp 7:=rfl
 conv at e0=>rhs;whnf
 refine rwE e0 ?_
 clear e0
 wp_walk using 6,ho
 have hl1:=hol.len
 have hl6:orders.length=6:=rfl
 refine aO (fun j χ=>∃ fv2,χ.H[σ.H.length]?=some (.list fv2)/\ILs σ.H fv2 ((orders.take j).filter (lh G))/\Ext σ.H χ.H/\fv2.length<=j/\χ.m (Str.ofString "goes")=some (.ref kG)) ?_ ?_ ?_
 .refine AR ([]) ak trivial Ext.app (Nat.le_refl _) (Eq.trans ?_ mG)
  kernel_rfl
 ·(intro j it χ T hj Fy;refine bW Fy fun fv2 g2 hfv2 X1 Fz=>?_;clear Fy;obtain⟨hfl2,mr⟩:=Fz;intro hT)
  obtain⟨v,hv1,rfl⟩:∃ v,ow[j]?=some v/\it=.one v:=by
   rw [G3,Option.map_eq_some_iff] at hj
   (refine ao hj fun v h1 ζ8=>?_;clear hj;obtain rfl:=ζ8)
   exact aW v h1 rfl
  (refine ao (hol.at hv1) fun o ho1 ζ9=>?_;refine ao ζ9 fun qo Ft gq=>?_;clear ζ9;obtain rfl:=Ft)
  have hom:o∈orders:=G0 ho1
  refine aJ (aX hom) fun hond hol3 home=>?_
  refine⟨aq ho rfl (X1.get ho),?_⟩
  wp_walk using 6,aj
  have X2:Ext χ.H (χ.H++[O.list [V.int 0,V.int 1,V.int 2]]):=Ext.app
  have g3:(χ.H++[O.list [V.int 0,V.int 1,V.int 2]])[χ.H.length]?=some (.list (([0,1,2]:List Int).map .int)):=ak
  have X12:=X1.trans X2
  have hjl:=aa ho1
  have hs:(orders.take (j+1)).filter (lh G)=if lh G o=true then (orders.take j).filter (lh G)++[o] else (orders.take j).filter (lh G):=by
   refine rwE ((take_snoc ho1) ..) (rwE (List.filter_append ..) ?_)
   by_cases hac:lh G o=true
   .simp [hac]
   .simp [hac]
  refine iS g3 (X12.get hG) (hGl.ext X12) (X12.get gq) pN w (by decide) hz (by simp_all) (fun x hx=>by have:=(home x).mp hx;simpa using this) oq fun H3 v X3 hv=>?_
  have X4:=X2.trans X3
  have X5:Ext σ.H (H3.set σ.H.length (.list (fv2++[V.ref qo]))):=(X1.trans X4).set (Nat.le_refl _)
  rcases hv with ⟨hg,k,ur,ws,rfl,_⟩ | ⟨hn,rfl⟩
  .have hfit:lh G o=true:=(j9 w hom).mpr hg
   rw [if_pos hfit] at hs
   wp_walk using 6,aj
   refine kC fv2 (X4.get g2) (by unfold big;lia) ?_
   wp_walk using 6,aj
   refine hT _ ⟨fv2++[V.ref qo],au (aa (X4.get g2)),?_,X5,by refine rwE GY (rwE List.length_singleton ?_);exact Nat.add_le_add_right hfl2 1,?_⟩
   .refine rwE hs ?_;exact hfv2.snoc ⟨_,rfl,gq⟩
   .exact mr
  .have hfit:¬ lh G o=true:=fun h=>hn ((j9 w hom).mp h)
   rw [if_neg hfit] at hs
   wp_walk using 6,aj
   exact hT _ ⟨fv2,X4.get g2,by refine rwE hs ?_;exact hfv2,X1.trans X4,by exact Nat.le.step hfl2,mr⟩
 ·(intro χ FD;refine bW FD fun fv2 g2 hfv2 X1 FE=>?_;clear FD;obtain⟨hfl2,mr⟩:=FE)
  rw [GX,hl1,List.take_length,<- he] at hfv2
  refine⟨aq ho rfl (X1.get ho),?_⟩
  wp_walk using 6,aj
  refine gj (eF (X1.get hf) g2 (hfl.ext X1) (hfv2.ext X1)) ?_
  wp_walk using 6,aj
  exact h _ X1
theorem Bu:yP 8=[lp 8,lp 9,lp 10,lp 11,lp 12]:=by rfl
theorem oU {H:List O} {a b:Bool}:eqV H (.bool a) (.bool b) (a == b):=⟨.bool a,.bool b,rfl,rfl,by kernel_rfl,by kernel_rfl,by induction a<;>induction b<;>kernel_rfl⟩
theorem kE {su:Int->List Int}:∀ {st:List (Int × Nat)} {y:Int} {st':List (Int × Nat)},nextOf su st=some (y,st')->st'.length<=st.length
 | (x,k)::r,y,st',h=>by
  rw [nextOf] at h
  induction hq:(su x)[k]? with
  | some z =>
   rw [hq] at h
   injection h with h;injection h with h1 h2
   subst h2
   exact Nat.le_refl _
  | none =>
   rw [hq] at h
   have:=kE h
   simp only [List.length_cons];exact Nat.le.step this
theorem kY {su:Int->List Int}:∀ {n:Nat} {seen:List Int} {st:List (Int × Nat)} {x:Int} {l:List Int},bN su n seen st x=.ring l->l.length<=st.length+n+1
 | 0,_,_,_,_,h=>by exact Rs.noConfusion h
 | n+1,seen,st,x,l,h=>by
  rw [bN] at h
  by_cases hx:x∈seen
  .rw [if_pos hx] at h
   by_cases hst:x∈st.map (·.1)
   .rw [if_pos hst] at h
    cases h
    unfold jF
    refine rwE (GY ..) (rwE (List.length_drop ..) (rwE (GX ..) (rwE (List.length_reverse ..) (rwE (List.length_singleton ..) ?_))));simp +arith
   .rw [if_neg hst] at h
    induction hq:nextOf su st with
    | none=>rw [hq] at h;exact Rs.noConfusion h
    | some o =>
     obtain⟨y,st'⟩:=o
     rw [hq] at h
     have h1:=kE hq
     have h2:=kY h
     exact GS h2 (Nat.add_le_add_right (Nat.add_le_add h1 (Nat.le_succ n)) 1)
  .rw [if_neg hx] at h
   induction hq:nextOf su ((x,0)::st) with
   | none=>rw [hq] at h;exact Rs.noConfusion h
   | some o =>
    obtain⟨y,st'⟩:=o
    rw [hq] at h
    have h1:=kE hq
    have h2:=kY h
    rw [List.length_cons] at h1
    exact GS h2 (Nat.add_le_add_right (GS (Nat.add_le_add_right h1 n) (Nat.le_of_eq (Nat.add_right_comm ..))) 1)
theorem mX {su:Int->List Int} {n:Nat}:∀ {r seen:List Int} {l:List Int},bO su n seen r=.ring l->l.length<=n+1
 | [],_,_,h=>by exact Rs.noConfusion h
 | x::r,seen,l,h=>by
  rw [bO] at h
  by_cases hs:x∈seen
  .rw [if_pos hs] at h;exact mX h
  .rw [if_neg hs] at h
   induction hg:bN su n seen [] x with
   | bad=>rw [hg] at h;exact Rs.noConfusion h
   | ring m =>
    rw [hg] at h;cases h
    have:=kY hg
    rw [List.length_nil,Nat.zero_add] at this;exact this
   | fin s=>rw [hg] at h;exact mX h
theorem rO {E:List (Int × Int)} {T l:List Int} (h:findR E T=.ring l):l.length<=(1+E.length) * T.length+2:=by
 have h1:=mX h
 have h2:=jD (su:=aB E) (b:=E.length) (fun x=>bg) (ns:=T)
 unfold bC at h1
 exact GS h1 (Nat.add_le_add_right h2 2)
noncomputable def qS (G:List (Int × Int)) (l:List Int):Prop:=3<=l.length/\l.length<=10000/\(∃ x,l[0]?=some x/\l.getLast?=some x)/\∀ i a b,l[i]?=some a->l[i+1]?=some b->(a,b)∈G
section
variable {σ:Mine.St} {fv gv:List V} {fl:List (List Int)} {G:List (Int × Int)} {kf kG:Nat} {Q:Fl->Mine.St->Prop} {X:V->Mine.St->Prop}
set_option maxHeartbeats 1000000 in
theorem yE (mf:σ.m (Str.ofString "fits")=some (.ref kf)) (hf:σ.H[kf]?=some (.list fv)) (hfl:ILs σ.H fv fl)
  (hr:fl=[]->∃ l kr,σ.m (Str.ofString "ring")=some (.ref kr)/\σ.H[kr]?=some (.list (l.map .int))/\qS G l) (h:∀ H',Ext σ.H H'->Q .next ⟨H',σ.m⟩):awS (prog.at 10) (lp 11) aC.scope [] σ Q X:=by
 have e0:lp 11=lp 11:=rfl
 conv at e0=>rhs;whnf
 refine rwE e0 ?_
 clear e0
 wp_walk using 6,aj
 have X1:Ext σ.H (σ.H++[O.list []]):=Ext.app
 refine oO (eF (ws:=[]) (m:=[]) (X1.get hf) ak (hfl.ext X1) trivial) ?_
 by_cases hfe:fl=[]
 .refine rwE (decide_eq_true hfe) ?_
  (refine fh (hr hfe) fun l kr mr gr ζ1=>?_;refine ek ζ1 fun hl3 hl4 ζ2 _=>?_;clear ζ1;obtain⟨x,hx0,hxl⟩:=ζ2)
  have gr1:=X1.get gr
  have hx1:(l.map V.int)[l.length - 1]?=some (.int x):=by
   refine rwE (G3) (rwS (List.getLast?_eq_getElem?) (rwE hxl ?_));rfl
  have hx2:(l.map V.int)[0]?=some (.int x):=by refine rwE (G3) (rwE hx0 ?_);rfl
  have e3:¬ (decide ((l.length:Int) < 3)=true):=by simp;exact Iff.mpr Int.ofNat_lt hl3
  have e4:¬ ((!decide (x=x))=true):=by simp
  have p0:place (l.map V.int).length 0=some 0:=cj (i:=0) (by rw [GX];exact GU (by decide) hl3)
  have p1:place (l.map V.int).length (-1)=some (l.length - 1):=by
   unfold place
   refine rwE (GX ..) (rwE ((if_neg (by exact Iff.mpr Int.not_le (Int.le_refl 0))) ..) (rwE (m1N (GS (by decide) hl3)) ?_))
   exact if_pos (Int.natCast_nonneg _)
  wp_walk using 6,gr1
  refine⟨by unfold big;lia,?_⟩
  wp_walk using 6,aj
  exact h _ X1
 .refine rwE (decide_eq_false hfe) ?_
  wp_walk using 6,aj
  exact h _ X1
set_option maxHeartbeats 1000000 in
theorem yF (mf:σ.m (Str.ofString "fits")=some (.ref kf)) (hf:σ.H[kf]?=some (.list fv)) (hfl:ILs σ.H fv fl) (mG:σ.m (Str.ofString "goes")=some (.ref kG)) (hG:σ.H[kG]?=some (.list gv)) (hGl:ILs σ.H gv (G.map fun e=>[e.1,e.2]))
  (hr:fl=[]->∃ l kr,σ.m (Str.ofString "ring")=some (.ref kr)/\σ.H[kr]?=some (.list (l.map .int))/\qS G l) (h:∀ H',Ext σ.H H'->Q .next ⟨H',σ.m⟩):awS (prog.at 10) (lp 12) aC.scope [] σ Q X:=by
 have e0:lp 12=lp 12:=rfl
 conv at e0=>rhs;whnf
 refine rwE e0 ?_
 clear e0
 wp_walk using 6,aj
 have X1:Ext σ.H (σ.H++[O.list []]):=Ext.app
 refine oO (eF (ws:=[]) (m:=[]) (X1.get hf) ak (hfl.ext X1) trivial) ?_
 by_cases hfe:fl=[]
 .refine rwE (decide_eq_true hfe) ?_
  (refine fh (hr hfe) fun l kr mr gr ζ3=>?_;refine ek ζ3 fun hl3 hl4 _ hadj=>?_;clear ζ3)
  have gr1:=X1.get gr
  wp_walk using 6,gr1
  refine⟨by unfold big;lia,?_⟩
  wp_walk using 6,aj
  refine⟨smM (GS hl4 (by decide)),?_⟩
  wp_walk using 6,aj
  have gr6:(σ.H++[O.list []]++[O.range 0 ((l.length:Int) - 1)])[(σ.H++[O.list []]).length]?=some (.range 0 (l.length - 1)):=ak
  have X2:Ext (σ.H++[O.list []]) (σ.H++[O.list []]++[O.range 0 ((l.length:Int) - 1)]):=Ext.app
  have X12:=X1.trans X2
  refine rwE gr6 ?_
  generalize σ.H++[O.list []]++[O.range 0 ((l.length:Int) - 1)]=H6 at gr6 X2 X12
  refine aW _ rfl ?_
  have hn:((l.length:Int) - 1 - 0).toNat=l.length - 1:=by simp
  refine rwE hn ?_
  have gr7:=X12.get gr
  refine aO (fun j χ=>χ.H[H6.length]?=some (.list [])/\Ext H6 χ.H/\χ.m (Str.ofString "ring")=some (.ref kr)/\χ.m (Str.ofString "goes")=some (.ref kG)) ?_ ?_ ?_
  .refine AQ ak Ext.app (Eq.trans ?_ mr) (Eq.trans ?_ mG)<;>kernel_rfl
  ·(intro j it χ T hj ζ8;refine ek ζ8 fun g0 X3 n1 n2=>?_;clear ζ8;intro hT)
   obtain⟨hjl,rfl⟩:j < l.length - 1/\it=.one (.int (j:Int)):=by
    have hil:=aa hj
    rw [GX,List.length_range] at hil
    refine⟨hil,?_⟩
    rw [G3,List.getElem?_range hil] at hj
    cases hj
    simp
   obtain⟨a,ha⟩:∃ a,l[j]?=some a:=⟨_,G6 (by exact Nat.lt_of_lt_pred hjl)⟩
   obtain⟨b,hb⟩:∃ b,l[j+1]?=some b:=⟨_,G6 (by exact Nat.add_lt_of_lt_sub hjl)⟩
   refine⟨aq gr6 rfl (X3.get gr6),?_⟩
   wp_walk using 6,aj
   have es:sliceOf (l.map V.int) (some ((j:Nat):Int)) (some ((j:Int)+2))=[.int a,.int b]:=mK (by refine rwE (G3) (rwE ha ?_);rfl) (by refine rwE (G3) (rwE hb ?_);rfl)
   have X4:Ext χ.H (χ.H++[O.list [V.int a,V.int b]]):=Ext.app
   have X5:=(X12.trans X3).trans X4
   have hin:=iJ (H:=χ.H++[O.list [V.int a,V.int b]]) (a:=.ref χ.H.length) (c:=[a,b]) ⟨χ.H.length,rfl,ak⟩ (hGl.ext X5)
   refine⟨_,.inl (X3.get gr7),by refine rwE (GX ..) ?_;unfold big;lia,_,rfl,_,rfl,(fun k e=>by cases e;exact⟨npos,nle (GS (G5 hjl) (GS (Nat.sub_le ..) hl4)) (by decide)⟩),(fun k e=>by cases e;exact⟨npos (i:=j+2),nle (i:=j+2) (Nat.add_le_add_right (GS (G5 hjl) (GS (Nat.sub_le ..) hl4)) 2) (by decide)⟩),?_⟩
   refine rwE es ?_
   have hab:[a,b]∈G.map fun (e:Int × Int)=>[e.1,e.2]:=pn.mpr (hadj j a b ha hb)
   refine⟨by unfold big;exact Nat.le_add_left _ _,?_⟩
   wp_walk using 6,X5.get hG
   refine aW _ hin ?_
   refine rwE (decide_eq_true hab) ?_
   wp_walk using 6,aj
   refine hT _ ⟨X4.get g0,X3.trans X4,?_,?_⟩
   .exact n1
   .exact n2
  ·(intro χ ζ9;refine ek ζ9 fun g0 X3 n1 n2=>?_;clear ζ9)
   refine⟨aq gr6 rfl (X3.get gr6),?_⟩
   have X4:Ext χ.H (χ.H++[O.list []]):=Ext.app
   wp_walk using 6,aj
   refine gj (eF (vs:=[]) (ws:=[]) (l:=[]) (m:=[]) (X4.get g0) ak trivial trivial) ?_
   wp_walk using 6,aj
   exact h _ ((X12.trans X3).trans X4)
 .refine rwE (decide_eq_false hfe) ?_
  wp_walk using 6,aj
  exact h _ X1
theorem sI (mf:σ.m (Str.ofString "fits")=some (.ref kf)) (hf:σ.H[kf]?=some (.list fv)) (hfl:ILs σ.H fv fl) (mG:σ.m (Str.ofString "goes")=some (.ref kG)) (hG:σ.H[kG]?=some (.list gv)) (hGl:ILs σ.H gv (G.map fun e=>[e.1,e.2]))
  (hr:fl=[]->∃ l kr,σ.m (Str.ofString "ring")=some (.ref kr)/\σ.H[kr]?=some (.list (l.map .int))/\qS G l) (h:∀ H',Ext σ.H H'->Q .next ⟨H',σ.m⟩):a7 (prog.at 10) [lp 11,lp 12] aC.scope [] σ Q X:=by
 rw [bU]
 refine yE (G:=G) mf hf hfl hr fun H1 X1=>?_
 refine rwE cP (rwE bU ?_)
 refine yF (kG:=kG) (G:=G) mf (X1.get hf) (hfl.ext X1) mG (X1.get hG) (hGl.ext X1) (fun hfe=>?_) fun H2 X2=>?_
 .refine fh (hr hfe) fun l kr h1 h2 h3=>?_
  exact jk l kr h1 (X1.get h2) h3
 .refine rwE cP (rwE xm ?_)
  exact h _ (X1.trans X2)
end
set_option maxHeartbeats 1000000 in
theorem vE {σ:Mine.St} {fv gv:List V} {fl:List (List Int)} {G:List (Int × Int)} {kf kG:Nat} {Q:Fl->Mine.St->Prop} {X:V->Mine.St->Prop}
  (mf:σ.m (Str.ofString "fits")=some (.ref kf)) (hf:σ.H[kf]?=some (.list fv)) (hfl:ILs σ.H fv fl) (mG:σ.m (Str.ofString "goes")=some (.ref kG)) (hG:σ.H[kG]?=some (.list gv)) (hGl:ILs σ.H gv (G.map fun e=>[e.1,e.2]))
  (w:Within G [0,1,2]) (hap:∀ x,(x,x)∉G) (hz:G.length<=900) (he:fl=orders.filter (lh G))
  (h:∀ H' m',Ext σ.H H'->(∀ s:String,s ≠ "second" -> s ≠ "ring" -> m' (Str.ofString s)=σ.m (Str.ofString s))->Q .next ⟨H',m'⟩):a7 (prog.at 10) (yP 8) aC.scope [] σ Q X:=by
 refine rwE Bu ?_
 have e0:lp 8=lp 8:=rfl
 have e1:lp 9=lp 9:=rfl
 have e2:lp 10=lp 10:=rfl
 conv at e0=>rhs;whnf
 conv at e1=>rhs;whnf
 conv at e2=>rhs;whnf
 refine rwE e0 (rwE e1 (rwE e2 ?_))
 clear e0 e1 e2
 wp_walk using 6,mG
 have X1:Ext σ.H (σ.H++[O.list [V.int 0,V.int 1,V.int 2]]):=Ext.app
 have g3:(σ.H++[O.list [V.int 0,V.int 1,V.int 2]])[σ.H.length]?=some (.list (([0,1,2]:List Int).map .int)):=ak
 refine dD (d:=6) g3 (X1.get hG) (hGl.ext X1) pN w (by decide) (GS hz (by decide)) fun H1 r1 S1 X2 own1=>?_
 have X12:=X1.trans X2
 refine ao (S1.inst) fun fs f1 _=>?_
 wp_walk using 6,f1
 refine find_spec (d:=9) (n:=bC G [0,1,2]) S1 (b8 w) (by decide) (fun x=>by first | exact GS bg (GS (by assumption) (by decide)) | (have:=@bg G x;unfold big;lia)) (dw w) fun H2 v2 k2 l2 hv2=>?_
 have X3:Ext H1 H2:=⟨l2,k2⟩
 have S2:=S1.congr (H':=H2) fun j hj=>k2 j (S1.aU hj)
 have e3:bO (aB G) (bC G [0,1,2]) [] [0,1,2]=findR G [0,1,2]:=rfl
 rw [e3] at hv2
 wp_walk using 6,aj
 refine eO (d:=7) (n:=bC G [0,1,2]) S2 (b8 w) (by decide) (fun x=>by first | exact GS bg (GS (by assumption) (by decide)) | (have:=@bg G x;unfold big;lia)) (dw w) (fun l hl=>gX w hl) fun H3 r3 S3 A3=>?_
 have X13:=X12.trans X3
 have X4:Ext σ.H H3:=⟨GS X13.len A3.len,fun j hj=>by
  exact (A3.keep j (GU hj X13.len) (fun hq=>Nat.lt_irrefl _ (GU hj (GS X1.len (own1 j hq))))).trans (X13.keep j hj)⟩
 refine rwE (eH w) (rwS he ?_)
 have hf3:=X4.get hf
 wp_walk using 6,mf
 have hvn:decide (v2=V.none)=decide (¬ fl=[]):=by
  have hs:=eH w
  replace hs:=((he).symm ▸ hs)
  induction hq:findR G [0,1,2] with
  | bad=>exact absurd hq (dw w)
  | ring l =>
   rw [hq] at hv2
   (refine ao hv2 fun k ζ4 _=>?_;clear hv2;obtain rfl:=ζ4)
   refine rwS hs ?_
   unfold bF
   refine rwE e3 (rwE hq ?_)
   rfl
  | fin s =>
   rw [hq] at hv2
   have hv2:v2=V.none:=hv2
   subst hv2
   refine rwS hs ?_
   unfold bF
   refine rwE e3 (rwE hq ?_)
   rfl
 have X5:Ext H3 (H3++[O.list []]):=Ext.app
 have X6:Ext (H3++[O.list []]) (H3++[O.list []]++[O.list []]):=Ext.app
 have hfl3:=hfl.ext X4
 have hb:(!(decide (fl≠[]) == !decide (fl=[])))=false:=by simp
 refine gj (eF (ws:=[]) (m:=[]) (X5.get hf3) ak (hfl3.ext X5) trivial) ?_
 wp_walk using 6,aj
 refine gj oU ?_
 refine rwE hb ?_
 wp_walk using 6,aj
 refine rwE hvn ?_
 refine gj (eF (ws:=[]) (m:=[]) (X6.get (X5.get hf3)) ak ((hfl3.ext X5).ext X6) trivial) ?_
 wp_walk using 6,aj
 refine gj oU ?_
 refine rwE hb ?_
 wp_walk using 6,aj
 have X7:=(X4.trans X5).trans X6
 have es:∀ (s:Mine.St),awS (prog.at 10) (lp 11) aC.scope [] s (zB (prog.at 10) [lp 12] aC.scope [] Q X) X=a7 (prog.at 10) [lp 11,lp 12] aC.scope [] s Q X:=fun s=>rfl
 rw [es]
 refine sI (kf:=kf) (kG:=kG) ?_ (X7.get hf) (hfl.ext X7) ?_ (X7.get hG) (hGl.ext X7) (fun hfe=>?_) fun H' X8=>h _ _ (X7.trans X8) fun s h1 h2=>?_
 .exact mf
 .exact mG
 .have hs:=eH w
  rw [<- he,hfe] at hs
  obtain⟨l,hl⟩:=tW (hs.trans (by rfl))
  rw [hl] at hv2
  (refine ao hv2 fun k ζ5 ζ6=>?_;clear hv2;obtain rfl:=ζ5;obtain⟨hk1,hk2⟩:=ζ6)
  have r:=fN hl
  obtain⟨hl3,hx⟩:=tm r fun x hm=>hap x (bD.mp hm)
  have hll:=rO hl
  refine⟨l,k,rfl,?_,hl3,?_,hx,fun i a b h1 h2=>?_⟩
  .refine X6.get (X5.get ?_)
   rw [A3.keep k (aa hk2) ?_]
   .exact hk2
   .intro hq
    exact Nat.not_le.2 (S1.aU (j:=k) hq) hk1
  .have:([0,1,2]:List Int).length=3:=rfl
   rw [this] at hll
   exact GS hll (GS (Nat.add_le_add_right (Nat.mul_le_mul_right 3 (Nat.add_le_add_left hz 1)) 2) (by decide))
  ·(refine bq r fun x m ζ7 hw=>?_;clear r;obtain rfl:=ζ7)
   exact bD.mp (t7 hw h1 h2)
 .exact (fT h2).trans (fT h1)
theorem iy {P:Nat->V->List Int->Prop}:∀ {vs:List V},(∀ j v,vs[j]?=some v->∃ a,P j v a)->∃ as:List (List Int),as.length=vs.length/\∀ j v a,vs[j]?=some v->as[j]?=some a->P j v a
 | [],_=>⟨[],rfl,fun j v a h=>by exact nS h⟩
 | v::vs,h=>by
  obtain⟨a,ha⟩:=h 0 v rfl
  refine ao (iy (P:=fun j=>P (j+1)) (vs:=vs) fun j v hv=>h (j+1) v hv) fun as h1 h2=>?_
  refine aW (a::as) (by exact rwE List.length_cons (rwE List.length_cons (rwE h1 rfl))) (fun j w b hw hb=>?_)
  induction j using Nat.casesOn with
  | zero=>cases hw;cases hb;exact ha
  | succ j=>exact h2 j w b hw hb
theorem ILs.of {H:List O}:∀ {vs:List V} {as:List (List Int)},as.length=vs.length->(∀ (j:Nat) v a,vs[j]?=some v->as[j]?=some a->IL H v a)->ILs H vs as
 | [],[],_,_=>trivial
 | v::vs,a::as,h,k=>⟨k 0 v a rfl rfl,ILs.of (by simpa using h) fun j w b hw hb=>k (j+1) w b hw hb⟩
theorem uV {f:List Int->Bool} {c:List Int}:∀ {ls accs:List (List Int)},accs.length=ls.length->(∀ (j:Nat) l a,ls[j]?=some l->accs[j]?=some a->decide (a=c)=f l)->kc ls accs c (ls.zip accs).length=ls.filter f:=by
 intro ls accs hl h
 unfold kc
 refine rwE List.take_length ?_
 induction ls generalizing accs with
 | nil=>rfl
 | cons l ls ih =>
  induction accs using List.casesOn with
  | nil=>exact Nat.noConfusion hl
  | cons a accs =>
   have ih:=ih (accs:=accs) (by simpa using hl) fun j l' a' h1 h2=>h (j+1) l' a' h1 h2
   have h0:=h 0 l a rfl rfl
   refine rwE List.zip_cons_cons (rwE List.filter_cons (rwE List.filter_cons (rwS h0 ?_)))
   by_cases hac:a=c
   .simp only [hac,decide_true,if_true,List.map_cons];exact rwE ih rfl
   .simp only [hac,decide_false,Bool.false_eq_true,if_false];exact ih
theorem vA:d9 12=[aT 12,aT 13]:=by rfl
theorem yQ:yP 5=lp 5::lp 6::lp 7::yP 8:=by rfl
theorem uW {cs:List Int} {prs:List (Int × Int)} {acc:List Int} (g:c6 (aN cs prs) (ay cs) acc) (h:∀ x∈ay cs,x∈acc):acc.length=6:=by
 have h1:=aQ (names_nodup (cs:=cs)) h
 have h2:=gZ g
 have h3:=@cg cs
 lia
set_option maxHeartbeats 2000000 in
theorem DB {H:List O} {m:Str->Option V} {cs:List Int} {prs:List (Int × Int)} {picks:List Int} {us vs ow mv:List V} {kk kn ks ko km kd:Nat} {Q:Fl->Mine.St->Prop} {X:V->Mine.St->Prop} (D:zZ H m cs prs picks us vs ow mv kk kn ks ko km kd) (hQ:∀ σ,Q (.ret (.bool true)) σ) :
  a7 (prog.at 10) (d9 12) aC.scope [] ⟨H++[.list []],m⟩ Q X:=by
 refine rwE vA ?_
 refine pZ E3 fun p12 r12 e12=>?_
 have e13:aT 13=aT 13:=rfl
 conv at e13=>rhs;whnf
 have ei:CT (aT 12)=CT (aT 12):=rfl
 conv at ei=>rhs;whnf
 refine rwE e12 (rwE e13 (rwE ei ?_))
 clear e12 e13 ei
 have w:=(qk (cs:=cs) D.a.pin).within
 have hsl:=jb (cs:=cs) D.a.pl
 have hnl:=@cg cs
 have LA:=D.at (Ext.app (t:=[O.list []])) (fun _ _=>rfl:lj m m)
 have m3:m (Str.ofString "picks")=some (.ref kk):=D.a.m3
 have m4:m (Str.ofString "names")=some (.ref kn):=D.a.m4
 have m5:m (Str.ofString "steps")=some (.ref ks):=D.a.m5
 have m9:=D.m9
 have hH0:9 < H.length:=aa D.a.pairs
 obtain⟨s,hfin⟩:=tU w D.s
 wp_walk using 6,m3,m4,m5,m9
 refine pX LA.names LA.steps LA.stp LA.pks names_nodup w (by simp_all) (by lia) (by exact rwE D.a.kl (rwE hnl rfl)) hfin D.a.kb fun H1 k g X1 gk G1 hg1=>?_
 wp_walk using 6,aj
 have X2:Ext H1 (H1++[O.list [V.ref k]]):=Ext.app
 have hkH:k≠H.length:=fun e=>by
  have h1:H1[H.length]?=some (.list []):=X1.get (ak)
  rw [<- e,gk] at h1
  have h2:g.map V.int=[]:=by injection h1 with h1;injection h1
  have h3:=congrArg List.length h2
  rw [GX,hg1,hnl] at h3
  exact Nat.noConfusion h3
 have hmm:(H1++[O.list [V.ref k]])[km]?=some (.list mv):=X2.get (X1.get (Ext.app.get D.mm))
 have X3:Ext (H1++[O.list [V.ref k]]) (H1++[O.list [V.ref k]]++[O.list (mv++[V.ref k])]):=Ext.app
 have gI:(H1++[O.list [V.ref k]]++[O.list (mv++[V.ref k])])[(H1++[O.list [V.ref k]]).length]?=some (.list (mv++[V.ref k])):=ak
 have hkI:(H1++[O.list [V.ref k]]).length=H1.length+1:=by exact GY ..
 refine⟨mv,hmm,_,ak,by refine rwE GY (rwE D.ml ?_);unfold big;exact Nat.le_add_left _ _,?_⟩
 wp_walk using 6,aj
 refine rwE gI ?_
 refine aW _ rfl ?_
 have XH:Ext (H++[O.list []]) (H1++[O.list [V.ref k]]++[O.list (mv++[V.ref k])]):=(X1.trans X2).trans X3
 have XB:Ext H (H1++[O.list [V.ref k]]++[O.list (mv++[V.ref k])]):=Ext.app.trans XH
 have gk2:=(X2.trans X3).get gk
 refine rwE hkI ?_
 rw [hkI] at gI
 generalize H1++[O.list [V.ref k]]++[O.list (mv++[V.ref k])]=H2 at gI XH XB gk2
 have hl1:=X1.len
 rw [GY,List.length_singleton] at hl1
 obtain⟨accs,hal,hacc⟩:=iy (P:=fun j v a=>∃ q:Nat,v=V.ref q/\H[q]?=some (.list (a.map .int))/\c6 (aN cs prs) (ay cs) a/\a.length=6/\∀ o,orders[j]?=some o->∀ i c,a[i]?=some c->∀ y,Av (aN cs prs) (ay cs) (a.take i) y->y≠c->o.idxOf (aA cs c) < o.idxOf (aA cs y)) (vs:=mv) fun j v hv=>by
  have hjl:=aa hv
  obtain⟨o,ho⟩:∃ o,orders[j]?=some o:=⟨_,G6 (by rw [D.ml] at hjl;exact hjl)⟩
  rcases D.mok j o v ho hv with ⟨_,q,a,rfl,_,gq,ga,hfull,hle⟩ | ⟨hs,_⟩
  .exact zT a q rfl gq ga (uW ga hfull) (fun o' ho'=>by rw [ho] at ho';cases ho';exact hle)
  .rw [D.s] at hs;exact Bool.noConfusion hs
 have hmI:ILs H mv accs:=ILs.of hal fun j v a hv ha=>by
  (refine ao (hacc j v a hv ha) fun q ζ1 ζ2=>?_;obtain rfl:=ζ1;obtain⟨gq,_⟩:=ζ2)
  exact⟨q,rfl,gq⟩
 have hrun:∀ i v,(mv++[V.ref k])[i]?=some v->∃ (q:Nat) (c:List Int),v=V.ref q/\q≠H.length/\H2[q]?=some (.list (c.map .int))/\c6 (aN cs prs) (ay cs) c/\c.length=6:=fun i v hv=>by
  by_cases hi:i < mv.length
  .rw [GR hi] at hv
   obtain⟨a,ha⟩:∃ a,accs[i]?=some a:=⟨_,G6 (by simp_all)⟩
   (refine ao (hacc i v a hv ha) fun q ζ3 ζ4=>?_;obtain rfl:=ζ3;refine ek ζ4 fun gq ga hl _=>?_;clear ζ4)
   exact zT q a rfl (Nat.ne_of_lt (aa gq)) (XB.get gq) ga hl
  .have hil:=aa hv
   rw [GY,List.length_singleton] at hil
   rw [List.getElem?_append_right (by simp_all),show i - mv.length=0 by simp_all +arith] at hv
   cases hv
   exact zT k g rfl hkH gk2 G1 (by exact hg1.trans hnl)
 refine br (fun i χ=>Ext H χ.H/\lj m χ.m/\(∀ j,j < H2.length->j≠H.length->χ.H[j]?=H2[j]?)/\H2.length<=χ.H.length/\∃ rv rls,χ.H[H.length]?=some (.list rv)/\ILs χ.H rv rls/\rv.length<=i/\∀ v∈rv,∀ p,v=.ref p->p≠H.length)
  ⟨XB,fun _ _=>rfl,fun _ _ _=>rfl,Nat.le_refl _,[],[],XH.get ak,trivial,Nat.le_refl _,fun v hv=>by cases hv⟩ ?_ ?_
 ·(intro i it χ R hi Fp;refine rH Fp fun X0 N keep hlen Fx=>?_;clear Fp;refine jh Fx fun rv rls gr grs hrl prot=>?_;clear Fx;intro hR)
  obtain⟨v,hv,rfl⟩:∃ v,(mv++[V.ref k])[i]?=some v/\it=.one v:=by
   rw [G3,Option.map_eq_some_iff] at hi
   (refine ao hi fun v h1 ζ5=>?_;clear hi;obtain rfl:=ζ5)
   exact aW v h1 rfl
  have hil:=aa hv
  rw [GY,List.length_singleton,D.ml] at hil
  (refine bq (hrun i v hv) fun q c ζ6 ζ7=>?_;obtain rfl:=ζ6;refine ek ζ7 fun hqH gq Gc hc6=>?_;clear ζ7)
  have hqc:χ.H[q]?=some (.list (c.map .int)):=by refine (keep q (aa gq) hqH).trans ?_;exact gq
  refine⟨aq gI rfl (by rw [keep _ (aa gI) (by lia)];exact gI),?_⟩
  wp_walk using 6,aj
  have N1:lj m (χ.put (Str.ofString "run") (.ref q)).m:=N.put (by decide)
  refine DA (rls:=rls) (rv:=rv) (q:=q) (c:=c) D X0 N1 (rfl) hqc hqH gr grs (by lia) Gc hc6 (fun _=>?_) fun hnin H' m' kq ur ws kg X4 hm' mo go gur hwl hws mg gg=>?_
  .wp_walk using 6,aj
   exact hR _ ⟨X0,N1,keep,hlen,rv,rls,gr,grs,by exact aU5 rfl hrl,prot⟩
  .have X4:Ext (χ.H.set H.length (.list (rv++[.ref q]))) H':=X4
   have hgrl:=aa gr
   have k4:∀ j,j < χ.H.length->j≠H.length->H'[j]?=χ.H[j]?:=fun j hj hne=>by
    exact (X4.keep j (by rw [List.length_set];exact hj)).trans (af (Ne.symm hne))
   have hl4:χ.H.length<=H'.length:=by have:=X4.len;rw [List.length_set] at this;exact this
   have XB4:Ext H H':=(X0.set (Nat.le_refl _)).trans X4
   have g4:H'[H.length]?=some (.list (rv++[.ref q])):=X4.get (au hgrl)
   have q4:H'[q]?=some (.list (c.map .int)):=by refine (k4 q (aa hqc) hqH).trans ?_;exact hqc
   have mr:∀ s:String,s ≠ "others" -> s ≠ "goes" -> s ≠ "run" -> m' (Str.ofString s)=χ.m (Str.ofString s):=fun s h1 h2 h3=>(hm' s h1 h2).trans (sX h3)
   have mrun:m' (Str.ofString "run")=some (.ref q):=(hm' "run" (by decide) (by decide)).trans (rfl)
   have mhome:m' (Str.ofString "home")=some (.ref kd):=(mr "home" (by decide) (by decide) (by decide)).trans ((N "home" (by decide)).trans D.mh)
   obtain⟨nn,gd⟩:=D.dd
   have hwn:∀ u∈ws,(∀ x∈u,x∈ay cs)/\u.length<=6:=fun u hu=>by
    obtain⟨j,hj⟩:=List.mem_iff_getElem?.mp hu
    have hjl:=aa hj
    obtain⟨x,hx⟩:∃ x,c[j]?=some x:=⟨_,G6 (by exact GW hjl hwl)⟩
    obtain⟨h1,h2⟩:=hws j x u hx hj
    have h3:∀ x∈u,x∈ay cs:=fun y hy=>((h2 y).mp hy).1.1
    exact⟨h3,by have:=aQ h1 h3;simp_all⟩
   refine rwE yQ (rwE bU ?_)
   refine vC (cs:=cs) (c:=c) (ws:=ws) mrun q4 mo go gur hwl mhome (XB4.get gd) mg gg (fq Gc) (by exact Nat.le_of_eq hc6) (fun u hu=>(hwn u hu).1) (fun u hu=>(hwn u hu).2) fun H5 m5 kG gv X5 hm5 mG gG hGl=>?_
   refine rwE cP (rwE bU ?_)
   have X5:Ext H' H5:=X5
   have mrun5:m5 (Str.ofString "run")=some (.ref q):=(hm5 "run" (by decide) (by decide) (by decide)).trans mrun
   have mo5:m5 (Str.ofString "orders")=some (.ref ko):=(hm5 "orders" (by decide) (by decide) (by decide)).trans ((mr "orders" (by decide) (by decide) (by decide)).trans ((N "orders" (by decide)).trans D.m8))
   have mm5:m5 (Str.ofString "merges")=some (.ref km):=(hm5 "merges" (by decide) (by decide) (by decide)).trans ((mr "merges" (by decide) (by decide) (by decide)).trans ((N "merges" (by decide)).trans D.m9))
   have XB5:=XB4.trans X5
   have hw3:=oY (hm:=aA cs) (c:=c) (i:=c.length) (fun u hu=>(hwn u hu).2)
   have W3:Within (bz (aA cs) c ws c.length) [0,1,2]:=fun e he=>by
    (refine eE ((gY hws hwl).mp he) fun j x y ζ8=>?_;refine ek ζ8 fun _ _ _ ζ9=>?_;clear ζ8;obtain rfl:=ζ9)
    exact⟨nv,nv⟩
   have Lw0:=qk (cs:=cs) D.a.pin
   have hap:∀ x,(x,x)∉bz (aA cs) c ws c.length:=fun x hx=>qd Lw0 Gc hws hwl hx rfl
   refine vB (ls:=orders) (accs:=accs) (c:=c) mrun5 (X5.get q4) mo5 (XB5.get D.oo) (D.ol.ext XB5) mm5 (XB5.get D.mm) (hmI.ext XB5) (by refine rwE D.ol.len ?_;decide) fun fv hfv=>?_
   have heq:kc orders accs c (orders.zip accs).length=orders.filter (lh (bz (aA cs) c ws c.length)):=by
    refine uV (by refine hal.trans (D.ml.trans ?_);rfl) fun j o a ho ha=>?_
    have hal':=aa ha
    obtain⟨v,hv'⟩:∃ v,mv[j]?=some v:=⟨_,G6 (by simp_all)⟩
    (refine bW (hacc j v a hv' ha) fun _ _ _ ga Ft=>?_;obtain⟨hla,hle⟩:=Ft)
    exact zM Gc hws hwl ga (by simp_all) (hle o ho)
   rw [heq] at hfv
   refine rwE cP (rwE bU ?_)
   have X6:Ext H5 (H5++[O.list fv]):=Ext.app
   have XB6:=XB5.trans X6
   have m6:∀ s:String,s ≠ "fits" -> ((⟨H5++[O.list fv],m5⟩:Mine.St).put (Str.ofString "fits") (.ref H5.length)).m (Str.ofString s)=m5 (Str.ofString s):=fun s hs=>sX hs
   refine vF (kf:=H5.length) (G:=bz (aA cs) c ws c.length) ((m6 "orders" (by decide)).trans mo5) (XB6.get D.oo) (D.ol.ext XB6) (rfl) ak (hfv.ext X6) ((m6 "goes" (by decide)).trans mG) (X6.get gG) (hGl.ext X6) W3 (by lia) rfl fun H7 X7=>?_
   have X7:Ext (H5++[O.list fv]) H7:=X7
   rw [cP]
   have X67:=X6.trans X7
   refine vE (kf:=H5.length) (kG:=kG) (G:=bz (aA cs) c ws c.length) (rfl) (X7.get ak) (hfv.ext X67) ((m6 "goes" (by decide)).trans mG) (X67.get gG) (hGl.ext X67) W3 hap (by lia) rfl fun H8 m8 X8 hm8=>?_
   have X8:Ext H7 H8:=X8
   have XX:Ext H' H8:=X5.trans (X67.trans X8)
   refine hR _ ⟨XB4.trans XX,fun s hs=>?_,fun j hj hne=>?_,?_,rv++[.ref q],rls++[c],XX.get g4,?_,?_,?_⟩
   .have hne:∀ t:String,t∉kM->s≠t:=fun t ht e=>ht (e ▸ hs)
    refine (hm8 s (hne _ (by decide)) (hne _ (by decide))).trans ((m6 s (hne _ (by decide))).trans ((hm5 s (hne _ (by decide)) (hne _ (by decide)) (hne _ (by decide))).trans ((mr s (hne _ (by decide)) (hne _ (by decide)) (hne _ (by decide))).trans (N s hs))))
   .refine (?_:H8[j]?=_)
    exact (XX.keep j (by lia)).trans ((k4 j (by exact GU (by assumption) (by assumption)) hne).trans (keep j hj hne))
   .have:=XX.len
    refine (?_:H2.length<=H8.length)
    lia
   .refine (ILs.snoc (grs.frame fun v hv p hp hlt=>k4 p hlt (prot v hv p hp)) ⟨q,rfl,q4⟩).ext XX
   .refine rwE GY (rwE List.length_singleton ?_);exact Nat.add_le_add_right hrl 1
   .intro v hv p hp
    rcases List.mem_append.mp hv with hv | hv
    .exact prot v hv p hp
    .rw [List.mem_singleton] at hv
     subst hv;cases hp;exact hqH
 ·(intro χ Fy;refine rH Fy fun X0 N keep hlen Fz=>?_;clear Fy;refine jh Fz fun rv rls gr grs hrl prot=>?_;clear Fz)
  refine⟨aq gI rfl (by refine (keep _ (aa gI) (by lia)).trans ?_;exact gI),?_⟩
  wp_walk using 6,aj
  exact hQ _
theorem yG {xs:List Int} {m:Str->Option V} {Q:Fl->Mine.St->Prop} {X:V->Mine.St->Prop} (hm:m (Str.ofString "script")=some (.ref 0)) (hxl:xs.length<=63) (hQ:∀ σ,Q (.ret (.bool true)) σ):a7 (prog.at 10) aC.body aC.scope [] ⟨[.frozen (xs.map .int)],m⟩ Q X:=
 Dv (p:=Str.ofString "") hm hxl fun _ _ _ _ _ _ _ _ _ LA=>Dw LA fun _ _ _ _ _ _ LB=>Dy LB fun _ _ X1 hN gm hml hmo=>Dz LB X1 hN gm hml hmo hQ fun _ _ _ D=>DB D hQ
end Mine
namespace Mine
open PySem PySem.W PyProof.Rows
theorem se:∀ {vs:List Value} {ns:List Int},IntsAre vs ns->VRs [] (ns.map V.int) vs
 | _,_,.nil=>trivial
 | _,_,.cons n t h=>⟨rfl,se h⟩
set_option maxHeartbeats 8000000 in
theorem tst:PySem.Challenge.rw_mj0226_02.Holds:=by
 refine holds_law (by decide +kernel) fun said=>?_
 refine PySem.W.holds_open (d:=?d) (kwd:=?kwd) left hk.of hk.keeps (fun s e=>xl_of s (Bool.and_eq_true_iff.mp e).1) XL.keeps (by rfl) (by rfl) (by rfl) (fun s e=>recFacts_of (Bool.and_eq_true_iff.mp e).2) (by rfl) B7 (by decide +kernel) ⟨rfl,rfl,rfl,rfl,rfl,by decide +kernel⟩ ?hw ?hc
 case hw=>w_witness2
 intro w GO Fv mg mb G Y fa o pm cd doc dV kV ho hd1 hcd hD hmg hg args vals as hpre hlay hrd hwl hlo
 have KX:=kIn_of Y
 refine Ground.open G ?_
 intro T B D TE TW
 wrow_args hpre hlay hrd hwl hlo
 have hfa:Value.ref fa=Value.ref 189:=by
  have h1:=Bv T.g (KX mainGlobals _ rfl) rfl (Str.ofString "law")
  have h2:mg (Str.ofString "law")=some (.ref fa):=hmg
  rw [h2] at h1
  exact Option.some.inj (h1.trans (by kernel_rfl))
 injection hfa with hfa
 subst hfa
 clear hd1 hcd B D TE TW hD hmg ho
 all_goals first | refine callC_kw (enter_call ?_) | refine enter_call ?_
 rename_i ns _ _ _ _ _ _ _ la vals _ hL _ _ _ hI _ hlen _
 have po:jo (base w Fv mg mb) prog:={
  bo:=xN KX T.g T.b T.builtins
  co:=uF KX
  mo:=yS
  lim:=T.nolimit
  fn:=AO
  make:=fun c ini _ _ h=>yR c ini h
  sets:=fun h=>h.elim
  setD:=fun h=>h.elim
  xe:=fun C d f _ _ _ e φ₀ φ own σ Q X s rs w q=>q.elim
  xs:=fun _ _ _ _ _ _=>rfl
  xc:=fun _ _ _ _=>rfl
  ex:=AD KX
  sb:=Cd KX }
 refine codeAny_mono (rJ (d:=10) po (by decide) (AO 189 aC (by rfl)) (p:=Str.ofString "script") rfl rfl rfl (xs:=ns.map V.int) hL ?_ rfl hg rfl ?_) ?_
 .exact se hI
 .exact yG (by simp) (by omega) fun _=>rfl
 .rintro r s' ⟨rfl,hst,hos,hg'⟩
  refine⟨.inl ⟨.bool true,.bool true,[],rfl,?_,.bool true,?_,?_⟩,.of_keep hst,hos,.of_eq hg'⟩
  .first | exact fun _=>rfl | exact raisesW_false (by wrow_none_raised)
  .wrow_post
  .exact fun _=>⟨List.nodup_nil,fun _ h=>by cases h⟩
end Mine
theorem PySem.Challenge.cw_mj0226_02_holds : PySem.Challenge.rw_mj0226_02.Holds := by
  exact Mine.tst
