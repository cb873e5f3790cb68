import PyProof.Rows.All
import Wide.All
import OpenK.AllK
import Wide.FinOn
import Lean
import PySem.Challenge.RW_xh0043_01
set_option Elab.async false
set_option linter.unusedVariables false
set_option tactic.hygienic false
set_option genInjectivity false
set_option genSizeOf false
set_option maxRecDepth 100000
namespace Mine.Internal
open PySem PyProof.Rows
section
theorem nn {α:Type} {d:α} {C:Prop} (h:none=some d):C:=nomatch h
theorem bnd {α β:Type} {o:Option α} {f:α ->Option β} {b:β} {C:Prop} (h:o.bind f=some b) (k: ∀a,o=some a ->f a=some b ->C):C:=by
 cases o with
 |none=>exact nn h
 |some a=>exact k a rfl h
theorem mpd {α β:Type} {o:Option α} {f:α ->β} {b:β} {C:Prop} (h:o.map f=some b) (k: ∀a,o=some a ->f a=b ->C):C:=by
 cases o with
 |none=>exact nn h
 |some a=>exact k a rfl (Option.some.inj h)
theorem J9 {c:Prop} [Decidable c] {α:Type} {a:Option α} {d:α} {C:Prop} (h:(if c then a else none)=some d) (k:c ->a=some d ->C):C:=by
 by_cases q:c
 ·rw[if_pos q]at h;exact k q h
 ·rw[if_neg q]at h;exact nn h
theorem J6g {c:Prop} [Decidable c] {α:Type} {a:Option α} {d:α} {C:Prop} (h:(if c then none else a)=some d) (k: ¬c ->a=some d ->C):C:=by
 by_cases q:c
 ·rw[if_pos q]at h;exact nn h
 ·rw[if_neg q]at h;exact k q h
theorem o10 {α:Sort _} {P0:α ->Prop} {G:Prop} (h: ∃(a:α),P0 a) (k: ∀a,P0 a ->G):G:=h.elim λa h=>k a h
theorem o11 {α:Sort _} {P0 P1:α ->Prop} {G:Prop} (h: ∃(a:α),P0 a/\ P1 a) (k: ∀a,P0 a ->P1 a ->G):G:=h.elim λa h=>k a h.1 h.2
theorem o12 {α:Sort _} {P0 P1 P2:α ->Prop} {G:Prop} (h: ∃(a:α),P0 a/\ P1 a/\ P2 a) (k: ∀a,P0 a ->P1 a ->P2 a ->G):G:=h.elim λa h=>k a h.1 h.2.1 h.2.2
theorem o13 {α:Sort _} {P0 P1 P2 P3:α ->Prop} {G:Prop} (h: ∃(a:α),P0 a/\ P1 a/\ P2 a/\ P3 a) (k: ∀a,P0 a ->P1 a ->P2 a ->P3 a ->G):G:=h.elim λa h=>k a h.1 h.2.1 h.2.2.1 h.2.2.2
theorem o01 {P0 P1 G:Prop} (h:P0/\ P1) (k:P0 ->P1 ->G):G:=k h.1 h.2
theorem o02 {P0 P1 P2 G:Prop} (h:P0/\ P1/\ P2) (k:P0 ->P1 ->P2 ->G):G:=k h.1 h.2.1 h.2.2
theorem o03 {P0 P1 P2 P3 G:Prop} (h:P0/\ P1/\ P2/\ P3) (k:P0 ->P1 ->P2 ->P3 ->G):G:=k h.1 h.2.1 h.2.2.1 h.2.2.2
theorem o04 {P0 P1 P2 P3 P4 G:Prop} (h:P0/\ P1/\ P2/\ P3/\ P4) (k:P0 ->P1 ->P2 ->P3 ->P4 ->G):G:=k h.1 h.2.1 h.2.2.1 h.2.2.2.1 h.2.2.2.2
theorem o20 {α:Sort _} {β:Sort _} {P0:α ->β ->Prop} {G:Prop} (h: ∃(a:α) (b:β),P0 a b) (k: ∀a b,P0 a b ->G):G:=h.elim λa h=>h.elim λb h=>k a b h
theorem o21 {α:Sort _} {β:Sort _} {P0 P1:α ->β ->Prop} {G:Prop} (h: ∃(a:α) (b:β),P0 a b/\ P1 a b) (k: ∀a b,P0 a b ->P1 a b ->G):G:=h.elim λa h=>h.elim λb h=>k a b h.1 h.2
theorem o22 {α:Sort _} {β:Sort _} {P0 P1 P2:α ->β ->Prop} {G:Prop} (h: ∃(a:α) (b:β),P0 a b/\ P1 a b/\ P2 a b) (k: ∀a b,P0 a b ->P1 a b ->P2 a b ->G):G:=h.elim λa h=>h.elim λb h=>k a b h.1 h.2.1 h.2.2
theorem o23 {α:Sort _} {β:Sort _} {P0 P1 P2 P3:α ->β ->Prop} {G:Prop} (h: ∃(a:α) (b:β),P0 a b/\ P1 a b/\ P2 a b/\ P3 a b) (k: ∀a b,P0 a b ->P1 a b ->P2 a b ->P3 a b ->G):G:=h.elim λa h=>h.elim λb h=>k a b h.1 h.2.1 h.2.2.1 h.2.2.2
theorem o24 {α:Sort _} {β:Sort _} {P0 P1 P2 P3 P4:α ->β ->Prop} {G:Prop} (h: ∃(a:α) (b:β),P0 a b/\ P1 a b/\ P2 a b/\ P3 a b/\ P4 a b) (k: ∀a b,P0 a b ->P1 a b ->P2 a b ->P3 a b ->P4 a b ->G):G:=h.elim λa h=>h.elim λb h=>k a b h.1 h.2.1 h.2.2.1 h.2.2.2.1 h.2.2.2.2
theorem o30 {α:Sort _} {β:Sort _} {γ:Sort _} {P0:α ->β ->γ ->Prop} {G:Prop} (h: ∃(a:α) (b:β) (c:γ),P0 a b c) (k: ∀a b c,P0 a b c ->G):G:=h.elim λa h=>h.elim λb h=>h.elim λc h=>k a b c h
theorem o31 {α:Sort _} {β:Sort _} {γ:Sort _} {P0 P1:α ->β ->γ ->Prop} {G:Prop} (h: ∃(a:α) (b:β) (c:γ),P0 a b c/\ P1 a b c) (k: ∀a b c,P0 a b c ->P1 a b c ->G):G:=h.elim λa h=>h.elim λb h=>h.elim λc h=>k a b c h.1 h.2
theorem o32 {α:Sort _} {β:Sort _} {γ:Sort _} {P0 P1 P2:α ->β ->γ ->Prop} {G:Prop} (h: ∃(a:α) (b:β) (c:γ),P0 a b c/\ P1 a b c/\ P2 a b c) (k: ∀a b c,P0 a b c ->P1 a b c ->P2 a b c ->G):G:=h.elim λa h=>h.elim λb h=>h.elim λc h=>k a b c h.1 h.2.1 h.2.2
theorem o33 {α:Sort _} {β:Sort _} {γ:Sort _} {P0 P1 P2 P3:α ->β ->γ ->Prop} {G:Prop} (h: ∃(a:α) (b:β) (c:γ),P0 a b c/\ P1 a b c/\ P2 a b c/\ P3 a b c) (k: ∀a b c,P0 a b c ->P1 a b c ->P2 a b c ->P3 a b c ->G):G:=h.elim λa h=>h.elim λb h=>h.elim λc h=>k a b c h.1 h.2.1 h.2.2.1 h.2.2.2
theorem o34 {α:Sort _} {β:Sort _} {γ:Sort _} {P0 P1 P2 P3 P4:α ->β ->γ ->Prop} {G:Prop} (h: ∃(a:α) (b:β) (c:γ),P0 a b c/\ P1 a b c/\ P2 a b c/\ P3 a b c/\ P4 a b c) (k: ∀a b c,P0 a b c ->P1 a b c ->P2 a b c ->P3 a b c ->P4 a b c ->G):G:=h.elim λa h=>h.elim λb h=>h.elim λc h=>k a b c h.1 h.2.1 h.2.2.1 h.2.2.2.1 h.2.2.2.2
theorem o42 {α:Sort _} {β:Sort _} {γ:Sort _} {δ:Sort _} {P0 P1 P2:α ->β ->γ ->δ ->Prop} {G:Prop} (h: ∃(a:α) (b:β) (c:γ) (d:δ),P0 a b c d/\ P1 a b c d/\ P2 a b c d) (k: ∀a b c d,P0 a b c d ->P1 a b c d ->P2 a b c d ->G):G:=h.elim λa h=>h.elim λb h=>h.elim λc h=>h.elim λd h=>k a b c d h.1 h.2.1 h.2.2
theorem o50 {α:Sort _} {β:Sort _} {γ:Sort _} {δ:Sort _} {ε:Sort _} {P0:α ->β ->γ ->δ ->ε ->Prop} {G:Prop} (h: ∃(a:α) (b:β) (c:γ) (d:δ) (e:ε),P0 a b c d e) (k: ∀a b c d e,P0 a b c d e ->G):G:=h.elim λa h=>h.elim λb h=>h.elim λc h=>h.elim λd h=>h.elim λe h=>k a b c d e h
theorem o60 {α:Sort _} {β:Sort _} {γ:Sort _} {δ:Sort _} {ε:Sort _} {ζ:Sort _} {P0:α ->β ->γ ->δ ->ε ->ζ ->Prop} {G:Prop} (h: ∃(a:α) (b:β) (c:γ) (d:δ) (e:ε) (f:ζ),P0 a b c d e f) (k: ∀a b c d e f,P0 a b c d e f ->G):G:=h.elim λa h=>h.elim λb h=>h.elim λc h=>h.elim λd h=>h.elim λe h=>h.elim λf h=>k a b c d e f h
theorem o90 {α:Sort _} {β:Sort _} {γ:Sort _} {δ:Sort _} {ε:Sort _} {ζ:Sort _} {η:Sort _} {θ:Sort _} {ι:Sort _} {P0:α ->β ->γ ->δ ->ε ->ζ ->η ->θ ->ι ->Prop} {G:Prop} (h: ∃(a:α) (b:β) (c:γ) (d:δ) (e:ε) (f:ζ) (u:η) (v:θ) (w:ι),P0 a b c d e f u v w) (k: ∀a b c d e f u v w,P0 a b c d e f u v w ->G):G:=h.elim λa h=>h.elim λb h=>h.elim λc h=>h.elim λd h=>h.elim λe h=>h.elim λf h=>h.elim λu h=>h.elim λv h=>h.elim λw h=>k a b c d e f u v w h
theorem o08 {P0 P1 P2 P3 P4 P5 P6 P7 P8 G:Prop} (h:P0/\ P1/\ P2/\ P3/\ P4/\ P5/\ P6/\ P7/\ P8) (k:P0 ->P1 ->P2 ->P3 ->P4 ->P5 ->P6 ->P7 ->P8 ->G):G:=k h.1 h.2.1 h.2.2.1 h.2.2.2.1 h.2.2.2.2.1 h.2.2.2.2.2.1 h.2.2.2.2.2.2.1 h.2.2.2.2.2.2.2.1 h.2.2.2.2.2.2.2.2
theorem o3a {α:Sort _} {β:Sort _} {γ:Sort _} {P0 P1 P2 P3 P4 P5 P6 P7 P8 P9 P10:α ->β ->γ ->Prop} {G:Prop} (h: ∃(a:α) (b:β) (c:γ),P0 a b c/\ P1 a b c/\ P2 a b c/\ P3 a b c/\ P4 a b c/\ P5 a b c/\ P6 a b c/\ P7 a b c/\ P8 a b c/\ P9 a b c/\ P10 a b c) (k: ∀a b c,P0 a b c ->P1 a b c ->P2 a b c ->P3 a b c ->P4 a b c ->P5 a b c ->P6 a b c ->P7 a b c ->P8 a b c ->P9 a b c ->P10 a b c ->G):G:=h.elim λa h=>h.elim λb h=>h.elim λc h=>k a b c h.1 h.2.1 h.2.2.1 h.2.2.2.1 h.2.2.2.2.1 h.2.2.2.2.2.1 h.2.2.2.2.2.2.1 h.2.2.2.2.2.2.2.1 h.2.2.2.2.2.2.2.2.1 h.2.2.2.2.2.2.2.2.2.1 h.2.2.2.2.2.2.2.2.2.2
noncomputable def Jih {α:Type}:List α ->Option α|[]=>none|a::l=>if l.isEmpty then some a else none
noncomputable def Jii {α:Type}:List α ->Option (α×α)|[]=>none|a::l=>(Jih l).map λb=>(a,b)
noncomputable def J9D {α:Type}:List α ->Option (α×List α)|[]=>none|a::l=>some (a,l)
theorem J3n {α:Type} {l:List α} {p:α×List α} (h:J9D l=some p):l=p.1::p.2:=by
 cases l with
 |nil=>exact nn h
 |cons b l=>exact Option.some.inj h▸rfl
noncomputable def J8C:Expr ->Option Str| .Name x _=>some x|_=>none
theorem J1R {e:Expr} {x:Str} (h:J8C e=some x): ∃p,e= .Name x p:=by
 cases e with
 |Name y p=>exact⟨p,Option.some.inj h▸rfl⟩
 |_=>exact nn h
inductive Key where
 |i (k:Int)
 |s (x:Str)
 deriving DecidableEq
inductive D where
 |none
 |bool (b:Bool)
 |int (i:Int)
 |flt (x:UInt64)
 |str (s:Str)
 |ty (n:String)
 |tup (l:List D)
 |lst (l:List D)
 |dct (l:List (Key×D))
 |obj (d:D)
 |iset (l:List Int)
 deriving Inhabited
inductive Slot where
 |val (d:D)
 |mls (l:List D)
 |mdc (l:List (Key×D))
 deriving Inhabited
noncomputable abbrev Rho:=List (Str×Slot)
inductive Fl where
 |next
 |cont
 |ret (d:D)
 deriving Inhabited
set_option backward.match.sparseCases false in
noncomputable def J1P:Option Slot ->Option (List D)|some (.mls l)=>some l|_=>none
theorem Vj {o:Option Slot} {l:List D} (h:J1P o=some l):o=some (.mls l):=by
 cases o with
 |none=>exact nn h
 |some u=>cases u with
  |mls l=>exact Option.some.inj h▸rfl
  |_=>exact nn h
noncomputable def J6J:Fl ->Option D| .ret d=>some d|_=>none
theorem J5r {f:Fl} {d:D} (h:J6J f=some d):f= .ret d:=by
 cases f with
 |ret d=>exact Option.some.inj h▸rfl
 |_=>exact nn h
structure Fn where
 params:List Str
 body:List Stmt
 scope:Scope
structure Top where
 fns:Str ->Option Fn
 cmp:Option Fn
 data:Str ->Option D
 own:List Str
 frz:Nat ->List Str
noncomputable def setR (x:Str) (v:Slot):Rho ->Rho
 |[]=>[(x,v)]
 |(y,u)::r=>if y==x then(x,v)::r else(y,u)::setR x v r
noncomputable def Jf5 (ρ:Rho) (x:Str):Option D:=match ρ.lookup x with
 |some (.val d)=>some d
 |_=>none
set_option backward.match.sparseCases false in
noncomputable def frzIn (x:Str):Rho ->Rho
 |[]=>[]
 |(y,u)::r=>if y==x then(y,match u with| .mls l=> .val (.lst l)| .mdc l=> .val (.dct l)|u=>u)::r else(y,u)::frzIn x r
noncomputable def frzAll:List Str ->Rho ->Rho
 |[],ρ=>ρ
 |x::xs,ρ=>frzAll xs (frzIn x ρ)
noncomputable def J9V (x:Str):Bool:=!(x==("__classdict__":Str))&&!(x==("__debug__":Str))
set_option backward.match.sparseCases false in
noncomputable def Jg (sc:Scope) (x:Str):Bool:=match sc.names.lookup x with
 |some .local|some .cell|some .free=>J9V x
 |_=>false
set_option backward.match.sparseCases false in
noncomputable def isGlob (sc:Scope) (x:Str):Bool:=match sc.names.lookup x with
 |some .globalImplicit=>J9V x
 |_=>false
set_option backward.match.sparseCases false in
noncomputable def Vb:D ->Option Key
 | .int i=>some (.i i)
 | .str s=>some (.s s)
 |_=>none
noncomputable def dat:Key ->D
 | .i k=> .int k
 | .s x=> .str x
noncomputable def dget (k:Key):List (Key×D) ->Option D
 |[]=>none
 |(j,d)::r=>if j=k then some d else dget k r
noncomputable def JY (k:Key) (v:D):List (Key×D) ->List (Key×D)
 |[]=>[(k,v)]
 |(j,d)::r=>if j=k then(j,v)::r else(j,d)::JY k v r
noncomputable def idx (n:Nat) (i:Int):Option Nat:=
 if n<=1000000 then seqIndex? i n else none
noncomputable def J9U (c:Nat):Str:=⟨#[c]⟩
noncomputable def chars (s:Str):List D:=s.cps.toList.map λc=> .str (J9U c)
noncomputable def small (i:Int):Bool:=decide (i.natAbs<2^64)
noncomputable def J4e (a b:Int):Bool:=small a||small b
noncomputable def fOf (i:Int):UInt64:=Float64.ofInt i
set_option genCtorIdx false
inductive ShB:D ->D ->Type
 |ii (x y:Int):ShB (.int x) (.int y)
 |bb (x y:Bool):ShB (.bool x) (.bool y)
 |ss (x y:Str):ShB (.str x) (.str y)
 |ll (x y:List D):ShB (.lst x) (.lst y)
 |tt (x y:List D):ShB (.tup x) (.tup y)
 |li (x:List D) (y:Int):ShB (.lst x) (.int y)
 |ff (x y:UInt64):ShB (.flt x) (.flt y)
 |fi (x:UInt64) (y:Int):ShB (.flt x) (.int y)
 |ib (x:Int) (y:Bool):ShB (.int x) (.bool y)
 |bi (x:Bool) (y:Int):ShB (.bool x) (.int y)
 |dd (x y:List (Key×D)):ShB (.dct x) (.dct y)
 |si (x:Str) (y:Int):ShB (.str x) (.int y)
 |ti (x:List D) (y:Int):ShB (.tup x) (.int y)
 |id (x:Int) (y:List (Key×D)):ShB (.int x) (.dct y)
 |is (x:Int) (y:List Int):ShB (.int x) (.iset y)
 |nn:ShB .none .none
 |sn (x:Str):ShB (.str x) .none
 |other (a b:D):ShB a b
set_option backward.match.sparseCases false in
noncomputable def shB (a b:D):ShB a b:=match a,b with
 | .int x,.int y=> .ii x y
 | .bool x,.bool y=> .bb x y
 | .str x,.str y=> .ss x y
 | .lst x,.lst y=> .ll x y
 | .tup x,.tup y=> .tt x y
 | .lst x,.int y=> .li x y
 | .flt x,.flt y=> .ff x y
 | .flt x,.int y=> .fi x y
 | .int x,.bool y=> .ib x y
 | .bool x,.int y=> .bi x y
 | .dct x,.dct y=> .dd x y
 | .str x,.int y=> .si x y
 | .tup x,.int y=> .ti x y
 | .int x,.dct y=> .id x y
 | .int x,.iset y=> .is x y
 | .none,.none=> .nn
 | .str x,.none=> .sn x
 |a,b=> .other a b
set_option backward.match.sparseCases false in
noncomputable def JhC:D ->Bool
 | .int _=>true
 | .bool _=>true
 |_=>false
inductive ShO:Operator ->D ->D ->Type
 |addI (x y:Int):ShO .Add (.int x) (.int y)
 |subI (x y:Int):ShO .Sub (.int x) (.int y)
 |mulI (x y:Int):ShO .Mult (.int x) (.int y)
 |fdvI (x y:Int):ShO .FloorDiv (.int x) (.int y)
 |modI (x y:Int):ShO .Mod (.int x) (.int y)
 |powI (x y:Int):ShO .Pow (.int x) (.int y)
 |divI (x y:Int):ShO .Div (.int x) (.int y)
 |subB (x y:Bool):ShO .Sub (.bool x) (.bool y)
 |addS (x y:Str):ShO .Add (.str x) (.str y)
 |addL (x y:List D):ShO .Add (.lst x) (.lst y)
 |addT (a:D) (x:List D) (b:D) (y:List D):ShO .Add (.tup (a::x)) (.tup (b::y))
 |mulL (d:D) (y:Int):ShO .Mult (.lst [d]) (.int y)
 |addF (x y:UInt64):ShO .Add (.flt x) (.flt y)
 |subF (x y:UInt64):ShO .Sub (.flt x) (.flt y)
 |mulF (x y:UInt64):ShO .Mult (.flt x) (.flt y)
 |addK (x:UInt64) (y:Int):ShO .Add (.flt x) (.int y)
 |subK (x:UInt64) (y:Int):ShO .Sub (.flt x) (.int y)
 |divF (x y:UInt64):ShO .Div (.flt x) (.flt y)
 |modF (x y:UInt64):ShO .Mod (.flt x) (.flt y)
 |other (op:Operator) (a b:D):ShO op a b
noncomputable def shO (op:Operator) (a b:D):ShO op a b:=match op,a,b with
 | .Add,.int x,.int y=> .addI x y
 | .Sub,.int x,.int y=> .subI x y
 | .Mult,.int x,.int y=> .mulI x y
 | .FloorDiv,.int x,.int y=> .fdvI x y
 | .Mod,.int x,.int y=> .modI x y
 | .Pow,.int x,.int y=> .powI x y
 | .Div,.int x,.int y=> .divI x y
 | .Sub,.bool x,.bool y=> .subB x y
 | .Add,.str x,.str y=> .addS x y
 | .Add,.lst x,.lst y=> .addL x y
 | .Add,.tup (a::x),.tup (b::y)=> .addT a x b y
 | .Mult,.lst [d],.int y=> .mulL d y
 | .Add,.flt x,.flt y=> .addF x y
 | .Sub,.flt x,.flt y=> .subF x y
 | .Mult,.flt x,.flt y=> .mulF x y
 | .Add,.flt x,.int y=> .addK x y
 | .Sub,.flt x,.int y=> .subK x y
 | .Div,.flt x,.flt y=> .divF x y
 | .Mod,.flt x,.flt y=> .modF x y
 |op,a,b=> .other op a b
noncomputable def JeK {op:Operator} {a b:D} (z:ShO op a b):Option D:=match z with
 | .addI x y=>some (.int (x+y))
 | .subI x y=>some (.int (x-y))
 | .mulI x y=>if J4e x y then some (.int (x*y))else none
 | .fdvI x y=>if y==0||!decide (y.natAbs<1073741824)then none else some (.int (x.fdiv y))
 | .modI x y=>if y==0 then none else some (.int (x.fmod y))
 | .powI x y=>if small x&&decide (0<=y)&&decide (y<=1000)then some (.int (x^y.toNat))else none
 | .divI x y=>if y==0||Float64.isInf (Float64.ofFrac (decide (x<0) !=decide (y<0)) x.natAbs y.natAbs)then none else some (.flt (Float64.ofFrac (decide (x<0) !=decide (y<0)) x.natAbs y.natAbs))
 | .subB x y=>some (.int ((if x then 1 else 0)-(if y then 1 else 0)))
 | .addS x y=>if x.length+y.length<=100000 then some (.str (x++y))else none
 | .addL x y=>if x.length+y.length<=100000 then some (.lst (x++y))else none
 | .addT a x b y=>if x.length+y.length<=100000 then some (.tup (a::x++b::y))else none
 | .mulL d y=>if JhC d&&(decide (0<=y)&&decide (y<=1000))then some (.lst (List.replicate y.toNat d))else none
 | .addF x y=>some (.flt (Float64.add x y))
 | .subF x y=>some (.flt (Float64.sub x y))
 | .mulF x y=>some (.flt (Float64.mul x y))
 | .addK x y=>if small y then some (.flt (Float64.add x (fOf y)))else none
 | .subK x y=>if small y then some (.flt (Float64.sub x (fOf y)))else none
 | .divF x y=>if Float64.isZero y then none else some (.flt (Float64.div x y))
 | .modF x y=>if Float64.isZero y then none else some (.flt (Float64.divmod x y).2)
 | .other _ _ _=>none
noncomputable def binD (op:Operator) (a b:D):Option D:=JeK (shO op a b)
set_option backward.match.sparseCases false in
noncomputable def unD (op:UnaryOp) (a:D):Option D:=match op,a with
 | .USub,.int x=>some (.int (-x))
 |_,_=>none
noncomputable def J6z:D ->Option Int
 | .bool b=>some (if b then 1 else 0)
 | .int i=>some i
 |_=>none
noncomputable def fEq (x y:UInt64):Bool:=Float64.cmp x y==some .eq
noncomputable def Jic (x:UInt64) (i:Int):Bool:=Float64.cmpInt x i==some .eq
noncomputable def allEq (f:D ->D ->Option Bool):List D ->List D ->Option Bool
 |x::xs,y::ys=>(f x y).bind λr=>(allEq f xs ys).map (r&& ·)
 |_,_=>some true
noncomputable def Y2 (f:D ->D ->Option Bool) (b:List (Key×D)):List (Key×D) ->Option Bool
 |[]=>some true
 |(k,x)::xs=>match dget k b with
  |some y=>(f x y).bind λr=>(Y2 f b xs).map (r&& ·)
  |none=>some false
set_option backward.match.sparseCases false in
noncomputable def Jf:List (Key×D) ->Bool
 |[]=>true
 |(.i _,_)::r=>Jf r
 |_=>false
noncomputable def Jgv (f:D ->D ->Option Bool) {a b:D} (z:ShB a b):Option Bool:=match z with
 | .bb x y=>some (x==y)
 | .ii x y=>some (x==y)
 | .ib x y=>some (x==if y then 1 else 0)
 | .bi x y=>some ((if x then 1 else 0)==y)
 | .ss x y=>some (x==y)
 | .ff x y=>if x==y&&!Float64.isNaN x then some true else none
 | .fi x y=>some (Jic x y)
 | .tt x y=>if x.length==y.length then allEq f x y else none
 | .ll x y=>if x.length==y.length then allEq f x y else some false
 | .dd x y=>if Jf x&&Jf y then(if x.length==y.length then Y2 f y x else some false)else none
 |_=>none
noncomputable def eqD:Nat ->D ->D ->Option Bool
 |0,_,_=>none
 |n+1,a,b=>Jgv (eqD n) (shB a b)
noncomputable def Vt:Nat:=6
inductive ShC:CmpOp ->D ->D ->Type
 |ltI (x y:Int):ShC .Lt (.int x) (.int y)
 |leI (x y:Int):ShC .LtE (.int x) (.int y)
 |gtI (x y:Int):ShC .Gt (.int x) (.int y)
 |geI (x y:Int):ShC .GtE (.int x) (.int y)
 |eqF (x y:UInt64):ShC .Eq (.flt x) (.flt y)
 |ltF (x y:UInt64):ShC .Lt (.flt x) (.flt y)
 |leF (x y:UInt64):ShC .LtE (.flt x) (.flt y)
 |gtF (x y:UInt64):ShC .Gt (.flt x) (.flt y)
 |isB (x y:Bool):ShC .Is (.bool x) (.bool y)
 |nn:ShC .IsNot .none .none
 |sn (x:Str):ShC .IsNot (.str x) .none
 |eq (a b:D):ShC .Eq a b
 |ne (a b:D):ShC .NotEq a b
 |other (op:CmpOp) (a b:D):ShC op a b
noncomputable def shC (op:CmpOp) (a b:D):ShC op a b:=match op,a,b with
 | .Eq,.flt x,.flt y=> .eqF x y
 | .Eq,a,b=> .eq a b
 | .NotEq,a,b=> .ne a b
 | .Lt,.int x,.int y=> .ltI x y
 | .LtE,.int x,.int y=> .leI x y
 | .Gt,.int x,.int y=> .gtI x y
 | .GtE,.int x,.int y=> .geI x y
 | .Lt,.flt x,.flt y=> .ltF x y
 | .LtE,.flt x,.flt y=> .leF x y
 | .Gt,.flt x,.flt y=> .gtF x y
 | .Is,.bool x,.bool y=> .isB x y
 | .IsNot,.none,.none=> .nn
 | .IsNot,.str x,.none=> .sn x
 |op,a,b=> .other op a b
noncomputable def JeP {op:CmpOp} {a b:D} (z:ShC op a b):Option Bool:=match z with
 | .ltI x y=>some (decide (x<y))
 | .leI x y=>some (decide (x<=y))
 | .gtI x y=>some (decide (y<x))
 | .geI x y=>some (decide (y<=x))
 | .eqF x y=>some (fEq x y)
 | .ltF x y=>some (Float64.cmp x y==some .lt)
 | .leF x y=>some (Float64.cmp x y==some .lt||Float64.cmp x y==some .eq)
 | .gtF x y=>some (Float64.cmp x y==some .gt)
 | .isB x y=>some (x==y)
 | .nn=>some false
 | .sn _=>some true
 | .eq a b=>eqD Vt a b
 | .ne a b=>(eqD Vt a b).map (!·)
 | .other _ _ _=>none
noncomputable def Kj (op:CmpOp) (a b:D):Option Bool:=JeP (shC op a b)
noncomputable def JhA {a b:D} (z:ShB a b):Option Bool:=match z with
 | .ss x y=>some (!(Builtin.Str.occurrences y x 0 y.length 1).isEmpty)
 | .is x l=>some (l.contains x)
 | .id x l=>some (dget (.i x) l).isSome
 |_=>none
noncomputable def inD (a b:D):Option Bool:=JhA (shB a b)
noncomputable def truthy:D ->Option Bool
 | .bool b=>some b
 | .int i=>some (i !=0)
 |_=>none
noncomputable def J8e {o i:D} (z:ShB o i):Option D:=match z with
 | .li l i=>(idx l.length i).bind λk=>l[k]?
 | .ti l i=>(idx l.length i).bind λk=>l[k]?
 | .si s i=>(idx s.length i).bind λk=>s.cps[k]?.map λc=> .str (J9U c)
 |_=>none
inductive ShD:D ->Type
 |dct (l:List (Key×D)):ShD (.dct l)
 |other (d:D):ShD d
noncomputable def shD (d:D):ShD d:=match d with
 | .dct l=> .dct l
 |d=> .other d
noncomputable def Jds (i:D) {o:D} (z:ShD o):Option D:=match z with
 | .dct l=>(Vb i).bind λk=>dget k l
 | .other o=>J8e (shB o i)
noncomputable def itemD (o i:D):Option D:=Jds i (shD o)
noncomputable def bd:Option D ->Option (Option Int)
 |none=>some none
 |some (.int i)=>some (some i)
 |_=>none
noncomputable def JL (o:D) (lo hi:Option D):Option D:=(bd lo).bind λl=>(bd hi).bind λh=>match o with
 | .str s=>if s.length<=1000000 then
   (if(Builtin.Str.strSliceIndices l h 1 s.length).length==s.length then some (.str s)else some (.str ⟨((Builtin.Str.strSliceIndices l h 1 s.length).filterMap (s.cps[·]?)).toArray⟩))else none
 | .lst xs=>if xs.length<=1000000 then
   some (.lst ((sliceRange (sliceBounds l h none xs.length).1 (sliceBounds l h none xs.length).2.1 (sliceBounds l h none xs.length).2.2).filterMap (xs[·]?)))else none
 |_=>none
noncomputable def J4M (i:Int):Bool:=decide (-(2^63)<=i)&&decide (i<2^63)
noncomputable def J5A:Int ->List D ->Option Int
 |acc,[]=>some acc
 |acc,d::r=>(J6z d).bind λx=>if J4M x&&J4M (acc+x)then J5A (acc+x) r else none
noncomputable def gtD:D ->D ->Bool
 | .str x,.str y=>decide (y.cps.toList<x.cps.toList)
 | .flt x,.flt y=>Float64.cmp x y==some .gt
 | .tup [.int a,.str x],.tup [.int b,.str y]=>decide (b<a)||(a==b&&decide (y.cps.toList<x.cps.toList))
 |_,_=>false
noncomputable def ltD:D ->D ->Bool
 | .flt x,.flt y=>Float64.cmp x y==some .lt
 |_,_=>false
noncomputable def Jim:D ->Bool| .flt _=>true|_=>false
noncomputable def JaS:D ->Bool| .str _=>true|_=>false
noncomputable def J4W:D ->Bool| .tup [.int _,.str _]=>true|_=>false
noncomputable def JB (bt:D ->D ->Bool) (l:List D):Option D:=l[argBest (λi j=>match l[i]?,l[j]? with|some a,some b=>bt a b|_,_=>false) (l.length-1)]?
noncomputable def Kc:List D ->Option (List Str)
 |[]=>some []
 | .str x::r=>(Kc r).map (x:: ·)
 |_=>none
set_option backward.match.sparseCases false in
noncomputable def isI (d:D) (t:String):Option Bool:=match d with
 | .tup _=>if t=="tuple"then some true else none
 | .flt _=>if t=="float"then some true else none
 | .int _=>if t=="bool"then some false else if t=="tuple"then some false else none
 |_=>none
noncomputable def Jn (a b c:Int):Option (List D):=
 if(c==1||c== -1)&&Builtin.Range.small a b c&&decide (0<=Builtin.Range.rangeSize a b c)then some ((List.range (Builtin.Range.rangeSize a b c).toNat).map λ(k:Nat)=> .int (a+k*c))else none
noncomputable def nm (s:String):Str:=Str.ofString s
noncomputable def Zi (g1:D ->Option D) (g2:D ->D ->Option D) (g3:D ->D ->D ->Option D):List D ->Option D
 |[]=>none
 |a::l=>match l with
  |[]=>g1 a
  |b::l=>match l with
   |[]=>g2 a b
   |c::l=>match l with
    |[]=>g3 a b c
    |_::_=>none
noncomputable def no2 (_ _:D):Option D:=none
noncomputable def no3 (_ _ _:D):Option D:=none
noncomputable def JhD:D ->Option D
 | .lst l=>if l.length<=1000000 then some (.int l.length)else none
 | .str s=>if s.length<=1000000 then some (.int s.length)else none
 |_=>none
noncomputable def JhL:D ->Option D| .lst l=>(J5A 0 l).map .int|_=>none
noncomputable def Jiq (l:List D):Option D:=if l.isEmpty then none else if l.all JaS||l.all J4W then JB gtD l else none
noncomputable def JhE:D ->Option D| .lst l=>Jiq l|_=>none
noncomputable def J7T:D ->Option UInt64| .flt x=>some x|_=>none
noncomputable def fl3 (bt:D ->D ->Bool) (a b c:D):Option D:=(J7T a).bind λx=>(J7T b).bind λy=>(J7T c).bind λz=>JB bt [.flt x,.flt y,.flt z]
noncomputable def J46:D ->Option Int| .int x=>some x|_=>none
noncomputable def JhF (a b:D):Option D:=(J46 a).bind λx=>(J46 b).bind λy=>some (.int (if y<x then y else x))
noncomputable def Jed:D ->Option Str| .str x=>some x|_=>none
noncomputable def JhP:D ->Option String| .ty t=>some t|_=>none
noncomputable def JgM (a t:D):Option D:=(JhP t).bind λt=>(isI a t).map .bool
noncomputable def Jhw (a:D):Option D:=(J46 a).bind λi=>if decide (i<0)||decide (i>0x10FFFF)then none else some (.str (J9U i.toNat))
noncomputable def JhH:List Nat ->Option D|[c]=>some (.int c)|_=>none
noncomputable def JhI:D ->Option D| .str s=>JhH s.cps.toList|_=>none
noncomputable def JhK (a:D):Option D:=(J46 a).bind λi=>if decide (i.natAbs.log2<1920)then some (.str (Str.ofString (toString i)))else none
noncomputable def JeW:D ->Option D| .dct l=>if l.length<=1000000 then some (.dct l)else none|_=>none
noncomputable def JhO:D ->Option D| .lst l=>if l.length<=1000000 then some (.tup l)else none|_=>none
noncomputable def JhB (a:D):Option D:=(J7T a).bind λx=>match Float64.decode x with| .fin neg m e=>some (.int (Float64.truncOf neg m e))|_=>none
noncomputable def no1 (_:D):Option D:=none
noncomputable def bltFn:List (Str×(List D ->Option D)):=[(nm "len",Zi JhD no2 no3),(nm "sum",Zi JhL no2 no3),(nm "max",Zi JhE no2 (fl3 gtD)),(nm "min",Zi no1 JhF (fl3 ltD)),(nm "isinstance",Zi no1 JgM no3),
 (nm "chr",Zi Jhw no2 no3),(nm "ord",Zi JhI no2 no3),(nm "str",Zi JhK no2 no3),(nm "dict",Zi JeW no2 no3),(nm "tuple",Zi JhO no2 no3),(nm "int",Zi JhB no2 no3)]
theorem JT {β:Type} {l:List (Str×β)} {x:Str} {b:β} (h:l.lookup x=some b):(x,b)∈l:=by
 induction l with
 |nil=>exact nn h
 |cons p l ih=>
  rw[List.lookup_cons]at h
  cases e:x==p.1 with
  |true=>rw[e]at h;exact eq_of_beq e▸Option.some.inj h▸List.mem_cons_self
  |false=>rw[e]at h;exact List.mem_cons_of_mem _ (ih h)
noncomputable def J4 (f:Str) (as:List D):Option D:=(bltFn.lookup f).bind λg=>g as
noncomputable def ZE (s:Str) (as:List D):Option D:=(Jii as).bind λp=>(Jed p.1).bind λx=>(Jed p.2).bind λy=>if x==y then none else if s.length<=1000&&y.length<=10 then some (.str (Txt.replace s x y))else none
noncomputable def J1I (s:Str) (as:List D):Option D:=match as with
 |[.str x]=>(match Builtin.Str.occurrences s x 0 s.length 1 with|i::_=>some (.int i)|[]=>none)
 |[.str x,.int i]=>(match Builtin.Str.occurrences s x (fromIndex s.length i) s.length 1 with|i::_=>some (.int i)|[]=>none)
 |_=>none
noncomputable def ZO (s:Str) (as:List D):Option D:=match as with
 |[.str x]=>some (.int (Txt.count s x))
 |_=>none
noncomputable def J1K (s:Str) (as:List D):Option D:=match as with
 |[.lst l]=>(Kc l).bind λxs=>if JoinOk s xs then some (.str (Txt.join s xs))else none
 |_=>none
noncomputable def J8w (s:Str) (as:List D):Option D:=match as with
 |[]=>if s.length<=1000&&s.cps.all (· <128)then some (.str ⟨s.cps.map lo1⟩)else none
 |_=>none
noncomputable def JgJ (l:List (Key×D)) (as:List D):Option D:=match as with
 |[k]=>(Vb k).map λk=>(dget k l).getD .none
 |[k,d]=>(Vb k).map λk=>(dget k l).getD d
 |_=>none
noncomputable def strFn:List (Str×(Str ->List D ->Option D)):=[(nm "index",J1I),(nm "count",ZO),(nm "join",J1K),(nm "lower",J8w)]
set_option backward.match.sparseCases false in
noncomputable def JdL (o:D) (name:Str) (as:List D):Option D:=match o with
 | .str s=>(strFn.lookup name).bind λg=>g s as
 | .dct l=>if name==nm "get"then JgJ l as else none
 |_=>none
set_option backward.match.sparseCases false in
noncomputable def Jp (sc:Scope) (x:Str):Bool:=match sc.names.lookup x with
 |some .local|some .cell=>true
 |_=>false
mutual
noncomputable def bindT:Nat ->Scope ->Expr ->D ->Rho ->Option Rho
 |0,_,_,_,_=>none
 |n+1,sc,t,d,ρ=>match t with
  | .Name x _=>if Jp sc x then some (setR x (.val d) ρ)else none
  | .Tuple ts _ _=>match d with
   | .tup ds=>if ts.length==ds.length then bindTs n sc ts ds ρ else none
   |_=>none
  |_=>none
noncomputable def bindTs:Nat ->Scope ->List Expr ->List D ->Rho ->Option Rho
 |0,_,_,_,_=>none
 |n+1,sc,ts,ds,ρ=>match ts,ds with
  |t::ts,d::ds=>(bindT n sc t d ρ).bind (bindTs n sc ts ds)
  |_,_=>some ρ
end
mutual
noncomputable def tn:Expr ->List Str
 | .Name x _=>[x]
 | .Tuple ts _ _=>tns ts
 |_=>[]
noncomputable def tns:List Expr ->List Str
 |[]=>[]
 |t::ts=>tn t++tns ts
end
noncomputable def freshT (t:Expr) (ρ:Rho):Bool:=(tn t).all λx=>(ρ.lookup x).isNone
structure Lv where
 ev:Scope ->Rho ->Expr ->Option D
 ex:Scope ->Rho ->List Stmt ->Option (Rho×Fl)
noncomputable def evL (L:Lv) (sc:Scope) (ρ:Rho):List Expr ->Option (List D)
 |[]=>some []
 |e::r=>(L.ev sc ρ e).bind λd=>(evL L sc ρ r).bind λds=>some (d::ds)
noncomputable def zipD:List D ->List D ->List D
 |a::r,b::s=> .tup [a,b]::zipD r s
 |_,_=>[]
noncomputable def enumD:Nat ->List D ->List D
 |_,[]=>[]
 |k,a::r=> .tup [.int k,a]::enumD (k+1) r
noncomputable def drawn:D ->Option (List D)
 | .lst l=>some l
 | .str s=>some (chars s)
 |_=>none
set_option backward.match.sparseCases false in
noncomputable def VI:D ->Option (List D)
 | .lst l=>some l
 | .tup l=>some l
 | .str s=>some (chars s)
 |_=>none
set_option backward.match.sparseCases false in
noncomputable def Zb:Expr ->Bool
 | .Set .. =>false
 |_=>true
inductive ShI:Expr ->Type
 |cn (f:Str) (fp:Pos) (as:List Expr) (p:Pos):ShI (.Call (.Name f fp) as [] p)
 |ca (o:Str) (op:Pos) (name:Str) (apos pos:Pos):ShI (.Call (.Attribute (.Name o op) name apos) [] [] pos)
 |other (e:Expr):ShI e
noncomputable def shI (e:Expr):ShI e:=match e with
 | .Call (.Name f fp) as [] p=> .cn f fp as p
 | .Call (.Attribute (.Name o op) name apos) [] [] pos=> .ca o op name apos pos
 |e=> .other e
noncomputable def rg1:D ->Option (List D)
 | .int b=>Jn 0 b 1
 |_=>none
noncomputable def rg2 (d d':D):Option (List D):=match d with
 | .int x=>(match d' with| .int y=>Jn x y 1|_=>none)
 |_=>none
noncomputable def rg3 (d d' d'':D):Option (List D):=match d with
 | .int x=>(match d' with
  | .int y=>(match d'' with| .int z=>Jn x y z|_=>none)
  |_=>none)
 |_=>none
noncomputable def Jhg (x:List D):D ->Option (List D)
 | .lst y=>if x.length==y.length then some (zipD x y)else none
 |_=>none
noncomputable def Jar:D ->Option (List D)
 | .dct l=>if Jf l then some (l.map λkv=> .tup [dat kv.1,kv.2])else none
 |_=>none
noncomputable def J7J:D ->Option (List D)
 | .dct l=>some (l.map (·.2))
 |_=>none
noncomputable def itZ (L:Lv) (sc:Scope) (ρ:Rho) {e:Expr} (z:ShI e):Option (List D):=match z with
 | .cn f fp as p=>
  if isGlob sc f&&f==nm "enumerate"then(match as with|[a]=>(L.ev sc ρ a).bind λd=>(drawn d).map (enumD 0)|_=>none)
  else if isGlob sc f&&f==nm "zip"then(match as with|[a,b]=>(L.ev sc ρ a).bind λd=>(L.ev sc ρ b).bind λd'=>(drawn d).bind λx=>Jhg x d'|_=>none)
  else if isGlob sc f&&f==nm "range"then(match as with
   |[a]=>(L.ev sc ρ a).bind rg1
   |[a,b]=>(L.ev sc ρ a).bind λd=>(L.ev sc ρ b).bind (rg2 d)
   |[a,b,c]=>(L.ev sc ρ a).bind λd=>(L.ev sc ρ b).bind λd'=>(L.ev sc ρ c).bind (rg3 d d')
   |_=>none)
  else(L.ev sc ρ (.Call (.Name f fp) as [] p)).bind VI
 | .ca o op name apos pos=>
  if name==nm "items"then(if apos.endLine==pos.line then(L.ev sc ρ (.Name o op)).bind Jar else none)
  else if name==nm "values"then(if apos.endLine==pos.line then(L.ev sc ρ (.Name o op)).bind J7J else none)
  else(L.ev sc ρ (.Call (.Attribute (.Name o op) name apos) [] [] pos)).bind VI
 | .other e=>if Zb e then(L.ev sc ρ e).bind VI else none
noncomputable def itE (L:Lv) (sc:Scope) (ρ:Rho) (e:Expr):Option (List D):=itZ L sc ρ (shI e)
noncomputable def pairsSh (sc:Scope) {e:Expr} (z:ShI e):Bool:=match z with
 | .cn f _ _ _=>isGlob sc f&&(f==nm "enumerate"||f==nm "zip")
 | .ca _ _ name _ _=>name==nm "items"
 | .other _=>false
noncomputable def isPairs (sc:Scope) (e:Expr):Bool:=pairsSh sc (shI e)
noncomputable def okT (pairs:Bool):Expr ->Bool
 | .Name .. =>!pairs
 | .Tuple .. =>true
 |_=>false
noncomputable def J12 (L:Lv) (sc:Scope) (ρ:Rho) (e:Expr):Option D:=match e with
 | .Name x _=>if Jg sc x then(match ρ.lookup x with|some (.val d)=>some d|some (.mls l)=>some (.lst l)|some (.mdc l)=>some (.dct l)|none=>none)else L.ev sc ρ e
 |e=>L.ev sc ρ e
set_option backward.match.sparseCases false in
noncomputable def cmpE (L:Lv) (sc:Scope) (ρ:Rho) (l:Expr) (op:CmpOp) (r:Expr):Option Bool:=if behindInMarks op r then none else match op with
 | .In=>(L.ev sc ρ l).bind λa=>(J12 L sc ρ r).bind λb=>inD a b
 |_=>(L.ev sc ρ l).bind λa=>(L.ev sc ρ r).bind λb=>Kj op a b
set_option backward.match.sparseCases false in
noncomputable def trE1 (L:Lv) (sc:Scope) (ρ:Rho) (e:Expr):Option Bool:=match e with
 | .Compare l [op] [r] _=>cmpE L sc ρ l op r
 | .UnaryOp .. | .BoolOp .. | .IfExp .. | .Compare .. =>none
 |e=>(L.ev sc ρ e).bind truthy
set_option backward.match.sparseCases false in
noncomputable def trE (L:Lv) (sc:Scope) (ρ:Rho) (e:Expr):Option Bool:=match e with
 | .UnaryOp .Not x _=>(trE1 L sc ρ x).map (!·)
 | .BoolOp .And [a,b] _=>(trE1 L sc ρ a).bind λt=>if t then trE1 L sc ρ b else some false
 |e=>trE1 L sc ρ e
noncomputable def J5M (L:Lv) (sc:Scope) (ρ:Rho):List Expr ->Option Bool
 |[]=>some true
 |c::r=>(trE L sc ρ c).bind λt=>if t then J5M L sc ρ r else some false
noncomputable def J6 {α:Type} (f:D ->Option (List α)):List D ->Option (List α)
 |[]=>some []
 |d::r=>(f d).bind λxs=>(J6 f r).bind λys=>some (xs++ys)
noncomputable def Jd {α:Type} (L:Lv) (sc:Scope) (emit:Rho ->Option (List α)):List Comprehension ->List D ->Rho ->Option (List α)
 |[],_,_=>none
 |g::gs,items,ρ=>if freshT g.target ρ then J6 (λd=>(bindT 9 sc g.target d ρ).bind λρ'=>(J5M L sc ρ' g.ifs).bind λt=>if t then(match gs with
   |[]=>emit ρ'
   |h::_=>if okT (isPairs sc h.iter) h.target&&Zb h.iter then(itE L sc ρ' h.iter).bind λits=>Jd L sc emit gs its ρ' else none)else some []) items else none
noncomputable def YK {α:Type} (l:List α):Option (List α):=if l.length<=1000000 then some l else none
noncomputable def Js (sc csc:Scope) (ρ:Rho):Bool:=csc.kind== .function&&csc.names.all (λp=>match p.2 with
 | .free=>(match sc.names.lookup p.1 with|some .cell|some .free=>J9V p.1&&(ρ.lookup p.1).isSome&&csc.names.lookup p.1==some .free|_=>false)
 | .local=>csc.names.lookup p.1==some .local
 | .cell=>csc.names.lookup p.1==some .cell
 |_=>true)
set_option backward.match.sparseCases false in
noncomputable def J9W (sc:Scope) (ρ:Rho):Rho:=sc.names.filterMap λp=>match p.2,ρ.lookup p.1 with| .free,some (.val d)=>some (p.1,.val d)|_,_=>none
noncomputable def bindAll:List Str ->List D ->Rho
 |x::xs,d::ds=>(x,.val d)::bindAll xs ds
 |_,_=>[]
noncomputable def callF (L:Lv) (f:Fn) (as:List D):Option D:=
 if f.params.length==as.length then(L.ex f.scope (bindAll f.params as) f.body).bind λr=>J6J r.2 else none
set_option backward.match.sparseCases false in
noncomputable def KS (L:Lv) (sc:Scope) (ρ:Rho) (e:Expr):Option D:=match e with
 | .Constant (.str s) _ _=>some (.str s)
 | .Call (.Name f _) [a] [] _=>if isGlob sc f&&f==nm "chr"then(L.ev sc ρ a).bind λd=>J4 (nm "chr") [d]else none
 |_=>none
set_option backward.match.sparseCases false in
noncomputable def JO:Expr ->Bool
 | .Name .. | .Constant .. | .BinOp .. =>true
 |_=>false
noncomputable def evS (T:Top) (L:Lv) (sc:Scope) (ρ:Rho) (e:Expr):Option D:=match e with
 | .Constant c _ _=>(match c with| .none=>some .none| .bool b=>some (.bool b)| .int i=>some (.int i)| .float x=>some (.flt x)| .str s=>some (.str s)|_=>none)
 | .Name x _=>if Jg sc x then Jf5 ρ x
  else if isGlob sc x then(match T.data x with
   |some d=>some d
   |none=>if x==nm "tuple"then some (.ty "tuple")else if x==nm "float"then some (.ty "float")else if x==nm "bool"then some (.ty "bool")else none)
  else none
 | .BinOp l op r _=>(L.ev sc ρ l).bind λa=>(L.ev sc ρ r).bind λb=>binD op a b
 | .UnaryOp op x _=>(L.ev sc ρ x).bind (unD op)
 | .IfExp t b o _=>(trE L sc ρ t).bind λc=>if c then L.ev sc ρ b else L.ev sc ρ o
 | .List es _=>if es.length<=1000 then(evL L sc ρ es).map .lst else none
 | .Tuple es _ _=>if es.length<=1000 then(evL L sc ρ es).map .tup else none
 | .Dict [] [] _=>some (.dct [])
 | .ListComp elt (g::gs) csc _=>if Js sc csc ρ&&(g::gs).all (λg=>g.is_async==0)&&okT (isPairs sc g.iter) g.target&&Zb g.iter then(itE L sc ρ g.iter).bind λitems=>
   ((Jd L csc (λρ'=>(L.ev csc ρ' elt).map λd=>[d]) (g::gs) items (J9W csc ρ)).bind YK).map .lst else none
 | .DictComp k v [g] csc _=>if Js sc csc ρ&&g.is_async==0&&okT (isPairs sc g.iter) g.target&&Zb g.iter then(itE L sc ρ g.iter).bind λitems=>
   ((Jd L csc (λρ'=>(L.ev csc ρ' k).bind λa=>(Vb a).bind λa=>(L.ev csc ρ' v).map λd=>[(a,d)]) [g] items (J9W csc ρ)).bind YK).map λkvs=> .dct (kvs.foldl (λl kv=>JY kv.1 kv.2 l) [])else none
 | .Compare l [op] [r] _=>(cmpE L sc ρ l op r).map .bool
 | .Subscript v (.Slice lo hi none _) _=>
   (L.ev sc ρ v).bind λo=>(match lo with|none=>some none|some e=>(L.ev sc ρ e).map some).bind λa=>
    (match hi with|none=>some none|some e=>(L.ev sc ρ e).map some).bind λb=>JL o a b
 | .Subscript v i _=>(J12 L sc ρ v).bind λo=>(L.ev sc ρ i).bind λk=>itemD o k
 | .Attribute (.Name o p) name _=>if name==nm "comp_select_list"then(L.ev sc ρ (.Name o p)).bind λd=>(match d with| .obj x=>some x|_=>none)else none
 | .Call (.Name f _) as [] _=>
   if !isGlob sc f then none
   else if f==nm "TupleComp"then(match as with|[a]=>(L.ev sc ρ a).map .obj|_=>none)
   else if f==nm "list"then(match as with|[.Call (.Name g _) [a,b] [] _]=>if isGlob sc g&&g==nm "range"then(L.ev sc ρ a).bind λd=>(L.ev sc ρ b).bind λd'=>(match d,d' with| .int x,.int y=>(Jn x y 1).bind λl=>if l.length<=1000000 then some (.lst l)else none|_,_=>none)else none|_=>none)
   else(match T.fns f with
    |some fn=>(evL L sc ρ as).bind (callF L fn)
    |none=>(evL L sc ρ as).bind (J4 f))
 | .Call (.Attribute o name apos) as [] pos=>
   if !(apos.endLine==pos.line&&JO o&&decide (as.length<=4))then none
   else if name==nm "replace"then(match as with
    |[e1,e2]=>(L.ev sc ρ o).bind λd=>(L.ev sc ρ e1).bind λx=>(KS L sc ρ e2).bind λy=>(match d with| .str t=>ZE t [x,y]|_=>none)
    |_=>none)
   else(J12 L sc ρ o).bind λd=>(evL L sc ρ as).bind λds=>(match d with
    | .obj x=>if name==nm "compare"then T.cmp.bind λfn=>callF L fn (.obj x::ds)else none
    |d=>JdL d name ds)
 |_=>none
noncomputable def J8c (T:Top) (sc:Scope) (x:Str):Bool:=Jg sc x&&T.own.contains x
inductive ShNew:Expr ->Type
 |list (es:List Expr) (p:Pos):ShNew (.List es p)
 |dict (ks:List (Option Expr)) (vs:List Expr) (p:Pos):ShNew (.Dict ks vs p)
 |lcomp (e:Expr) (gs:List Comprehension) (sc:Scope) (p:Pos):ShNew (.ListComp e gs sc p)
 |mul (es:List Expr) (q:Pos) (r:Expr) (p:Pos):ShNew (.BinOp (.List es q) .Mult r p)
 |other (e:Expr):ShNew e
set_option backward.match.sparseCases false in
noncomputable def Je8 (e:Expr):ShNew e:=match e with
 | .List es p=> .list es p
 | .Dict ks vs p=> .dict ks vs p
 | .ListComp e gs sc p=> .lcomp e gs sc p
 | .BinOp (.List es q) .Mult r p=> .mul es q r p
 |e=> .other e
noncomputable def Jfw {e:Expr} (z:ShNew e):Bool:=match z with
 | .list .. =>true
 | .dict .. =>true
 | .lcomp .. =>true
 | .mul .. =>true
 | .other _=>false
noncomputable def JaR (e:Expr):Bool:=Jfw (Je8 e)
set_option backward.match.sparseCases false in
noncomputable def J3h:D ->Option Slot
 | .lst l=>some (.mls l)
 | .dct l=>some (.mdc l)
 |_=>none
noncomputable def VU (T:Top) (sc:Scope) (t e:Expr) (d:D):Option Slot:=match t with
 | .Name x _=>if J8c T sc x&&JaR e then J3h d else some (.val d)
 |_=>some (.val d)
noncomputable def Jk (T:Top) (sc:Scope):List Expr ->List Expr ->List D ->Rho ->Option Rho
 |[],es,ds,ρ=>if es.isEmpty&&ds.isEmpty then some ρ else none
 |t::ts,es,ds,ρ=>(J9D es).bind λe=>(J9D ds).bind λd=>(J8C t).bind λx=>if Jp sc x then(VU T sc t e.1 d.1).bind λs=>Jk T sc ts e.2 d.2 (setR x s ρ)else none
noncomputable def VV (l:List D) (i:D) (v:D):Option (List D):=match i with
 | .int i=>if 0<=i then(idx l.length i).map λk=>l.set k v else none
 |_=>none
noncomputable def loopX (f:D ->Rho ->Option (Rho×Fl)):List D ->Rho ->Option (Rho×Fl)
 |[],ρ=>some (ρ,.next)
 |d::r,ρ=>(f d ρ).bind λx=>match x.2 with
  | .ret v=>some (x.1,.ret v)
  |_=>loopX f r x.1
noncomputable def J91 (l:List D) (i:D):Option (D×List D):=match i with
 | .int i=>(idx l.length i).bind λk=>l[k]?.map λd=>(d,l.eraseIdx k)
 |_=>none
set_option backward.match.sparseCases false in
noncomputable def ZV:Stmt ->Nat
 | .Return _ p| .Assign _ _ p| .For _ _ _ _ p=>p.line
 |_=>0
mutual
noncomputable def J86 (T:Top) (x:Str):Stmt ->Bool
 | .Assign ts v p=>(T.frz (ZV (.Assign ts v p))).contains x||(tns ts).contains x
 | .For t i b o p=>(T.frz (ZV (.For t i b o p))).contains x||hasSts T x b
 | .If _ b o _=>(T.frz 0).contains x||hasSts T x b||hasSts T x o
 | .Return _ p=>(T.frz p.line).contains x
 | .AugAssign .. | .Expr .. | .Continue .. =>(T.frz 0).contains x
 |_=>true
noncomputable def hasSts (T:Top) (x:Str):List Stmt ->Bool
 |[]=>false
 |st::r=>J86 T x st||hasSts T x r
end
noncomputable def J56:Expr ->Bool
 | .Slice .. =>false
 |_=>true
noncomputable def JbY (ts es:List Expr):Bool:=!(es.all (constantsAlone 8))&&decide ((tns ts).Nodup)
inductive ShS:Stmt ->Type
 |app (x:Str) (xp:Pos) (name:Str) (apos:Pos) (e:Expr) (pos p:Pos):ShS (.Expr (.Call (.Attribute (.Name x xp) name apos) [e] [] pos) p)
 |asg (x:Str) (p:Pos) (e:Expr) (q:Pos):ShS (.Assign [.Name x p] e q)
 |pop (w:Str) (p1:Pos) (dr:Str) (p2:Pos) (k1:Nat) (p3:Pos) (l:Expr) (po:Str) (pp:Pos) (name:Str) (apos:Pos) (i:Expr) (cpos bp:Pos) (e2:Expr) (k2:Nat) (p4 q:Pos):
   ShS (.Assign [.Tuple [.Name w p1,.Name dr p2] k1 p3] (.Tuple [.BinOp l .Add (.Call (.Attribute (.Name po pp) name apos) [i] [] cpos) bp,e2] k2 p4) q)
 |tup (ts:List Expr) (k:Nat) (p:Pos) (es:List Expr) (k2:Nat) (p2 q:Pos):ShS (.Assign [.Tuple ts k p] (.Tuple es k2 p2) q)
 |tcall (ts:List Expr) (k:Nat) (p:Pos) (f:Str) (fp:Pos) (as:List Expr) (cp q:Pos):ShS (.Assign [.Tuple ts k p] (.Call (.Name f fp) as [] cp) q)
 |sub (x:Str) (xp:Pos) (i:Expr) (tp:Pos) (e:Expr) (q:Pos):ShS (.Assign [.Subscript (.Name x xp) i tp] e q)
 |augN (x:Str) (xp:Pos) (op:Operator) (e:Expr) (q:Pos):ShS (.AugAssign (.Name x xp) op e q)
 |augS (x:Str) (xp:Pos) (i:Expr) (tp:Pos) (op:Operator) (e:Expr) (q:Pos):ShS (.AugAssign (.Subscript (.Name x xp) i tp) op e q)
 |for (t it:Expr) (body:List Stmt) (q:Pos):ShS (.For t it body [] q)
 |if(t:Expr) (b o:List Stmt) (q:Pos):ShS (.If t b o q)
 |ret (e:Expr) (q:Pos):ShS (.Return (some e) q)
 |cont (q:Pos):ShS (.Continue q)
 |other (st:Stmt):ShS st
noncomputable def shS (st:Stmt):ShS st:=match st with
 | .Expr (.Call (.Attribute (.Name x xp) name apos) [e] [] pos) p=> .app x xp name apos e pos p
 | .Assign [.Name x p] e q=> .asg x p e q
 | .Assign [.Tuple [.Name w p1,.Name dr p2] k1 p3] (.Tuple [.BinOp l .Add (.Call (.Attribute (.Name po pp) name apos) [i] [] cpos) bp,e2] k2 p4) q=> .pop w p1 dr p2 k1 p3 l po pp name apos i cpos bp e2 k2 p4 q
 | .Assign [.Tuple ts k p] (.Tuple es k2 p2) q=> .tup ts k p es k2 p2 q
 | .Assign [.Tuple ts k p] (.Call (.Name f fp) as [] cp) q=> .tcall ts k p f fp as cp q
 | .Assign [.Subscript (.Name x xp) i tp] e q=> .sub x xp i tp e q
 | .AugAssign (.Name x xp) op e q=> .augN x xp op e q
 | .AugAssign (.Subscript (.Name x xp) i tp) op e q=> .augS x xp i tp op e q
 | .For t it body [] q=> .for t it body q
 | .If t b o q=> .if t b o q
 | .Return (some e) q=> .ret e q
 | .Continue q=> .cont q
 |st=> .other st
noncomputable def JaM:Slot ->Option D| .mls l=>some (.lst l)| .mdc l=>some (.dct l)| .val _=>none
noncomputable def J3a {β:Type} (u:Slot) (k v:D) (f:Slot ->β):Option β:=match u with
 | .mdc l=>(Vb k).bind λk=>if l.length<=1000000 then some (f (.mdc (JY k v l)))else none
 | .mls l=>(VV l k v).map λl'=>f (.mls l')
 | .val _=>none
noncomputable def addI (op:Operator) (a b:D):Option Int:=match op with
 | .Add=>(J46 a).bind λp=>(J46 b).map λq=>p+q
 |_=>none
noncomputable def J8q (T:Top) (sc:Scope) (ρ:Rho) (f:Str) (as:List Expr):Option (Str×Fn×List D):=(as.getLast?.bind J8C).bind λx=>(T.fns f).bind λfn=>if Jg sc x then(J1P (ρ.lookup x)).map λl=>(x,fn,l)else none
noncomputable def JgA (T:Top) (L:Lv) (sc:Scope) (ρ:Rho) {st:Stmt} (z:ShS st):Option (Rho×Fl):=match z with
 | .app x _ name apos e pos _=>if name==nm "append"&&Jg sc x&&apos.endLine==pos.line then(J1P (ρ.lookup x)).bind λl=>(L.ev sc ρ e).bind λd=>if l.length<=1000000 then some (setR x (.mls (l++[d])) ρ,.next)else none else none
 | .asg x p e _=>(L.ev sc ρ e).bind λd=>(VU T sc (.Name x p) e d).bind λs=>if Jp sc x then some (setR x s ρ,.next)else none
 | .pop w p1 dr p2 k1 p3 l po pp name apos i cpos bp e2 _ _ _=>
   if name==nm "pop"&&Jg sc po&&apos.endLine==cpos.line&&JbY [.Name w p1,.Name dr p2] [.BinOp l .Add (.Call (.Attribute (.Name po pp) name apos) [i] [] cpos) bp,e2]then(J1P (ρ.lookup po)).bind λpl=>(L.ev sc ρ l).bind λa=>(L.ev sc ρ i).bind λi=>(J91 pl i).bind λq=>(binD .Add a q.1).bind λv1=>
      (L.ev sc (setR po (.mls q.2) ρ) e2).bind λv2=>(bindT 9 sc (.Tuple [.Name w p1,.Name dr p2] k1 p3) (.tup [v1,v2]) (setR po (.mls q.2) ρ)).map λr=>(r,.next)else none
 | .tup ts _ _ es _ _ _=>if JbY ts es&&decide (es.length<=1000)then(evL L sc ρ es).bind λds=>(Jk T sc ts es ds ρ).map λr=>(r,.next)else none
 | .tcall ts k p f fp as cp _=>(match J8q T sc ρ f as with
   |some q=>(evL L sc ρ as.dropLast).bind λds=>if q.2.1.params.length==ds.length+1&&isGlob sc f&&Jg q.2.1.scope (q.2.1.params.getLastD q.1)&&!hasSts T (q.2.1.params.getLastD q.1) q.2.1.body then
     (L.ex q.2.1.scope (bindAll q.2.1.params ds++[(q.2.1.params.getLastD q.1,.mls q.2.2)]) q.2.1.body).bind λr=>(J6J r.2).bind λd=>(J1P (r.1.lookup (q.2.1.params.getLastD q.1))).bind λl'=>(bindT 9 sc (.Tuple ts k p) d (setR q.1 (.mls l') ρ)).map λr=>(r,.next)else none
   |none=>(L.ev sc ρ (.Call (.Name f fp) as [] cp)).bind λd=>(bindT 9 sc (.Tuple ts k p) d ρ).map λr=>(r,.next))
 | .sub x _ i _ e _=>(L.ev sc ρ e).bind λv=>(L.ev sc ρ i).bind λk=>if Jg sc x then(ρ.lookup x).bind λu=>J3a u k v λu=>(setR x u ρ,.next)else none
 | .augN x _ op e _=>if Jp sc x&&Jg sc x then(Jf5 ρ x).bind λa=>(L.ev sc ρ e).bind λb=>(addI op a b).map λz=>(setR x (.val (.int z)) ρ,.next)else none
 | .augS x _ i _ op e _=>if Jg sc x&&J56 i then(L.ev sc ρ i).bind λk=>(ρ.lookup x).bind λu=>(JaM u).bind λo=>(itemD o k).bind λa=>(L.ev sc ρ e).bind λb=>(addI op a b).bind λz=>J3a u k (.int z) λu=>(setR x u ρ,.next)else none
 | .for t it body _=>if !okT (isPairs sc it) t then none else(itE L sc ρ it).bind λitems=>loopX (λd ρ=>(bindT 9 sc t d ρ).bind λρ'=>L.ex sc ρ' body) items ρ
 | .if t b o _=>(trE L sc ρ t).bind λc=>if c then L.ex sc ρ b else L.ex sc ρ o
 | .ret e _=>(L.ev sc ρ e).map λd=>(ρ,.ret d)
 | .cont _=>some (ρ,.cont)
 | .other _=>none
noncomputable def JeZ (T:Top) (L:Lv) (sc:Scope) (ρ:Rho) (st:Stmt):Option (Rho×Fl):=JgA T L sc ρ (shS st)
noncomputable def exSs (T:Top) (L:Lv) (sc:Scope):List Stmt ->Rho ->Option (Rho×Fl)
 |[],ρ=>some (ρ,.next)
 |st::r,ρ=>(JeZ T L sc (frzAll (T.frz (ZV st)) ρ) st).bind λx=>match x.2 with
  | .next=>exSs T L sc r x.1
  |f=>some (x.1,f)
noncomputable def level (T:Top):Nat ->Lv
 |0=>⟨λ_ _ _=>none,λ_ _ _=>none⟩
 |n+1=>⟨evS T (level T n),λsc ρ b=>exSs T (level T n) sc b ρ⟩
noncomputable abbrev pw:Program:=PySem.Challenge.pw_xh0043_01
noncomputable def stm (i:Nat):Stmt:=(pw.main.body[i]?).getD (.Pass default)
set_option backward.match.sparseCases false in
noncomputable def Kk:Stmt ->Option Fn
 | .FunctionDef _ a b _ _ _ sc _ _ _=>some ⟨a.args.map (·.arg),b,sc⟩
 |_=>none
set_option backward.match.sparseCases false in
noncomputable def meth (i k:Nat):Option Fn:=match stm i with
 | .ClassDef _ _ _ b _ _ _ _ _ _ _=>(b[k]?).bind Kk
 |_=>none
noncomputable def b1:List Int:=[173,847,6150,6155,6156,6157,8203,8204,8205,8288,65279]++(List.range 16).map λ(k:Nat)=>(65024+k:Int)
set_option backward.match.sparseCases false in
noncomputable def Jin:Option Expr ->Expr ->Option (Key×D)
 |some (.Constant (.int i) _ _),.Constant (.str s) _ _=>some (.i i,.str s)
 |_,_=>none
noncomputable def J2P:List (Option Expr) ->List Expr ->List (Key×D)
 |k::ks,v::vs=>(match Jin k v with|some kv=>kv::J2P ks vs|none=>J2P ks vs)
 |_,_=>[]
set_option backward.match.sparseCases false in
noncomputable def b3:List (Key×D):=match stm 11 with
 | .Assign _ (.Dict ks vs _) _=>J2P ks vs
 |_=>[]
noncomputable def J3T:List (Str×Nat):=[(nm "add_callers",2),(nm "count_calls",3),(nm "rgb_to_hls",5),(nm "rgb_to_hsv",6),(nm "hsv_to_rgb",7),(nm "in_table_b1",10),(nm "map_table_b3",12),
 (nm "_law_typed",14),(nm "_law_paints",15),(nm "_law_round",16)]
noncomputable def Jdd (n:Nat):List Str:=match n with
 |28=>[nm "new_callers"]
 |122=>[nm "typed"]
 |139=>[nm "rows",nm "plain"]
 |146=>[nm "cells"]
 |168=>[nm "fall"]
 |192=>[nm "behind"]
 |198=>[nm "left",nm "right"]
 |206=>[nm "notes"]
 |_=>[]
noncomputable def theTop:Top where
 fns:=λx=>(J3T.lookup x).bind λi=>Kk (stm i)
 cmp:=meth 1 1
 data:=λx=>if x==nm "b1_set"then some (.iset b1)else if x==nm "b3_exceptions"then some (.dct b3)else none
 own:=[nm "cells",nm "pool",nm "typed",nm "notes",nm "rows",nm "plain",nm "fall",nm "behind",nm "left",nm "right",nm "new_callers"]
 frz:=Jdd
noncomputable def J4a:Fn:=(Kk (stm 17)).getD ⟨[],[],pw.main.scope⟩
end
section
set_option autoImplicit false
open Sem (wp)
theorem VT {M:Model} {Γ:Ctx} {p:Pos} {t:Sem Fin} {fs:List Frame} {s:Shared} {e:End} {s':Shared} (h:Runs M Γ p t fs s e s'):s.toks<=s'.toks:=by
 induction h with
 |done=>exact Nat.le_refl _
 |raise=>exact Nat.le_refl _
 |again _ _ ih=>exact ih
 |rule _ ih=>exact ih
 |«at» _ ih=>exact ih
 |load _ _ ih=>exact ih
 |update _ _ ih=>exact ih
 |loadIfAlive _ ih=>exact ih
 |point _ ih=>exact ih
 |alloc _ ih=>exact ih
 |fresh _ ih=>exact Nat.le_trans (Nat.le_succ _) ih
 |ask _ ih=>exact ih
 |choose _ _ ih=>exact ih
 |os _ ih=>exact ih
 |handled _ ih=>exact ih
 |genState _ _ ih=>exact ih
 |stack _ ih=>exact ih
 |thread _ ih=>exact ih
 |newGen _ ih=>exact ih
 |call _ _ i1 i2=>exact Nat.le_trans i1 i2
 |callSusp _ ih=>exact ih
 |yield=>exact Nat.le_refl _
 |resumeFresh _ _ _ _ i1 i2=>exact Nat.le_trans i1 i2
 |resumeSuspended _ _ _ _ i1 i2=>exact Nat.le_trans i1 i2
 |resumeJustStarted _ _ _ ih=>exact ih
 |resumeThrowFresh _ _ ih=>exact ih
 |resumeRunning _ _ ih=>exact ih
 |resumeFinished _ _ ih=>exact ih
 |segRet _ _ i1 i2=>exact Nat.le_trans i1 i2
 |segGen _ _ i1 i2=>exact Nat.le_trans i1 i2
 |segSuspOut _ _ ih=>exact ih
 |segSuspGen _ _ _ _ i1 i2=>exact Nat.le_trans i1 i2
theorem J70 {M:Model} {Γ:Ctx} {p:Pos} {g:Nat} {r:Resume} {s:Shared} {res:GenResult} {s':Shared} (h:Wakes M Γ p g r s res s'):s.toks<=s'.toks:=by
 unfold Wakes at h
 generalize s.gens[g]?=z at h
 cases z with
 |none=>exact h.elim
 |some z=>cases z with
  |fresh c=>cases r with
   |send v=>cases v with
    |none=>exact o23 h λe s1 h1 _ _ q=>by have z:=VT h1;rw[q];exact z
    |_=>exact h.2▸Nat.le_refl _
   |throw x=>exact h.2▸Nat.le_refl s.toks
  |suspended=>exact o23 h λe s1 h1 _ _ q=>by have z:=VT h1;rw[q];exact z
  |running=>exact h.2▸Nat.le_refl _
  |finished=>exact h.2▸Nat.le_refl _
theorem Jhf {α:Type} {M:Model} {Γ:Ctx} {n:Nat} (t:Sem α): ∀(Q:α ->Pos ->Shared ->Prop) (E:Value ->Pos ->Shared ->Prop) (p:Pos) (s:Shared),n<=s.toks ->wp M Γ t Q E p s ->
  wp M Γ t (λa p s'=>Q a p s'/\ n<=s'.toks) (λa p s'=>E a p s'/\ n<=s'.toks) p s:=by
 induction t with
 |pure a=>intro Q E p s hn h;exact⟨h,hn⟩
 |raise e=>intro Q E p s hn h;exact⟨h,hn⟩
 |unsupported _=>intro Q E p s hn h;exact h.elim
 |finish _=>intro Q E p s hn h;exact h.elim
 |rule tag k ih=>intro Q E p s hn h;exact ih () Q E p s hn h
 |«at» p₀ k ih=>intro Q E p s hn h;exact ih () Q E p₀ s hn h
 |load a part k ih=>intro Q E p s hn h;obtain⟨o,ho,h⟩:=h;exact⟨o,ho,ih o Q E p s hn h⟩
 |update a part f k ih=>intro Q E p s hn h;obtain⟨ha,h⟩:=h;exact⟨ha,ih () Q E p _ hn h⟩
 |loadIfAlive a k ih=>intro Q E p s hn h;exact ih _ Q E p s hn h
 |point l k ih=>intro Q E p s hn h;exact ih () Q E p s hn h
 |register a k _=>intro Q E p s hn h;exact h.elim
 |alloc o k ih=>intro Q E p s hn h;exact ih _ Q E p _ hn h
 |fresh k ih=>intro Q E p s hn h;exact ih _ Q E p _ (Nat.le_trans hn (Nat.le_succ _)) h
 |ask k ih=>intro Q E p s hn h;exact ih _ Q E p s hn h
 |choose src n k ih=>intro Q E p s hn h;obtain⟨h0,h⟩:=h;exact⟨h0,ih _ Q E p _ hn h⟩
 |os q l k ih=>intro Q E p s hn h;exact ih _ Q E p _ hn h
 |call c h₀ g l k ih=>
  intro Q E p s hn h
  obtain⟨r,s₁,hr,h⟩:=h
  exact⟨r,s₁,hr,ih r Q E p s₁ (Nat.le_trans hn (VT hr)) h⟩
 |handled own k ih=>intro Q E p s hn h;exact ih _ Q E p s hn h
 |genState g k ih=>intro Q E p s hn h;obtain⟨x,hg,h⟩:=h;exact⟨x,hg,ih _ Q E p s hn h⟩
 |newGen c k ih=>intro Q E p s hn h;exact ih _ Q E p _ hn h
 |resume g r l k ih=>
  intro Q E p s hn h
  obtain⟨res,s₁,hw,h⟩:=h
  exact⟨res,s₁,hw,ih res Q E p s₁ (Nat.le_trans hn (J70 hw)) h⟩
 |yield v g l k _=>intro Q E p s hn h;exact h.elim
 |stack k ih=>intro Q E p s hn h;exact ih _ Q E p s hn h
 |fork c k _=>intro Q E p s hn h;exact h.elim
 |thread k ih=>intro Q E p s hn h;exact ih _ Q E p s hn h
 |await a f d l k _=>intro Q E p s hn h;exact h.elim
theorem up {α:Type} {M:Model} {A:Around} {t:Sem α} {Q Q':α ->Shared ->Prop} {E:Value ->Shared ->Prop} {s:Shared} (h:wpAny M A t Q E s) (hq: ∀a s',s.toks<=s'.toks ->Q a s' ->Q' a s'):
  wpAny M A t Q' E s:=λΓ p hΓ=>
 Sem.wp_mono M Γ t (λa _ s' x=>hq a s' x.2 x.1) (λ_ _ _ x=>x.1) p s (Jhf t _ _ p s (Nat.le_refl _) (h Γ p hΓ))
end
section
set_option autoImplicit false
section
noncomputable def mixIs:Key ->Value ->Bool
 | .i k,v=>Value.isInt k v
 | .s x,v=>Value.isStrOf x v
set_option tactic.hygienic true in
theorem VN (v:Value) (a b:Key) (ha:mixIs a v=true) (hb:mixIs b v=true):a=b:=by
 cases a<;>cases b
 ·rename_i x y;rw[Value.isInt_inj v x y ha hb]
 ·obtain⟨t,rfl⟩:=Value.isInt_shape ha;cases hb
 ·obtain⟨t,rfl⟩:=Value.isStrOf_shape ha;cases hb
 ·rename_i x y;rw[Value.isStrOf_inj v x y ha hb]
set_option tactic.hygienic true in
noncomputable def mixKind (prog:Program) (w:World):KeyKind prog w Key where
 is:=mixIs
 hash:=λk=>match k with| .i k=>hashInt k| .s x=>hashStr w x
 inj:=VN
 byValue:=λk v h=>by
  cases k
  ·obtain⟨t,rfl⟩:=Value.isInt_shape h;rfl
  ·obtain⟨t,rfl⟩:=Value.isStrOf_shape h;rfl
 pyHash:=λ{A E s k v Q} hv h=>by
  cases k
  ·obtain⟨t,rfl⟩:=Value.isInt_shape hv;exact wpAny_pyHash_int h
  ·obtain⟨t,rfl⟩:=Value.isStrOf_shape hv;exact wpAny_pyHash_str h
 eqBool:=λ{A E s a b u v Q} hu hv h=>by
  cases a<;>cases b
  ·obtain⟨t,rfl⟩:=Value.isInt_shape hu
   obtain⟨t',rfl⟩:=Value.isInt_shape hv
   refine wpAny_eqBool_int ?_
   rename_i x y
   have e:decide (Key.i x=Key.i y)=(x==y):=by
    by_cases q:x=y
    ·clear h hv;subst q;simp
    ·rw[decide_eq_false (by intro z;injection z;contradiction),beq_eq_false_iff_ne.mpr q]
   rw[<-e];exact h
  ·obtain⟨t,rfl⟩:=Value.isInt_shape hu
   obtain⟨t',rfl⟩:=Value.isStrOf_shape hv
   rename_i x y
   show wpAny _ _ (richCompare .Eq (.int x t) (.str y t')>>=truthOfDropped) Q E s
   exact wpAny_bind (EqMixed.eq_int_str (wpAny_truthy_bool (by
    have e:decide (Key.i x=Key.s y)=false:=decide_eq_false (by intro z;cases z)
    rw[<-e];exact h)))
  ·obtain⟨t,rfl⟩:=Value.isStrOf_shape hu
   obtain⟨t',rfl⟩:=Value.isInt_shape hv
   rename_i x y
   show wpAny _ _ (richCompare .Eq (.str x t) (.int y t')>>=truthOfDropped) Q E s
   exact wpAny_bind (EqMixed.eq_str_int (wpAny_truthy_bool (by
    have e:decide (Key.s x=Key.i y)=false:=decide_eq_false (by intro z;cases z)
    rw[<-e];exact h)))
  ·obtain⟨t,rfl⟩:=Value.isStrOf_shape hu
   obtain⟨t',rfl⟩:=Value.isStrOf_shape hv
   refine wpAny_eqBool_str ?_
   rename_i x y
   have e:decide (Key.s x=Key.s y)=decide (x=y):=by
    by_cases q:x=y
    ·clear h hv;subst q;simp
    ·rw[decide_eq_false (by intro z;injection z;contradiction),decide_eq_false q]
   rw[<-e];exact h
 «strs»:=λk x t v h=>by
  cases k
  ·cases h
  ·rename_i y
   have e:x=y:=by have:=h;simp[mixIs,Value.isStrOf]at this;exact this
   clear h;subst e
   cases v<;>rfl
noncomputable abbrev clsA:Addr:=38
noncomputable def LsAt (h:Heap) (a:Addr) (vs:List Value):Prop:= ∃n,h.get? a=some {cls:= .type "list",data:= .seq vs.toArray n}
noncomputable def TpAt (h:Heap) (a:Addr) (vs:List Value):Prop:= ∃n,h.get? a=some {cls:= .type "tuple",data:= .seq vs.toArray n}
noncomputable def DcAt (w:World) (h:Heap) (a:Addr) (kvs:List (Key×Value)):Prop:=h.DictOf (mixKind pw w) a kvs/\ (a==sysModules)=false
noncomputable def ObAt (h:Heap) (ms:List Addr) (x:Addr) (v:Value):Prop:=
 ∃mA o d,h.get? x=some o/\ o.cls= .ref clsA/\ (∀c,o.data≠ .cls c)/\ o.dict=some d/\ d≠x/\ h.Ns1 d mA/\ x∉ms/\ d∉ms/\ x≠clsA/\
  mA (nm "comp_select_list")=some v/\ mA (nm "compare")=none
noncomputable def J11 (w:World) (h:Heap) (a:Addr) (l:List Int):Prop:= ∃n,h.SetOf (intKind pw w) a (λk=>l.contains k) n
theorem LsAt.isList {h:Heap} {a:Addr} {vs:List Value} (x:LsAt h a vs):h.IsList a vs.toArray:=o10 x λn e=>⟨_,e,rfl,n,rfl⟩
theorem TpAt.isTuple {h:Heap} {a:Addr} {vs:List Value} (x:TpAt h a vs):h.IsTuple a vs.toArray:=o10 x λn e=>⟨_,e,rfl,n,rfl⟩
section
variable (w:World) (s:Shared) (ms:List Addr)
mutual
inductive Rep:Value ->D ->Prop
 |none:Rep .none .none
 |bool (b:Bool):Rep (.bool b) (.bool b)
 |int (i:Int) (t:Tok):Rep (.int i t) (.int i)
 |flt (x:UInt64) (t:Tok) (ht:t≠0):Rep (.float x t) (.flt x)
 |str (x:Str) (t:Tok) (ht:t≠0) (hb:t<s.toks):Rep (.str x t) (.str x)
 |ty (n:String):Rep (.type n) (.ty n)
 |tup {a:Addr} {vs:List Value} {ds:List D}:TpAt s.heap a vs ->a∉ms ->RepL vs ds ->Rep (.ref a) (.tup ds)
 |lst {a:Addr} {vs:List Value} {ds:List D}:LsAt s.heap a vs ->a∉ms ->RepL vs ds ->Rep (.ref a) (.lst ds)
 |dct {a:Addr} {kvs:List (Key×Value)} {ds:List (Key×D)}:DcAt w s.heap a kvs ->a∉ms ->RepK kvs ds ->Rep (.ref a) (.dct ds)
 |obj {a:Addr} {v:Value} {d:D}:ObAt s.heap ms a v ->Rep v d ->Rep (.ref a) (.obj d)
 |iset {a:Addr} {l:List Int}:J11 w s.heap a l ->a∉ms ->Rep (.ref a) (.iset l)
inductive RepL:List Value ->List D ->Prop
 |nil:RepL [] []
 |cons {v:Value} {d:D} {vs:List Value} {ds:List D}:Rep v d ->RepL vs ds ->RepL (v::vs) (d::ds)
inductive RepK:List (Key×Value) ->List (Key×D) ->Prop
 |nil:RepK [] []
 |cons {k:Key} {v:Value} {d:D} {vs:List (Key×Value)} {ds:List (Key×D)}:Rep v d ->RepK vs ds ->RepK ((k,v)::vs) ((k,d)::ds)
end
end
section
variable {w:World} {s s':Shared} {ms ms':List Addr}
structure Past (s:Shared) (ms:List Addr) (s':Shared) (ms':List Addr):Prop where
 t:s.toks<=s'.toks
 h: ∀b o,s.heap.get? b=some o ->b∉ms ->s'.heap.get? b=some o/\ b∉ms'
theorem Past.refl:Past s ms s ms:=⟨Nat.le_refl _,λ_ _ e n=>⟨e,n⟩⟩
theorem Past.keeps (ht:s.toks<=s'.toks) (hk: ∀b o,s.heap.get? b=some o ->s'.heap.get? b=some o):Past s ms s' ms:=⟨ht,λb o e n=>⟨hk b o e,n⟩⟩
theorem Jfx {h h':Heap} {a:Addr} {m:Str ->Option Value} (hn:h.Ns1 a m) (e: ∀o,h.get? a=some o ->h'.get? a=some o):h'.Ns1 a m:=by
 refine o33 hn λod es ep e1 e2 e3 e4=>?_;clear hn
 exact⟨od,es,ep,e od e1,e2,e3,e4⟩
theorem ObAt.past (p:Past s ms s' ms') {x:Addr} {v:Value} (y:ObAt s.heap ms x v):ObAt s'.heap ms' x v:=by
 refine o3a y λmA o d e1 e2 e3 e4 e5 e6 e7 e8 e9 e10 e11=>?_;clear y
 have q: ∃o,s.heap.get? d=some o:=o31 e6 λod _ _ e1 _=>⟨od,e1⟩
 obtain⟨od,q⟩:=q
 exact⟨mA,o,d,(p.h x o e1 e7).1,e2,e3,e4,e5,Jfx e6 (λo e=>(p.h d o e e8).1),(p.h x o e1 e7).2,(p.h d od q e8).2,e9,e10,e11⟩
noncomputable def Jhh (w:World) (s:Shared) (ms:List Addr) (v:Value):D ->Prop
 | .none=>v= .none
 | .bool b=>v= .bool b
 | .int i=> ∃t,v= .int i t
 | .flt x=> ∃t,v= .float x t/\ t≠0
 | .str x=> ∃t,v= .str x t/\ t≠0/\ t<s.toks
 | .ty n=>v= .type n
 | .tup l=> ∃a vs,v= .ref a/\ TpAt s.heap a vs/\ a∉ms/\ RepL w s ms vs l
 | .lst l=> ∃a vs,v= .ref a/\ LsAt s.heap a vs/\ a∉ms/\ RepL w s ms vs l
 | .dct l=> ∃a kvs,v= .ref a/\ DcAt w s.heap a kvs/\ a∉ms/\ RepK w s ms kvs l
 | .obj d=> ∃a u,v= .ref a/\ ObAt s.heap ms a u/\ Rep w s ms u d
 | .iset l=> ∃a,v= .ref a/\ J11 w s.heap a l/\ a∉ms
theorem Rep.inv {v:Value} {d:D} (r:Rep w s ms v d):Jhh w s ms v d:=
 Rep.casesOn (motive_1:=λv d _=>Jhh w s ms v d) r rfl (λ_=>rfl) (λ_ t=>⟨t,rfl⟩) (λ_ t h=>⟨t,rfl,h⟩) (λ_ t h h'=>⟨t,rfl,h,h'⟩) (λ_=>rfl)
  (λx y z=>⟨_,_,rfl,x,y,z⟩) (λx y z=>⟨_,_,rfl,x,y,z⟩) (λx y z=>⟨_,_,rfl,x,y,z⟩) (λx y=>⟨_,_,rfl,x,y⟩) (λx y=>⟨_,rfl,x,y⟩)
theorem Rep.iI {v:Value} {i:Int} (r:Rep w s ms v (.int i)): ∃t,v= .int i t:=r.inv
theorem Rep.bI {v:Value} {b:Bool} (r:Rep w s ms v (.bool b)):v= .bool b:=r.inv
theorem Rep.nI {v:Value} (r:Rep w s ms v .none):v= .none:=r.inv
theorem Rep.fI {v:Value} {x:UInt64} (r:Rep w s ms v (.flt x)): ∃t,v= .float x t/\ t≠0:=r.inv
theorem Rep.sI {v:Value} {x:Str} (r:Rep w s ms v (.str x)): ∃t,v= .str x t/\ t≠0/\ t<s.toks:=r.inv
theorem Rep.yI {v:Value} {n:String} (r:Rep w s ms v (.ty n)):v= .type n:=r.inv
theorem Rep.tI {v:Value} {l:List D} (r:Rep w s ms v (.tup l)): ∃a vs,v= .ref a/\ TpAt s.heap a vs/\ a∉ms/\ RepL w s ms vs l:=r.inv
theorem Rep.lI {v:Value} {l:List D} (r:Rep w s ms v (.lst l)): ∃a vs,v= .ref a/\ LsAt s.heap a vs/\ a∉ms/\ RepL w s ms vs l:=r.inv
theorem Rep.dI {v:Value} {l:List (Key×D)} (r:Rep w s ms v (.dct l)): ∃a kvs,v= .ref a/\ DcAt w s.heap a kvs/\ a∉ms/\ RepK w s ms kvs l:=r.inv
theorem Rep.oI {v:Value} {d:D} (r:Rep w s ms v (.obj d)): ∃a u,v= .ref a/\ ObAt s.heap ms a u/\ Rep w s ms u d:=r.inv
theorem Rep.zI {v:Value} {l:List Int} (r:Rep w s ms v (.iset l)): ∃a,v= .ref a/\ J11 w s.heap a l/\ a∉ms:=r.inv
@[elab_as_elim] theorem Rep.bE {P:Value ->Prop} {v:Value} {b:Bool} (r:Rep w s ms v (.bool b)) (k:P (.bool b)):P v:=r.bI▸k
@[elab_as_elim] theorem Rep.nE {P:Value ->Prop} {v:Value} (r:Rep w s ms v .none) (k:P .none):P v:=r.nI▸k
@[elab_as_elim] theorem Rep.iE {P:Value ->Prop} {v:Value} {i:Int} (r:Rep w s ms v (.int i)) (k: ∀t,P (.int i t)):P v:=o10 r.iI λt e=>e▸k t
@[elab_as_elim] theorem Rep.fE {P:Value ->Prop} {v:Value} {x:UInt64} (r:Rep w s ms v (.flt x)) (k: ∀t,t≠0 ->P (.float x t)):P v:=o11 r.fI λt e h=>e▸k t h
@[elab_as_elim] theorem Rep.sE {P:Value ->Prop} {v:Value} {x:Str} (r:Rep w s ms v (.str x)) (k: ∀t,t≠0 ->t<s.toks ->P (.str x t)):P v:=o12 r.sI λt e h h'=>e▸k t h h'
@[elab_as_elim] theorem Rep.tE {P:Value ->Prop} {v:Value} {l:List D} (r:Rep w s ms v (.tup l)) (k: ∀a vs,TpAt s.heap a vs ->a∉ms ->RepL w s ms vs l ->P (.ref a)):P v:=o23 r.tI λa vs e h1 h2 h3=>e▸k a vs h1 h2 h3
@[elab_as_elim] theorem Rep.lE {P:Value ->Prop} {v:Value} {l:List D} (r:Rep w s ms v (.lst l)) (k: ∀a vs,LsAt s.heap a vs ->a∉ms ->RepL w s ms vs l ->P (.ref a)):P v:=o23 r.lI λa vs e h1 h2 h3=>e▸k a vs h1 h2 h3
@[elab_as_elim] theorem Rep.dE {P:Value ->Prop} {v:Value} {l:List (Key×D)} (r:Rep w s ms v (.dct l)) (k: ∀a kvs,DcAt w s.heap a kvs ->a∉ms ->RepK w s ms kvs l ->P (.ref a)):P v:=o23 r.dI λa vs e h1 h2 h3=>e▸k a vs h1 h2 h3
@[elab_as_elim] theorem Rep.oE {P:Value ->Prop} {v:Value} {d:D} (r:Rep w s ms v (.obj d)) (k: ∀a u,ObAt s.heap ms a u ->Rep w s ms u d ->P (.ref a)):P v:=o22 r.oI λa u e h1 h2=>e▸k a u h1 h2
theorem LsAt.past (p:Past s ms s' ms') {a:Addr} {vs:List Value} (x:LsAt s.heap a vs) (y:a∉ms):LsAt s'.heap a vs/\ a∉ms':=o10 x λn e=>⟨⟨n,(p.h _ _ e y).1⟩,(p.h _ _ e y).2⟩
theorem TpAt.past (p:Past s ms s' ms') {a:Addr} {vs:List Value} (x:TpAt s.heap a vs) (y:a∉ms):TpAt s'.heap a vs/\ a∉ms':=o10 x λn e=>⟨⟨n,(p.h _ _ e y).1⟩,(p.h _ _ e y).2⟩
theorem DcAt.past (p:Past s ms s' ms') {a:Addr} {kvs:List (Key×Value)} (x:DcAt w s.heap a kvs) (y:a∉ms):DcAt w s'.heap a kvs/\ a∉ms':=o31 x.1 λo es ep ho r=>⟨⟨⟨o,es,ep,(p.h _ o ho y).1,r⟩,x.2⟩,(p.h _ o ho y).2⟩
theorem J11.past (p:Past s ms s' ms') {a:Addr} {l:List Int} (x:J11 w s.heap a l) (y:a∉ms):J11 w s'.heap a l/\ a∉ms':=o50 x λn o es ep t h=>o01 h λho r=>⟨⟨n,o,es,ep,t,(p.h _ o ho y).1,r⟩,(p.h _ o ho y).2⟩
theorem RepL.ind {P:List Value ->List D ->Prop} (n:P [] []) (c: ∀v d vs ds,Rep w s ms v d ->RepL w s ms vs ds ->P vs ds ->P (v::vs) (d::ds)) {vs:List Value} {ds:List D} (r:RepL w s ms vs ds):P vs ds:=
 RepL.rec (motive_1:=λ_ _ _=>True) (motive_2:=λvs ds _=>P vs ds) (motive_3:=λ_ _ _=>True) ⟨⟩ (λ_=>⟨⟩) (λ_ _=>⟨⟩) (λ_ _ _=>⟨⟩) (λ_ _ _ _=>⟨⟩) (λ_=>⟨⟩) (λ_ _ _ _=>⟨⟩) (λ_ _ _ _=>⟨⟩) (λ_ _ _ _=>⟨⟩) (λ_ _ _=>⟨⟩) (λ_ _=>⟨⟩) n (λx y _ z=>c _ _ _ _ x y z) ⟨⟩ (λ_ _ _ _=>⟨⟩) r
noncomputable def JeH (w:World) (s:Shared) (ms:List Addr):List Value ->List D ->Prop
 |[],[]=>True
 |v::vs,d::ds=>Rep w s ms v d/\ RepL w s ms vs ds
 |_,_=>False
theorem RepL.inv {vs:List Value} {ds:List D} (r:RepL w s ms vs ds):JeH w s ms vs ds:=RepL.casesOn (motive_2:=λv d _=>JeH w s ms v d) r ⟨⟩ λx y=>⟨x,y⟩
noncomputable def JeG (w:World) (s:Shared) (ms:List Addr):List (Key×Value) ->List (Key×D) ->Prop
 |[],[]=>True
 |v::vs,d::ds=>v.1=d.1/\ Rep w s ms v.2 d.2/\ RepK w s ms vs ds
 |_,_=>False
theorem RepK.inv {vs:List (Key×Value)} {ds:List (Key×D)} (r:RepK w s ms vs ds):JeG w s ms vs ds:=RepK.casesOn (motive_3:=λv d _=>JeG w s ms v d) r ⟨⟩ λx y=>⟨rfl,x,y⟩
theorem RepK.ind {P:List (Key×Value) ->List (Key×D) ->Prop} (n:P [] []) (c: ∀k v d vs ds,Rep w s ms v d ->RepK w s ms vs ds ->P vs ds ->P ((k,v)::vs) ((k,d)::ds)) {vs:List (Key×Value)} {ds:List (Key×D)} (r:RepK w s ms vs ds):P vs ds:=
 RepK.rec (motive_1:=λ_ _ _=>True) (motive_2:=λ_ _ _=>True) (motive_3:=λvs ds _=>P vs ds) ⟨⟩ (λ_=>⟨⟩) (λ_ _=>⟨⟩) (λ_ _ _=>⟨⟩) (λ_ _ _ _=>⟨⟩) (λ_=>⟨⟩) (λ_ _ _ _=>⟨⟩) (λ_ _ _ _=>⟨⟩) (λ_ _ _ _=>⟨⟩) (λ_ _ _=>⟨⟩) (λ_ _=>⟨⟩) ⟨⟩ (λ_ _ _ _=>⟨⟩) n (λx y _ z=>c _ _ _ _ _ x y z) r
theorem Rep.past (p:Past s ms s' ms') {v:Value} {d:D} (r:Rep w s ms v d):Rep w s' ms' v d:=
 Rep.rec (motive_1:=λv d _=>Rep w s' ms' v d) (motive_2:=λv d _=>RepL w s' ms' v d) (motive_3:=λv d _=>RepK w s' ms' v d) .none .bool .int .flt (λx t ht hb=> .str x t ht (Nat.lt_of_lt_of_le hb p.t)) .ty
  (λx y _ z=> .tup (x.past p y).1 (x.past p y).2 z) (λx y _ z=> .lst (x.past p y).1 (x.past p y).2 z) (λx y _ z=> .dct (x.past p y).1 (x.past p y).2 z) (λx _ z=> .obj (x.past p) z) (λx y=> .iset (x.past p y).1 (x.past p y).2)
  .nil (λ_ _ x y=> .cons x y) .nil (λ_ _ x y=> .cons x y) r
theorem RepL.past (p:Past s ms s' ms') {vs:List Value} {ds:List D} (r:RepL w s ms vs ds):RepL w s' ms' vs ds:=r.ind .nil λ_ _ _ _ x _ z=> .cons (x.past p) z
theorem RepK.past (p:Past s ms s' ms') {vs:List (Key×Value)} {ds:List (Key×D)} (r:RepK w s ms vs ds):RepK w s' ms' vs ds:=r.ind .nil λ_ _ _ _ _ x _ z=> .cons (x.past p) z
theorem RepL.length {vs:List Value} {ds:List D} (r:RepL w s ms vs ds):vs.length=ds.length:=r.ind (P:=λv d=>v.length=d.length) rfl λ_ _ _ _ _ _ z=>congrArg (· +1) z
theorem RepK.length {vs:List (Key×Value)} {ds:List (Key×D)} (r:RepK w s ms vs ds):vs.length=ds.length:=r.ind (P:=λv d=>v.length=d.length) rfl λ_ _ _ _ _ _ _ z=>congrArg (· +1) z
theorem RepL.append {vs:List Value} {ds:List D} {vs':List Value} {ds':List D} (r:RepL w s ms vs ds) (z:RepL w s ms vs' ds'):RepL w s ms (vs++vs') (ds++ds'):=r.ind (P:=λv d=>RepL w s ms (v++vs') (d++ds')) z λ_ _ _ _ x _ y=> .cons x y
theorem RepL.get {vs:List Value} {ds:List D} {k:Nat} {d:D} (r:RepL w s ms vs ds):ds[k]?=some d -> ∃v,vs[k]?=some v/\ Rep w s ms v d:=
 r.ind (P:=λvs ds=> ∀k:Nat,ds[k]?=some d -> ∃v,vs[k]?=some v/\ Rep w s ms v d) (λ_ e=>nn e) (λv _ _ _ x _ z k=>Nat.casesOn k (λe=>⟨v,rfl,Option.some.inj e▸x⟩) z) k
theorem RepL.get' {vs:List Value} {ds:List D} {k:Nat} {v:Value} (r:RepL w s ms vs ds):vs[k]?=some v -> ∃d,ds[k]?=some d/\ Rep w s ms v d:=
 r.ind (P:=λvs ds=> ∀k:Nat,vs[k]?=some v -> ∃d,ds[k]?=some d/\ Rep w s ms v d) (λ_ e=>nn e) (λ_ d _ _ x _ z k=>Nat.casesOn k (λe=>⟨d,rfl,Option.some.inj e▸x⟩) z) k
theorem RepL.set {vs:List Value} {ds:List D} {k:Nat} {v:Value} {d:D} (r:RepL w s ms vs ds) (z:Rep w s ms v d):RepL w s ms (vs.set k v) (ds.set k d):=
 r.ind (P:=λvs ds=> ∀k:Nat,RepL w s ms (vs.set k v) (ds.set k d)) (λ_=> .nil) (λ_ _ _ _ x y h k=>Nat.casesOn k (.cons z y) λk=> .cons x (h k)) k
theorem RepL.erase {vs:List Value} {ds:List D} {k:Nat} (r:RepL w s ms vs ds):RepL w s ms (vs.eraseIdx k) (ds.eraseIdx k):=
 r.ind (P:=λvs ds=> ∀k:Nat,RepL w s ms (vs.eraseIdx k) (ds.eraseIdx k)) (λ_=> .nil) (λ_ _ _ _ x y h k=>Nat.casesOn k y λk=> .cons x (h k)) k
end
end
noncomputable abbrev N0:Nat:=164
noncomputable abbrev T0:Nat:=2367
structure FdOk (fd:FuncData) (f:Fn):Prop where
 scope:fd.scope=f.scope
 body:fd.body= .stmts f.body
 params:fd.params.args.map (·.arg)=f.params
 posonly:fd.params.posonlyargs=[]
 vararg:fd.params.vararg=none
 kwonly:fd.params.kwonlyargs=[]
 kwarg:fd.params.kwarg=none
 dflt:fd.defaults= .none
 globals:fd.globals=mainGlobals
 builtins:fd.builtins=builtinsNs
 closure:fd.closure=[]
 co:fd.scope.isCoroutine=false
 gen:fd.scope.isGenerator=false
 kind:fd.scope.kind= .function
 nodup:f.params.Nodup
 bnd: ∀x∈f.params,f.scope.names.lookup x=some .local∨f.scope.names.lookup x=some .cell
 nofree: ∀x,f.scope.names.lookup x≠some .free
noncomputable def Zh (h:Heap) (a:Addr) (f:Fn):Prop:= ∃o fd,h.get? a=some o/\ o.cls= .type "function"/\ o.data= .func fd/\ FdOk fd f/\ h.CodeRec fd.code fd.qualname
theorem Zh.keeps {h h':Heap} {a:Addr} {f:Fn} (x:Zh h a f) (hk: ∀b o,h.get? b=some o ->h'.get? b=some o):Zh h' a f:=by
 refine o24 x λo fd e c d k r=>?_;clear x
 exact⟨o,fd,hk _ _ e,c,d,k,r.keeps hk⟩
noncomputable def ClsAt (h:Heap):Prop:=
 ∃(N:Addr) (mN:Str ->Option Value) (fI:Addr) (fC:Addr) (oI oC:Obj),PyProof.Rows.ClsAt h clsA N mN/\
  mN "__getattribute__"=none/\ mN "__getattr__"=none/\ mN "__setattr__"=none/\ mN (nm "comp_select_list")=none/\
  mN "__init__"=some (.ref fI)/\ h.get? fI=some oI/\ oI.cls= .type "function"/\ (∀f,meth 1 0=some f ->Zh h fI f)/\
  mN (nm "compare")=some (.ref fC)/\ h.get? fC=some oC/\ oC.cls= .type "function"/\ (∀f,meth 1 1=some f ->Zh h fC f)
theorem ClsAt.keeps {h h':Heap} (x:ClsAt h) (hk: ∀b o,h.get? b=some o ->h'.get? b=some o):ClsAt h':=
 o60 x λN mN fI fC oI oC q=>o08 q λe1 e3 e4 e5 e6 e7 e8 e9 q=>o04 q λe10 e11 e12 e13 e14=>⟨N,mN,fI,fC,oI,oC,e1.keeps hk,e3,e4,e5,e6,e7,hk _ _ e8,e9,λf hf=>(e10 f hf).keeps hk,e11,hk _ _ e12,e13,λf hf=>(e14 f hf).keeps hk⟩
theorem ClsAt.live {h:Heap} (x:ClsAt h): ∃o,h.get? clsA=some o:=o60 x λ_ _ _ _ _ _ q=>o90 q.1.obj λ_ _ _ _ _ _ _ _ _ q=>o30 q λ_ _ _ e=>⟨_,e⟩
noncomputable def bltOf:List (Str×Value):=[(nm "len",.builtin "len"),(nm "sum",.builtin "sum"),(nm "max",.builtin "max"),(nm "min",.builtin "min"),(nm "isinstance",.builtin "isinstance"),(nm "chr",.builtin "chr"),
 (nm "ord",.builtin "ord"),(nm "str",.type "str"),(nm "dict",.type "dict"),(nm "tuple",.type "tuple"),(nm "int",.type "int"),(nm "list",.type "list"),(nm "range",.type "range"),
 (nm "enumerate",.type "enumerate"),(nm "zip",.type "zip"),(nm "float",.type "float"),(nm "bool",.type "bool")]
structure Gb (w:World) (mg mb:Str ->Option Value) (h:Heap):Prop where
 g:h.Ns mainGlobals mg
 b:h.Ns builtinsNs mb
 blt: ∀x v,bltOf.lookup x=some v ->mg x=none/\ mb x=some v
 fn: ∀x f,theTop.fns x=some f -> ∃a,mg x=some (.ref a)/\ Zh h a f
 cls:ClsAt h
 maker:mg (nm "TupleComp")=some (.ref clsA)
 nolim:h.NoLimit
 digits: ∃mc,h.Ns cStatics mc/\ mc "sys.int_max_str_digits"=none/\ mc sharingNotToldKey=none
 b3: ∃a,mg (nm "b3_exceptions")=some (.ref a)/\ ∀(s:Shared) (ms:List Addr),(∀b o,h.get? b=some o ->s.heap.get? b=some o) ->T0<=s.toks ->(∀m∈ms,N0<=m) ->Rep w s ms (.ref a) (.dct Internal.b3)
 b1: ∃a,mg (nm "b1_set")=some (.ref a)/\ J11 w h a Internal.b1/\ a<N0
theorem Gb.keeps {w:World} {mg mb:Str ->Option Value} {h h':Heap} (G:Gb w mg mb h) (hk: ∀b o,h.get? b=some o ->h'.get? b=some o):Gb w mg mb h' where
 g:=G.g.keeps hk
 b:=G.b.keeps hk
 blt:=G.blt
 fn:=λx f e=>o11 (G.fn x f e) λa e1 e2=>⟨a,e1,e2.keeps hk⟩
 cls:=G.cls.keeps hk
 maker:=G.maker
 nolim:=G.nolim.keeps hk
 digits:=o11 G.digits λmc e1 e2=>⟨mc,e1.keeps hk,e2⟩
 b3:=o11 G.b3 λa e1 e2=>⟨a,e1,λs ms hk'=>e2 s ms (λb o e=>hk' b o (hk b o e))⟩
 b1:=let⟨a,e1,⟨n,o,es,ep,t,ho,r⟩,e2⟩:=G.b1;⟨a,e1,⟨n,o,es,ep,t,hk _ _ ho,r⟩,e2⟩
structure AOk (n:Nat) (A:Around):Prop where
 handled:A.handled=none
 depth:A.depth+n<=890
 units:A.units+8*n<=9000
theorem AOk.le {n k:Nat} {A:Around} (x:AOk n A) (h:k<=n):AOk k A:=⟨x.handled,by have:=x.depth;lia,by have:=x.units;lia⟩
theorem AOk.pred {n:Nat} {A:Around} (x:AOk (n+1) A):AOk n A:=x.le (Nat.le_succ n)
theorem AOk.deeper {n:Nat} {A:Around} {env:Env} (x:AOk (n+1) A):AOk n (A.deeper env):=
 ⟨x.handled,by have:=x.depth;show A.depth+1+n<=890;lia,by have:=x.units;show A.units+3+8*n<=9000;lia⟩
theorem AOk.room {n:Nat} {A:Around} (x:AOk n A):A.depth<recursionLimit:=by have:=x.depth;show A.depth<1000;lia
theorem AOk.cu {n:Nat} {A:Around} (x:AOk n A):A.units+800<cLine:=by have:=x.units;show A.units+800<9900;lia
theorem Keeps.rfl' (s:Shared):Keeps s s:=⟨s.heap,s.toks,rfl,λ_ _ e=>e⟩
theorem Keeps.tr {s s' s'':Shared} (x:Keeps s s') (y:Keeps s' s''):Keeps s s'':=by
 refine o21 x λh' tk q1 k=>?_;clear x;subst q1
 refine o21 y λh'' tk' q2 k'=>?_;clear y;subst q2
 exact⟨h'',tk',rfl,λb o e=>k' b o (k b o e)⟩
theorem Keeps.hp {s s':Shared} (x:Keeps s s'): ∀b o,s.heap.get? b=some o ->s'.heap.get? b=some o:=by
 refine o21 x λh' tk q1 k=>?_;clear x;subst q1
 exact k
theorem Keeps.tok (s:Shared) (t:Nat):Keeps s {s with toks:=t}:=⟨s.heap,t,rfl,λ_ _ e=>e⟩
theorem Keeps.mk' {s:Shared} {h':Heap} {t:Nat} (hk: ∀b o,s.heap.get? b=some o ->h'.get? b=some o):Keeps s {s with heap:=h',toks:=t}:=⟨h',t,rfl,hk⟩
theorem Keeps.push (s:Shared) (o:Obj):Keeps s {s with heap:=s.heap.push o}:=⟨_,s.toks,rfl,λ_ _ e=>Heap.get?_push_of_some o e⟩
structure Kp (s s':Shared):Prop where
 k:Keeps s s'
 t:s.toks<=s'.toks
theorem Kp.rfl' (s:Shared):Kp s s:=⟨Keeps.rfl' s,Nat.le_refl _⟩
theorem Kp.tr {s s' s'':Shared} (x:Kp s s') (y:Kp s' s''):Kp s s'':=⟨Keeps.tr x.k y.k,Nat.le_trans x.t y.t⟩
theorem Kp.hp {s s':Shared} (x:Kp s s'): ∀b o,s.heap.get? b=some o ->s'.heap.get? b=some o:=Keeps.hp x.k
theorem upK {α:Type} {M:Model} {A:Around} {t:Sem α} {P:α ->Shared ->Prop} {Q:α ->Shared ->Prop} {E:Value ->Shared ->Prop} {s:Shared} (h:wpAny M A t (λv s'=>Keeps s s'/\ P v s') E s)
  (hQ: ∀v s',Kp s s' ->P v s' ->Q v s'):wpAny M A t Q E s:=up h λv s' ht x=>hQ v s' ⟨x.1,ht⟩ x.2
structure Cx (w:World) (mg mb:Str ->Option Value) (s:Shared) (ms:List Addr):Prop where
 top: ∃hT,Gb w mg mb hT/\ (∀b o,hT.get? b=some o ->b<N0)/\ ∀b o,hT.get? b=some o ->s.heap.get? b=some o
 live: ∀m∈ms,∃o,s.heap.get? m=some o
 hi: ∀m∈ms,N0<=m
 tk:T0<=s.toks
 last: ∃o,s.heap.get? (N0-1)=some o
theorem Cx.glob {w:World} {mg mb:Str ->Option Value} {s:Shared} {ms:List Addr} (C:Cx w mg mb s ms):Gb w mg mb s.heap:=o12 C.top λ_ G _ k=>G.keeps k
theorem Cx.keeps {w:World} {mg mb:Str ->Option Value} {s s':Shared} {ms:List Addr} (C:Cx w mg mb s ms) (hk:Kp s s'):Cx w mg mb s' ms:=
 ⟨o12 C.top λhT G b k=>⟨hT,G,b,λx o e=>hk.hp x o (k x o e)⟩,λm hm=>o10 (C.live m hm) λo e=>⟨o,hk.hp _ _ e⟩,C.hi,Nat.le_trans C.tk hk.t,o10 C.last λo e=>⟨o,hk.hp _ _ e⟩⟩
theorem Cx.big {w:World} {mg mb:Str ->Option Value} {s:Shared} {ms:List Addr} (C:Cx w mg mb s ms):N0<=s.heap.objs.size:=by
 obtain⟨o,e⟩:=C.last
 have z:163<s.heap.objs.size:=Heap.lt_size e
 exact z
theorem Cx.pos {w:World} {mg mb:Str ->Option Value} {s:Shared} {ms:List Addr} (C:Cx w mg mb s ms):s.toks≠0:=by
 have:=C.tk
 have e:T0=2367:=rfl
 lia
noncomputable def SlotRep (w:World) (s:Shared) (ms:List Addr) (own:Str ->Option Addr) (x:Str) (v:Value):Slot ->Prop
 | .val d=>Rep w s ms v d
 | .mls l=> ∃a vs,own x=some a/\ v= .ref a/\ LsAt s.heap a vs/\ RepL w s ms vs l
 | .mdc l=> ∃a kvs,own x=some a/\ v= .ref a/\ DcAt w s.heap a kvs/\ RepK w s ms kvs l
noncomputable def At (h:Heap) (env:Env) (x:Str) (v:Value):Prop:=
 (env.kindOf x=some .local/\ ∃m,h.Ns env.locals m/\ m x=some v)∨
 ((env.kindOf x=some .cell∨env.kindOf x=some .free)/\ ∃c,env.cells.lookup x=some c/\ h.IsCell c (some v))
structure ScOk (sc:Scope) (env:Env):Prop where
 globals:env.globals=mainGlobals
 builtins:env.builtins=builtinsNs
 kind:env.scope.kind= .function
 loc: ∀x,sc.names.lookup x=some .local ->env.kindOf x=some .local
 cel: ∀x,sc.names.lookup x=some .cell ->env.kindOf x=some .cell
 fre: ∀x,sc.names.lookup x=some .free ->env.kindOf x=some .free∨env.kindOf x=some .cell
 glo: ∀x,sc.names.lookup x=some .globalImplicit ->env.kindOf x=some .globalImplicit
 cells: ∀x,(sc.names.lookup x=some .cell∨sc.names.lookup x=some .free) -> ∃c,env.cells.lookup x=some c
structure EnvOk (w:World) (s:Shared) (ms:List Addr) (own:Str ->Option Addr) (sc:Scope) (env:Env) (ρ:Rho):Prop where
 fit:ScOk sc env
 var: ∀x u,ρ.lookup x=some u ->Jg sc x=true -> ∃v,At s.heap env x v/\ SlotRep w s ms own x v u
section
variable {w:World} {mg mb:Str ->Option Value} {s s':Shared} {ms ms':List Addr} {own:Str ->Option Addr} {sc:Scope} {env:Env} {ρ:Rho}
theorem Kp.past {ms:List Addr} (k:Kp s s'):Past s ms s' ms:=Past.keeps k.t k.hp
theorem At.keeps {h h':Heap} {x:Str} {v:Value} (y:At h env x v) (hk: ∀b o,h.get? b=some o ->h'.get? b=some o):At h' env x v:=by
 rcases y with⟨k,m,e1,e2⟩|⟨k,c,e1,e2⟩
 ·exact .inl ⟨k,m,e1.keeps hk,e2⟩
 ·exact .inr ⟨k,c,e1,e2.keeps hk⟩
theorem SlotRep.keeps {x:Str} {v:Value} {u:Slot} (y:SlotRep w s ms own x v u) (k:Kp s s'):SlotRep w s' ms own x v u:=by
 cases u with
 |val d=>exact Rep.past k.past y
 |mls l=>
  refine o23 y λa vs e1 e2 q1 e4=>?_;clear y;obtain⟨n,e3⟩:=q1
  exact⟨a,vs,e1,e2,⟨n,k.hp _ _ e3⟩,e4.past k.past⟩
 |mdc l=>
  refine o23 y λa vs e1 e2 q2 e4=>?_;clear y;obtain⟨e3,q⟩:=q2
  exact⟨a,vs,e1,e2,⟨e3.keep k.hp,q⟩,e4.past k.past⟩
theorem EnvOk.keeps (x:EnvOk w s ms own sc env ρ) (k:Kp s s'):EnvOk w s' ms own sc env ρ:=
 ⟨x.fit,λy u e hv=>o11 (x.var y u e hv) λv e1 e2=>⟨v,e1.keeps k.hp,e2.keeps k⟩⟩
end
theorem Yl {sc:Scope} {x:Str} (h:Jg sc x=true):(x==("__classdict__":Str))=false/\ (x==("__debug__":Str))=false:=by
 have z:J9V x=true:=by
  unfold Jg at h
  cases e:sc.names.lookup x with
  |none=>rw[e]at h;exact Bool.noConfusion h
  |some k=>
   rw[e]at h
   cases k with
   |globalExplicit=>exact Bool.noConfusion h
   |globalImplicit=>exact Bool.noConfusion h
   |_=>exact h
 unfold J9V at z
 simp only[Bool.and_eq_true,Bool.not_eq_true']at z
 exact z
theorem J1M {w:World} {A:Around} {E:Value ->Shared ->Prop} {s:Shared} {Q:Value ->Shared ->Prop} {ms:List Addr} {own:Str ->Option Addr} {sc:Scope} {env:Env} {ρ:Rho} {x:Str} {u:Slot}
  (K:EnvOk w s ms own sc env ρ) (hx:ρ.lookup x=some u) (hv:Jg sc x=true) (h: ∀v,SlotRep w s ms own x v u ->Q v s):wpAny (model pw w) A (loadName env x) Q E s:=by
 refine o11 (K.var x u hx hv) λv a r=>?_
 rcases a with⟨k,m,e1,e2⟩|⟨k|k,c,e1,e2⟩
 ·exact wpAny_loadName_local K.fit.kind k e1 e2 (h v r)
 ·exact wpAny_loadName_cell K.fit.kind k e1 e2 (h v r)
 ·exact wpAny_loadName_free K.fit.kind k e1 e2 (h v r) (Yl hv).1
theorem Vv {w:World} {A:Around} {E:Value ->Shared ->Prop} {s:Shared} {Q:Value ->Shared ->Prop} {ms:List Addr} {own:Str ->Option Addr} {sc:Scope} {env:Env} {ρ:Rho} {x:Str} {u:Slot} {pos:Pos}
  (K:EnvOk w s ms own sc env ρ) (hx:ρ.lookup x=some u) (hv:Jg sc x=true) (h: ∀v,SlotRep w s ms own x v u ->Q v s):
  wpAny (model pw w) A (eval (.Name x pos) env) Q E s:=wpAny_Name (J1M K hx hv h) (Yl hv).2
section
variable {w:World} {mg mb:Str ->Option Value} {A:Around} {E:Value ->Shared ->Prop} {s:Shared} {ms:List Addr}
theorem Cx.fresh (C:Cx w mg mb s ms):s.heap.objs.size∉ms:=λhm=>by
 obtain⟨o,e⟩:=C.live _ hm
 exact absurd (Heap.lt_size e) (Nat.lt_irrefl _)
theorem Kp.push (s:Shared) (o:Obj):Kp s {s with heap:=s.heap.push o}:=⟨Keeps.push s o,Nat.le_refl _⟩
theorem Kp.tok1 (s:Shared):Kp s {s with toks:=s.toks+1}:=⟨Keeps.tok s _,Nat.le_succ _⟩
theorem Kp.tok2 (s:Shared):Kp s {s with toks:=s.toks+1+1}:=⟨Keeps.tok s _,by show s.toks<=s.toks+1+1;lia⟩
theorem RepL.kp {s s':Shared} {vs:List Value} {ds:List D} (x:RepL w s ms vs ds) (k:Kp s s'):RepL w s' ms vs ds:=x.past k.past
theorem Rep.kp {s s':Shared} {v:Value} {d:D} (x:Rep w s ms v d) (k:Kp s s'):Rep w s' ms v d:=x.past k.past
theorem RepK.kp {s s':Shared} {vs:List (Key×Value)} {ds:List (Key×D)} (x:RepK w s ms vs ds) (k:Kp s s'):RepK w s' ms vs ds:=x.past k.past
theorem JK (C:Cx w mg mb s ms) {vs:List Value} {ds:List D} (x:RepL w s ms vs ds):
  Rep w {s with heap:=s.heap.push {cls:= .type "list",data:= .seq vs.toArray}} ms (.ref s.heap.objs.size) (.lst ds):=
 .lst ⟨0,Heap.get?_push_size _ rfl⟩ C.fresh (x.kp (Kp.push s _))
theorem JW (C:Cx w mg mb s ms) {vs:List Value} {ds:List D} (x:RepL w s ms vs ds):
  Rep w {s with heap:=s.heap.push {cls:= .type "tuple",data:= .seq vs.toArray}} ms (.ref s.heap.objs.size) (.tup ds):=
 .tup ⟨0,Heap.get?_push_size _ rfl⟩ C.fresh (x.kp (Kp.push s _))
inductive MadeIs (w:World) (s:Shared) (ms:List Addr):Made ->D ->Prop
 |val {v:Value} {d:D}:Rep w s ms v d ->MadeIs w s ms (.val v) d
 |int (i:Int):MadeIs w s ms (.int i) (.int i)
 |str (x:Str):x.length<=sizeLine ->MadeIs w s ms (.str x) (.str x)
 |flt (x:UInt64):MadeIs w s ms (.float x) (.flt x)
 |either {a b:Made} {d:D}:MadeIs w s ms a d ->MadeIs w s ms b d ->MadeIs w s ms (.either a b) d
theorem MadeIs.post (C:Cx w mg mb s ms) {m:Made} {d:D} (h:MadeIs w s ms m d) {Q:Value ->Shared ->Prop} (hQ: ∀v s',Kp s s' ->Rep w s' ms v d ->Q v s'):m.post Q s:=by
 have ht:=C.pos
 induction h with
 |val r=>exact hQ _ _ (Kp.rfl' s) r
 |int i=>exact hQ _ _ (Kp.tok1 s) (.int _ _)
 |str x hl=>exact⟨hl,hQ _ _ (Kp.tok1 s) (.str _ _ ht (Nat.lt_succ_self _))⟩
 |flt x=>exact hQ _ _ (Kp.tok1 s) (.flt _ _ ht)
 |either _ _ i1 i2=>exact⟨i1 hQ,i2 hQ⟩
theorem KI {i:Int} (h:small i=true):Builtin.Int.intBits i<=64:=by
 have h:i.natAbs<2^64:=of_decide_eq_true h
 unfold Builtin.Int.intBits
 split
 ·lia
 ·rename_i h0
  have:i.natAbs.log2<64:=(Nat.log2_lt (by simpa using h0)).mpr h
  lia
theorem Jbb {a b:Int} (h:J4e a b=true):IntMulOk a b:=by
 unfold J4e at h
 rcases Bool.or_eq_true_iff.mp h with h|h
 ·exact .of_left (KI h)
 ·exact .of_right (KI h)
theorem Ky {x:Value}: ∀n:Nat,List.foldl (λ(x1 x2:Array Value)=>x1++x2) #[] (List.replicate n #[x])=(List.replicate n x).toArray:=by
 have key: ∀(n:Nat) (acc:Array Value),List.foldl (λ(x1 x2:Array Value)=>x1++x2) acc (List.replicate n #[x])=acc++(List.replicate n x).toArray:=by
  intro n
  induction n with
  |zero=>intro acc;simp
  |succ n ih=>
   intro acc
   rw[List.replicate_succ,List.foldl_cons,ih,List.replicate_succ]
   apply Array.toList_inj.mp
   simp
 intro n
 rw[key];simp
theorem J1Q {l:Addr} {v:Value} {k:Nat} {x:Int} {u:Tok} {Q:Value ->Shared ->Prop}
  (hl:s.heap.get? l=some {cls:= .type "list",data:= .seq #[v] k}) (h0:0<=x) (hhi:x<=1000)
  (h:Q (.ref s.heap.objs.size) {s with heap:=s.heap.push {cls:= .type "list",data:= .seq (List.replicate x.toNat v).toArray}}):
  wpAny (model pw w) A (binaryOp .Mult (.ref l) (.int x u)) Q E s:=by
 have e:List.foldl (λ(x1 x2:Array Value)=>x1++x2) #[] (List.replicate (if(#[v]:Array Value).isEmpty=true then 0 else x.toNat) #[v])=(List.replicate x.toNat v).toArray:=by
  rw[show(if(#[v]:Array Value).isEmpty=true then 0 else x.toNat)=x.toNat from rfl]
  exact Ky _
 refine wpAny_binaryOp_repeat_ref (T:="list") (U:="int") (by decide) ⟨_,hl,rfl⟩ (λs'=>typeIs_int s' x u) noFill_list_mul F.fills_int_mul F.slot_int_rmul repeat_list F.slot_int_index.lookup
  (call_meets F.slot_int_rmul (typeIs_int s x u) F.entry_int_rmul (F.args_int_rmul_2 _ _) (int___rmul___int_list x u l #[v] k)
   ⟨hl,rfl,⟨_,hl,rfl⟩,call_meets F.slot_list_mul ⟨_,hl,rfl⟩ F.entry_list_mul (F.args_list_mul_2 _ _)
    (AutoListH.list___mul___list_int_3 l #[v] k x u (by simp[Builtin.List.listFitsIndex];lia) (by simp;lia) (by simp[Builtin.List.listTooLong,sizeLine];lia))
    ⟨hl,?_⟩⟩)
 rw[e];exact h
theorem RepL.replicate {v:Value} {d:D} (x:Rep w s ms v d): ∀n:Nat,RepL w s ms (List.replicate n v) (List.replicate n d)
 |0=> .nil
 |n+1=> .cons x (RepL.replicate x n)
theorem J5K {x y:Str} {t u:Tok} {Q:Value ->Shared ->Prop} (hb:x.length+y.length<=1000000) (C:Cx w mg mb s ms) (ra:Rep w s ms (.str x t) (.str x)) (rb:Rep w s ms (.str y u) (.str y)) (hQ: ∀v s',Kp s s' ->Rep w s' ms v (.str (x++y)) ->Q v s'):wpAny (model pw w) A (binaryOp .Add (.str x t) (.str y u)) Q E s:=by
 refine PySem.P.add_str (MadeIs.post C (d:= .str (x++y)) ?_ hQ)
 split
 ·rename_i hz
  rw[show x++y=y from Str.append_left_empty hz]
  exact .val rb
 ·split
  ·rename_i hz
   rw[show x++y=x from Str.append_right_empty hz]
   exact .val ra
  ·exact .str _ (by rw[sizeLine_eq,Str.length_append];lia)
theorem J5J {a b:Addr} {vs us:List Value} {x y:List D} {Q:Value ->Shared ->Prop} (hc:x.length+y.length<=1000000) (C:Cx w mg mb s ms) (ha:LsAt s.heap a vs) (hb:LsAt s.heap b us) (la:RepL w s ms vs x) (lb:RepL w s ms us y) (hQ: ∀v s',Kp s s' ->Rep w s' ms v (.lst (x++y)) ->Q v s'):wpAny (model pw w) A (binaryOp .Add (.ref a) (.ref b)) Q E s:=by
 refine o10 ha λn ha=>o10 hb λn' hb=>P.add_list ha hb (hQ _ _ (Kp.push s _) ?_) ?_
 ·have:=JK C (la.append lb)
  simpa using this
 ·have e1:=la.length;have e2:=lb.length
  simp only[List.size_toArray];rw[sizeLine_eq];lia
theorem J5L {a b:Addr} {vs us:List Value} {x y:List D} {Q:Value ->Shared ->Prop} (hx:x≠[]) (hy:y≠[]) (hc:x.length+y.length<=1000000) (C:Cx w mg mb s ms) (ha:TpAt s.heap a vs) (hb:TpAt s.heap b us) (la:RepL w s ms vs x) (lb:RepL w s ms us y) (hQ: ∀v s',Kp s s' ->Rep w s' ms v (.tup (x++y)) ->Q v s'):wpAny (model pw w) A (binaryOp .Add (.ref a) (.ref b)) Q E s:=by
 have ne: ∀{vs:List Value} {x:List D},RepL w s ms vs x ->x≠[] ->vs.toArray.isEmpty=true ->False:=λr h z=>h (List.length_eq_zero_iff.mp (r.length.symm.trans (Array.isEmpty_iff_size_eq_zero.mp z)))
 refine o10 ha λn ha=>o10 hb λn' hb=>P.add_tuple ha hb (ne la hx) (ne lb hy) (hQ _ _ (Kp.push s _) ?_) ?_
 ·have:=JW C (la.append lb)
  simpa using this
 ·have e1:=la.length;have e2:=lb.length
  simp only[List.size_toArray];rw[sizeLine_eq];lia
theorem KH {op:Operator} {a b d:D} {va vb:Value} {Q:Value ->Shared ->Prop} (h:binD op a b=some d) (C:Cx w mg mb s ms) (ra:Rep w s ms va a) (rb:Rep w s ms vb b)
  (hQ: ∀v s',Kp s s' ->Rep w s' ms v d ->Q v s'):wpAny (model pw w) A (binaryOp op va vb) Q E s:=by
 have ht:s.toks≠0:=C.pos
 have tk: ∀(v:Value),Rep w {s with toks:=s.toks+1} ms v d ->Q v {s with toks:=s.toks+1}:=λv r=>hQ v _ (Kp.tok1 s) r
 replace h:JeK (shO op a b)=some d:=h
 generalize shO op a b=z at h
 induction z with
 |addI x y=>exact ra.iE λt=>rb.iE λu=>add_int (tk _ (Option.some.inj h▸ .int _ _))
 |subI x y=>exact ra.iE λt=>rb.iE λu=>sub_int (tk _ (Option.some.inj h▸ .int _ _))
 |mulI x y=>exact ra.iE λt=>rb.iE λu=>J9 h λhm h=>PyProof.Rows.mul_int (tk _ (Option.some.inj h▸ .int _ _)) (Jbb hm)
 |fdvI x y=>
  refine ra.iE λt=>rb.iE λu=>J6g h λhb h=>?_
  simp only[Bool.or_eq_true,beq_iff_eq,Bool.not_eq_true',decide_eq_false_iff_not,not_or,Decidable.not_not]at hb
  exact floordiv_int hb.1 (tk _ (Option.some.inj h▸ .int _ _)) (.inl (PyProof.noPylong_small hb.2))
 |modI x y=>exact ra.iE λt=>rb.iE λu=>J6g h λhb h=>mod_int' (by simpa using hb) (tk _ (Option.some.inj h▸ .int _ _))
 |powI x y=>
  refine ra.iE λt=>rb.iE λu=>J9 h λhb h=>?_
  simp only[Bool.and_eq_true,decide_eq_true_eq]at hb
  exact pow_int_small hb.1.2 (Int.le_trans hb.2 (by decide)) (of_decide_eq_true hb.1.1) (tk _ (Option.some.inj h▸ .int _ _))
 |divI x y=>
  refine ra.iE λt=>rb.iE λu=>J6g h λhb h=>?_
  simp only[Bool.or_eq_true,not_or]at hb
  exact AutoIntOps.truediv_2 hb.1 hb.2 (tk _ (Option.some.inj h▸ .flt _ _ ht))
 |subB x y=>
  refine ra.bE (rb.bE (sub_bool (tk _ ?_)))
  rw[<-Option.some.inj h]
  clear ra rb tk hQ h C
  cases x<;>cases y<;>exact .int _ _
 |addS x y=>exact ra.sE λt ht1 ht2=>rb.sE λu hu1 hu2=>J9 h λhb h=>J5K (by lia) C (.str _ _ ht1 ht2) (.str _ _ hu1 hu2) (Option.some.inj h▸hQ)
 |addL x y=>exact ra.lE λa' vs ha _ la=>rb.lE λb' us hb _ lb=>J9 h λhc h=>J5J (by lia) C ha hb la lb (Option.some.inj h▸hQ)
 |addT p x q y=>exact ra.tE λa' vs ha _ la=>rb.tE λb' us hb _ lb=>J9 h λhc h=>J5L (List.cons_ne_nil _ _) (List.cons_ne_nil _ _) (by simp only[List.length_cons];lia) C ha hb la lb (Option.some.inj h▸hQ)
 |mulL p y=>
  refine rb.iE λu=>ra.lE λa' vs ha na la=>J9 h λhc h=>?_
  simp only[Bool.and_eq_true,decide_eq_true_eq]at hc
  rw[<-Option.some.inj h]at hQ
  clear tk h
  cases vs with
  |nil=>exact la.inv.elim
  |cons v vs=>cases vs with
   |cons=>exact la.inv.2.inv.elim
   |nil=>exact o10 ha λn ha=>J1Q ha hc.2.1 hc.2.2 (hQ _ _ (Kp.push s _) (JK C (RepL.replicate la.inv.1 _)))
 |addF x y=>exact ra.fE λt _=>rb.fE λu _=>add_float (tk _ (Option.some.inj h▸ .flt _ _ ht))
 |subF x y=>exact ra.fE λt _=>rb.fE λu _=>sub_float (tk _ (Option.some.inj h▸ .flt _ _ ht))
 |mulF x y=>exact ra.fE λt _=>rb.fE λu _=>mul_float (tk _ (Option.some.inj h▸ .flt _ _ ht))
 |addK x y=>exact ra.fE λt _=>rb.iE λu=>J9 h λhb h=>add_fi_fits (Nat.lt_trans (of_decide_eq_true hb) (by decide+kernel)) (tk _ (Option.some.inj h▸ .flt _ _ ht))
 |subK x y=>exact ra.fE λt _=>rb.iE λu=>J9 h λhb h=>sub_fi_fits (Nat.lt_trans (of_decide_eq_true hb) (by decide+kernel)) (tk _ (Option.some.inj h▸ .flt _ _ ht))
 |divF x y=>exact ra.fE λt _=>rb.fE λu _=>J6g h λhb h=>AutoFloatOps.truediv_1 hb (tk _ (Option.some.inj h▸ .flt _ _ ht))
 |modF x y=>exact ra.fE λt _=>rb.fE λu _=>J6g h λhb h=>AutoFloatOps.mod_1 hb (tk _ (Option.some.inj h▸ .flt _ _ ht))
 |other=>exact nn h
end
end
section
set_option autoImplicit false
open PySem.SeqAt
noncomputable def eAt (f:D ->D ->Option Bool) (xs ys:List D) (j:Nat):Bool:=match xs[j]?,ys[j]? with
 |some x,some y=>(f x y).getD false
 |_,_=>false
theorem Vl {f:D ->D ->Option Bool} {xs ys:List D} {r:Bool} (h:allEq f xs ys=some r) (hl:xs.length=ys.length):
  (List.range xs.length).all (eAt f xs ys)=r/\ ∀j x y,xs[j]?=some x ->ys[j]?=some y ->f x y=some (eAt f xs ys j):=by
 induction xs generalizing ys r with
 |nil=>
  induction ys with
  |nil=>exact⟨Option.some.inj h,λj x y e=>nn e⟩
  |cons=>exact Nat.noConfusion hl
 |cons x xs ih=>
  induction ys with
  |nil=>exact Nat.noConfusion hl
  |cons y ys=>
   refine bnd h λr1 h1 h2=>mpd h2 λr2 h3 h4=>o01 (ih h3 (Nat.succ.inj hl)) λq1 q2=>?_
   have e0:eAt f (x::xs) (y::ys) 0=r1:=congrArg (λo=>Option.getD o false) h1
   refine⟨?_,λj=>Nat.casesOn j (λa b ea eb=>?_) λj=>q2 j⟩
   ·rw[List.length_cons,List.range_succ_eq_map,List.all_cons,e0,List.all_map,<-h4,<-q1];rfl
   ·rw[e0,<-Option.some.inj ea,<-Option.some.inj eb];exact h1
section
variable {w:World} {s:Shared} {ms:List Addr}
theorem J8U {es:List DictEntry} {a b:List (Key×Value)} (p:Pairs (mixKind pw w) es a) (q:Pairs (mixKind pw w) es b):a=b:=by
 induction p generalizing b with
 |nil=>cases q;rfl
 | @cons e kv es kvs h1 h2 _ ih=>
  cases q with
  | @cons _ kv' _ kvs' g1 g2 g3=>
   rw[ih g3]
   have ek:=VN e.key kv.1 kv'.1 h1 g1
   have ev:kv.2=kv'.2:=h2.symm.trans g2
   rw[Prod.ext ek ev]
theorem JeS {a:Addr} {x y:List (Key×Value)} (p:DcAt w s.heap a x) (q:DcAt w s.heap a y):x=y:=by
 obtain⟨⟨o,es,ep,ho,_,hd,_,hp,_⟩,_⟩:=p
 obtain⟨⟨o',es',ep',ho',_,hd',_,hp',_⟩,_⟩:=q
 obtain rfl:o=o':=Option.some.inj (ho.symm.trans ho')
 rw[hd]at hd'
 injection hd' with e1 e2
 subst e1
 exact J8U hp hp'
theorem Jfs {a:Addr} {x y:List Value} (p:LsAt s.heap a x) (q:LsAt s.heap a y):x=y:=by
 refine o10 p λn e=>?_;clear p
 refine o10 q λn' e'=>?_;clear q
 have:=Option.some.inj (e.symm.trans e')
 simp only[Obj.mk.injEq,Data.seq.injEq]at this
 have z:=this.2.2.1.1
 simpa using congrArg Array.toList z
theorem JfV {a:Addr} {x y:List Value} (p:TpAt s.heap a x) (q:TpAt s.heap a y):x=y:=by
 obtain⟨n,e⟩:=p
 obtain⟨n',e'⟩:=q
 have:=Option.some.inj (e.symm.trans e')
 simp only[Obj.mk.injEq,Data.seq.injEq]at this
 have z:=this.2.2.1.1
 simpa using congrArg Array.toList z
theorem RepK.find {kvs:List (Key×Value)} {ds:List (Key×D)} (x:RepK w s ms kvs ds) {k:Key}:
  (dget k ds=none/\ valueAt kvs k=none)∨ ∃v d,valueAt kvs k=some v/\ dget k ds=some d/\ Rep w s ms v d:=by
 refine x.ind (P:=λkvs ds=>(dget k ds=none/\ valueAt kvs k=none)∨ ∃v d,valueAt kvs k=some v/\ dget k ds=some d/\ Rep w s ms v d) (.inl ⟨rfl,rfl⟩) λj v d vs ds r _ ih=>?_
 by_cases e:j=k
 ·exact .inr ⟨v,d,by simp[valueAt,e],if_pos e,r⟩
 ·have e1:valueAt ((j,v)::vs) k=valueAt vs k:=by simp[valueAt,e]
  show(if j=k then some d else dget k ds)=none/\ _∨ ∃v' d',_/\ (if j=k then some d else dget k ds)=some d'/\ _
  rw[if_neg e,e1];exact ih
theorem KG {f:D ->D ->Option Bool} (hf: ∀v d d' r,Rep w s ms v d ->Rep w s ms v d' ->f d d'=some r ->r=true) {vs:List Value} {ds ds':List D} {r:Bool}
  (x:RepL w s ms vs ds):RepL w s ms vs ds' ->allEq f ds ds'=some r ->r=true:=by
 refine x.ind (P:=λvs ds=> ∀ds' r,RepL w s ms vs ds' ->allEq f ds ds'=some r ->r=true) (λds' r y e=>?_) (λv d vs ds x _ ih ds' r y e=>?_) ds' r
 ·induction ds' with
  |nil=>exact(Option.some.inj e).symm
  |cons=>exact y.inv.elim
 ·induction ds' with
  |nil=>exact y.inv.elim
  |cons d' ds'=>
   refine bnd e λr1 h1 h2=>mpd h2 λr2 h3 h4=>?_
   rw[<-h4,hf _ _ _ _ x y.inv.1 h1,ih _ _ y.inv.2 h3];rfl
theorem J3v {f:D ->D ->Option Bool} (hf: ∀v d d' r,Rep w s ms v d ->Rep w s ms v d' ->f d d'=some r ->r=true) {all:List (Key×Value)} {b:List (Key×D)} (rb:RepK w s ms all b)
  {vs:List (Key×Value)} {ds:List (Key×D)} {r:Bool} (x:RepK w s ms vs ds):(∀k v,(k,v)∈vs ->valueAt all k=some v) ->Y2 f b ds=some r ->r=true:=by
 refine x.ind (P:=λvs ds=> ∀r,(∀k v,(k,v)∈vs ->valueAt all k=some v) ->Y2 f b ds=some r ->r=true) (λr _ e=>(Option.some.inj e).symm) (λk v d vs ds x _ ih r hv e=>?_) r
 have hk:=hv k v (List.mem_cons_self ..)
 rcases rb.find (k:=k)with h|h
 ·exact nn (h.2.symm.trans hk)
 ·refine o22 h λv' d' p q z=>?_
  replace e:(match dget k b with|some y=>(f d y).bind λt=>(Y2 f b ds).map (t&& ·)|none=>some false)=some r:=e
  rw[q]at e
  refine bnd e λr1 h1 h2=>mpd h2 λr2 h3 h4=>?_
  rw[<-h4,hf _ _ _ _ x (Option.some.inj (p.symm.trans hk)▸z) h1,ih _ (λk v m=>hv k v (List.mem_cons_of_mem _ m)) h3];rfl
theorem KE {kvs:List (Key×Value)} (hn:(kvs.map (·.1)).Nodup): ∀k v,(k,v)∈kvs ->valueAt kvs k=some v:=by
 induction kvs with
 |nil=>intro k v m;cases m
 |cons kv kvs ih=>
  intro k v m
  rw[List.map_cons,List.nodup_cons]at hn
  cases m with
  |head=>simp[valueAt]
  |tail _ m=>
   have ne: ¬kv.1=k:=λe=>hn.1 (e▸List.mem_map.mpr ⟨(k,v),m,rfl⟩)
   simpa[valueAt,ne]using ih hn.2 k v m
theorem DcAt.nodup {a:Addr} {x:List (Key×Value)} (p:DcAt w s.heap a x):(x.map (·.1)).Nodup:=let⟨⟨_,_,_,_,_,_,_,_,n⟩,_⟩:=p;n
theorem J4L (n:Nat): ∀(v:Value) (d d':D) (r:Bool),Rep w s ms v d ->Rep w s ms v d' ->eqD n d d'=some r ->r=true:=by
 induction n with
 |zero=>exact λ_ _ _ _ _ _ e=>nn e
 |succ n ih=>
  intro v d d' r x y e
  replace e:Jgv (eqD n) (shB d d')=some r:=e
  generalize shB d d'=z at e
  induction z with
  |bb a b=>exact Option.some.inj e▸decide_eq_true (Value.bool.inj (x.inv.symm.trans y.inv))
  |ii a b=>exact o10 x.inv λ_ h=>o10 y.inv λ_ h'=>Option.some.inj e▸decide_eq_true (Value.int.inj (h.symm.trans h')).1
  |ss a b=>exact o11 x.inv λ_ h _=>o11 y.inv λ_ h' _=>Option.some.inj e▸decide_eq_true (Value.str.inj (h.symm.trans h')).1
  |ib a b=>exact o10 x.inv λ_ h=>Value.noConfusion (h.symm.trans y.inv)
  |bi a b=>exact o10 y.inv λ_ h=>Value.noConfusion (h.symm.trans x.inv)
  |fi a b=>exact o11 x.inv λ_ h _=>o10 y.inv λ_ h'=>Value.noConfusion (h.symm.trans h')
  |ff a b=>exact J9 e λ_ e=>(Option.some.inj e).symm
  |tt a b=>
   refine o23 x.inv λ_ _ h p _ z=>o23 y.inv λ_ _ h' p' _ z'=>?_
   cases Value.ref.inj (h.symm.trans h')
   cases JfV p p'
   replace e:(if _ then _ else _)=some r:=e
   rw[if_pos (beq_iff_eq.mpr (z.length.symm.trans z'.length))]at e
   exact KG ih z z' e
  |ll a b=>
   refine o23 x.inv λ_ _ h p _ z=>o23 y.inv λ_ _ h' p' _ z'=>?_
   cases Value.ref.inj (h.symm.trans h')
   cases Jfs p p'
   replace e:(if _ then _ else _)=some r:=e
   rw[if_pos (beq_iff_eq.mpr (z.length.symm.trans z'.length))]at e
   exact KG ih z z' e
  |dd a b=>
   refine o23 x.inv λ_ _ h p _ z=>o23 y.inv λ_ _ h' p' _ z'=>?_
   cases Value.ref.inj (h.symm.trans h')
   cases JeS p p'
   refine J9 e λ_ e=>?_
   rw[if_pos (beq_iff_eq.mpr (z.length.symm.trans z'.length))]at e
   exact J3v ih z' z (KE p.nodup) e
  |_=>exact nn e
end
theorem EqAt.of_rc {A:Around} {s:Shared} {va vb:Value} {r:Bool} (hs:va=vb ->r=true) (hf: ∀a t b u,va= .float a t ->vb= .float b u ->False) (h:RcAt A s va vb r):EqAt A s va vb r:=λprog w E Q hq=>by
 unfold eqBool
 refine wpAny_holding (wpAny_ite_split (λhab=>wpAny_bind (wpAny_rule (wpAny_pure (hs (eq_of_beq hab)▸hq)))) λ_=>?_)
 have z:wpAny (model prog w) A (richCompare .Eq va vb>>=truthOfDropped) Q E s:=wpAny_bind (h prog w E _ (wpAny_truthy_bool hq))
 clear hs h
 cases va<;>first|exact z|(cases vb<;>first|exact z|exact(hf _ _ _ _ rfl rfl).elim)
noncomputable def Told (h:Heap):Prop:= ∃mc,h.Ns cStatics mc/\ mc sharingNotToldKey=none
theorem J8F {prog:Program} {w:World} {A:Around} {s:Shared} {E:Value ->Shared ->Prop} {t:Tok} {Q:Bool ->Shared ->Prop} (ht:Told s.heap) (h:Q false s):wpAny (model prog w) A (sharingNotTold t) Q E s:=by
 refine o11 ht λmc e1 e2=>?_;clear ht
 unfold sharingNotTold
 refine wpAny_bind (wpAny_nsGet e1 ?_)
 rw[e2]
 exact wpAny_pure h
theorem EqAt.flt {A:Around} {s:Shared} {x:UInt64} {t u:Tok} (hs:Told s.heap) (ht:t≠0) (hu:u≠0) (hn:Float64.isNaN x=false):EqAt A s (.float x t) (.float x u) true:=λprog w E Q hq=>by
 unfold eqBool
 refine wpAny_holding ?_
 refine wpAny_ite_split (λhab=>?_) (λ_=>?_)
 ·exact wpAny_bind (wpAny_rule (wpAny_pure hq))
 ·have hrc:wpAny (model prog w) A (richCompare .Eq (.float x t) (.float x u)>>=truthOfDropped) Q E s:=by
   refine wpAny_bind (AutoFloatOps.eq_0 (wpAny_truthy_bool ?_))
   rw[Flt.cmp_self,hn];exact hq
  have hre: ∀b:Bool,wpAny (model prog w) A (if b=true then pure true else richCompare .Eq (.float x t) (.float x u)>>=truthOfDropped) Q E s:=by
   intro b
   cases b
   ·exact hrc
   ·exact wpAny_pure hq
  show wpAny (model prog w) A (isSame (.float x t) (.float x u)>>=λb=>if b=true then pure true else richCompare .Eq (.float x t) (.float x u)>>=truthOfDropped) Q E s
  refine wpAny_bind ?_
  show wpAny (model prog w) A (isSame.created (x==x&&!Float64.isNaN x) t u) _ E s
  unfold isSame.created
  refine wpAny_ite_split (λhab=>?_) (λ_=>?_)
  ·exfalso
   rcases Bool.or_eq_true_iff.mp hab with h|h
   ·exact ht (by simpa using h)
   ·exact hu (by simpa using h)
  ·refine wpAny_ite_split (λhab=>?_) (λ_=>?_)
   ·exact wpAny_pure (hre true)
   ·refine wpAny_ite_split (λhab=>?_) (λ_=>?_)
    ·exfalso
     rw[hn]at hab;simp at hab
    ·refine wpAny_bind (J8F hs ?_)
     refine wpAny_ite_split (λhab=>absurd hab (by decide)) (λ_=>?_)
     refine wpAny_bind (J8F hs ?_)
     refine wpAny_ite_split (λhab=>absurd hab (by decide)) (λ_=>?_)
     refine wpAny_bind (wpAny_rule ?_)
     refine wpAny_bind (wpAny_askSetting ?_)
     exact wpAny_pure (hre _)
section
variable {w:World} {ms:List Addr}
noncomputable def Jr:List (Key×Value) ->List (Int×Value)
 |[]=>[]
 |(.i k,v)::r=>(k,v)::Jr r
 |(.s _,_)::r=>Jr r
theorem VD {s:Shared} {kvs:List (Key×Value)} {ds:List (Key×D)} (r:RepK w s ms kvs ds):Jf ds=true ->kvs=(Jr kvs).map λkv=>(Key.i kv.1,kv.2):=
 r.ind (P:=λkvs ds=>Jf ds=true ->kvs=(Jr kvs).map λkv=>(Key.i kv.1,kv.2)) (λ_=>rfl) λk v _ _ _ _ _ ih=>Key.casesOn k (λk e=>congrArg ((Key.i k,v):: ·) (ih e)) λ_ e=>Bool.noConfusion e
theorem J2Q {P:List DictEntry ->List (Int×Value) ->Prop} (hn:P [] []) (hc: ∀e es kv kvs,(mixKind pw w).is (.i kv.1) e.key=true ->e.val=kv.2 ->Pairs (mixKind pw w) es (kvs.map λkv=>(Key.i kv.1,kv.2)) ->P es kvs ->P (e::es) (kv::kvs)) {es:List DictEntry} {kvs:List (Int×Value)}
  (p:Pairs (mixKind pw w) es (kvs.map λkv=>(Key.i kv.1,kv.2))):P es kvs:=by
 generalize hl:kvs.map (λkv=>(Key.i kv.1,kv.2))=l at p
 induction p generalizing kvs with
 |nil=>exact List.map_eq_nil_iff.mp hl▸hn
 |cons h1 h2 h3 ih=>
  induction kvs with
  |nil=>exact nomatch hl
  |cons kv kvs=>have q:=(List.cons.inj hl).1;subst q;exact hc _ _ _ _ h1 h2 ((List.cons.inj hl).2▸h3) (ih (List.cons.inj hl).2)
theorem J8V {prog:Program} {w':World} {es:List DictEntry} {kvs:List (Int×Value)}:Pairs (mixKind pw w) es (kvs.map λkv=>(Key.i kv.1,kv.2)) ->Pairs (intKind prog w') es kvs:=
 J2Q .nil λ_ _ _ _ h1 h2 _ ih=> .cons h1 h2 ih
theorem J8W {es:List DictEntry} {kvs:List (Int×Value)}:Pairs (mixKind pw w) es (kvs.map λkv=>(Key.i kv.1,kv.2)) -> ∀e∈es,∃k,mixIs (.i k) e.key=true:=
 J2Q (P:=λes _=> ∀e∈es,∃k,mixIs (.i k) e.key=true) (λ_ m=>absurd m List.not_mem_nil) λ_ _ kv _ h1 _ _ ih _ m=>(List.mem_cons.mp m).elim (λq=>⟨kv.1,q▸h1⟩) (ih _)
theorem ZP {h:Heap} {a:Addr} {kvs:List (Int×Value)} (x:DcAt w h a (kvs.map λkv=>(Key.i kv.1,kv.2))) (prog:Program) (w':World):h.DictOf (intKind prog w') a kvs:=by
 refine o34 x.1 λo es ep ho he hd hk q=>⟨o,es,ep,ho,he,hd,λe hm=>?_,J8V q.1,?_⟩
 ·refine o11 (hk e hm) λk=>Key.casesOn k (λk h1 h2=>⟨k,h1,h2⟩) λt h1 _=>o10 (J8W q.1 e (Array.mem_toList_iff.mpr hm)) λk hk'=>nomatch VN e.key (.s t) (.i k) h1 hk'
 ·refine List.Pairwise.of_map (S:=(· ≠ ·)) Key.i (λ_ _ h e=>h (e▸rfl)) ?_
  rw[List.map_map];rw[List.map_map]at q;exact q.2
theorem Kh {kvs:List (Int×Value)} {k:Int}:valueAt (kvs.map λkv=>(Key.i kv.1,kv.2)) (Key.i k)=valueAt kvs k:=by
 induction kvs with
 |nil=>rfl
 |cons kv kvs ih=>
  by_cases e:kv.1=k
  ·subst e;simp[valueAt]
  ·have: ¬Key.i kv.1=Key.i k:=λz=>e (by injection z)
   simpa[valueAt,e,this]using ih
theorem Jdl {A:Around} {s:Shared} {f:D ->D ->Option Bool} (hf: ∀va vb d d' r,Rep w s ms va d ->Rep w s ms vb d' ->f d d'=some r ->EqAt A s va vb r)
  {kb:List (Int×Value)} {b:List (Key×D)} (rb:RepK w s ms (kb.map λkv=>(Key.i kv.1,kv.2)) b) {ka:List (Int×Value)} {ds:List (Key×D)} {r:Bool}:
  RepK w s ms (ka.map λkv=>(Key.i kv.1,kv.2)) ds ->Y2 f b ds=some r ->PySem.W.KeqHits A s kb ka r:=by
 induction ka generalizing ds r with
 |nil=>
  intro x e
  induction ds with
  |nil=>exact Option.some.inj e▸ .nil
  |cons=>exact x.inv.elim
 |cons kv ka ih=>
  intro x e
  induction ds with
  |nil=>exact x.inv.elim
  |cons kd ds=>
   replace e:(match dget kd.1 b with|some y=>(f kd.2 y).bind λt=>(Y2 f b ds).map (t&& ·)|none=>some false)=some r:=e
   refine o02 x.inv λ(x1:Key.i kv.1=kd.1) x2 x3=>?_
   rw[<-x1]at e
   rcases rb.find (k:= .i kv.1)with h|h
   ·rw[h.1]at e
    exact Option.some.inj e▸ .miss (Kh▸h.2)
   ·refine o22 h λv' d' p q z=>?_
    rw[q]at e
    exact bnd e λr1 h1 h2=>mpd h2 λr2 h3 h4=>h4▸ .hit (Kh▸p) (hf _ _ _ _ _ x2 z h1) (ih x3 h3)
noncomputable def EqG (A:Around) (s:Shared) (va vb:Value) (r:Bool):Prop:=(va=vb ->r=true) ->RcAt A s va vb r/\ RcNeAt A s va vb (!r)/\ EqAt A s va vb r
theorem EqG.mk {A:Around} {s:Shared} {va vb:Value} {r:Bool} (hf: ∀a t b u,va= .float a t ->vb= .float b u ->False) (h:RcAt A s va vb r) (h':RcNeAt A s va vb (!r)):EqG A s va vb r:=λhs=>⟨h,h',EqAt.of_rc hs hf h⟩
section
variable {A:Around} {s:Shared} {f:D ->D ->Option Bool} (ih: ∀va vb d d' r,Rep w s ms va d ->Rep w s ms vb d' ->f d d'=some r ->EqAt A.in1 s va vb r) (hu:A.units<cLine) {a b:Addr} {vs us:List Value} {x y:List D} {r:Bool} (la:RepL w s ms vs x) (lb:RepL w s ms us y)
include ih la lb in
theorem eq_js (q: ∀j a b,x[j]?=some a ->y[j]?=some b ->f a b=some (eAt f x y j)) (j:Nat) (h1:j<vs.toArray.size) (h2:j<us.toArray.size):EqAt A.in1 s vs.toArray[j] us.toArray[j] (eAt f x y j):=
 o11 (la.get' (k:=j) (List.getElem?_eq_getElem h1)) λ_ g1 g2=>o11 (lb.get' (k:=j) (List.getElem?_eq_getElem h2)) λ_ g3 g4=>ih _ _ _ _ _ g2 g4 (q j _ _ g1 g3)
include ih la lb hu in
theorem Jgy (ha:TpAt s.heap a vs) (hb:TpAt s.heap b us) (e:(if x.length==y.length then allEq f x y else none)=some r):EqG A s (.ref a) (.ref b) r:=by
 refine J9 e λhl e=>o01 (Vl e (eq_of_beq hl)) λq1 q2=>?_
 have ez:((List.range (min vs.toArray.size us.toArray.size)).all (eAt f x y)&&vs.toArray.size==us.toArray.size)=r:=by
  rw[List.size_toArray,List.size_toArray,la.length,lb.length,eq_of_beq hl,Nat.min_self,beq_self_eq_true,Bool.and_true,<-eq_of_beq hl,q1]
 exact .mk (λ_ _ _ _ h=>Value.noConfusion h) (ez▸RcAt.tuples ha.isTuple hb.isTuple hu (eq_js ih la lb q2)) (ez▸RcNeAt.tuples ha.isTuple hb.isTuple hu (eq_js ih la lb q2))
include ih la lb hu in
theorem Jgx (ha:LsAt s.heap a vs) (hb:LsAt s.heap b us) (e:(if x.length==y.length then allEq f x y else some false)=some r):EqG A s (.ref a) (.ref b) r:=by
 have e1:vs.toArray.size=x.length:=la.length
 have e2:us.toArray.size=y.length:=lb.length
 by_cases hl:x.length=y.length
 ·rw[if_pos (beq_iff_eq.mpr hl)]at e
  refine o01 (Vl e hl) λq1 q2=>?_
  have hsz:vs.toArray.size=us.toArray.size:=e1.trans (hl.trans e2.symm)
  rw[<-e1]at q1
  exact .mk nofun (q1▸RcAt.lists ha.isList hb.isList hsz hu (eq_js ih la lb q2)) (q1▸RcNeAt.lists ha.isList hb.isList hsz hu (eq_js ih la lb q2))
 ·rw[if_neg λh=>hl (eq_of_beq h)]at e
  have hsz:(vs.toArray.size !=us.toArray.size)=true:=bne_iff_ne.mpr λh=>hl (e1.symm.trans (h.trans e2))
  exact Option.some.inj e▸ .mk nofun (RcAt.lists_lengths ha.isList hb.isList hsz hu) (RcNeAt.lists_lengths ha.isList hb.isList hsz hu)
omit la lb
include ih hu in
theorem Jgw {kvs kus:List (Key×Value)} {x y:List (Key×D)} (la:RepK w s ms kvs x) (lb:RepK w s ms kus y) (ha:DcAt w s.heap a kvs) (hb:DcAt w s.heap b kus) (e:(if Jf x&&Jf y then(if x.length==y.length then Y2 f y x else some false)else none)=some r):EqG A s (.ref a) (.ref b) r:=by
 refine J9 e λhk e=>o01 (Bool.and_eq_true_iff.mp hk) λk1 k2=>?_
 have i1:=VD la k1
 have i2:=VD lb k2
 have e1:=la.length;have e2:=lb.length
 rw[i1]at ha la e1
 rw[i2]at hb lb e2
 rw[List.length_map]at e1 e2
 clear i1 i2 hk k1 k2
 by_cases hl:x.length=y.length
 ·rw[if_pos (beq_iff_eq.mpr hl)]at e
  have ez:((Jr kvs).length==(Jr kus).length&&r)=r:=by rw[e1,e2,hl,beq_self_eq_true,Bool.true_and]
  have hits:=Jdl ih lb la e
  exact .mk (λ_ _ _ _ h=>Value.noConfusion h) (λprog w' E Q h=>PySem.W.keq_eq ha.2 hb.2 (ZP ha prog w') (ZP hb prog w') hu (λ_=>hits) (ez.symm▸h)) (λprog w' E Q h=>PySem.W.keq_ne ha.2 hb.2 (ZP ha prog w') (ZP hb prog w') hu (λ_=>hits) (ez.symm▸h))
 ·rw[if_neg λh=>hl (eq_of_beq h)]at e
  have ez:((Jr kvs).length==(Jr kus).length&&true)=r:=by rw[e1,e2,beq_eq_false_iff_ne.mpr hl,Bool.false_and,Option.some.inj e]
  have no: ∀{P:Prop},(Jr kvs).length=(Jr kus).length ->P:=λq=>absurd (e1.symm.trans (q.trans e2)) hl
  exact .mk (λ_ _ _ _ h=>Value.noConfusion h) (λprog w' E Q h=>PySem.W.keq_eq (r:=true) ha.2 hb.2 (ZP ha prog w') (ZP hb prog w') hu no (ez.symm▸h)) (λprog w' E Q h=>PySem.W.keq_ne (r:=true) ha.2 hb.2 (ZP ha prog w') (ZP hb prog w') hu no (ez.symm▸h))
end
theorem Jgu (n:Nat): ∀{A:Around} {s:Shared} {va vb:Value} {a b:D} {r:Bool},eqD n a b=some r ->Told s.heap ->A.units+n<cLine ->Rep w s ms va a ->Rep w s ms vb b ->EqG A s va vb r:=by
 induction n with
 |zero=>exact λe=>nn e
 |succ n ih0=>
  intro A s va vb a b r e hT hu ra rb
  have ih: ∀va vb d d' r,Rep w s ms va d ->Rep w s ms vb d' ->eqD n d d'=some r ->EqAt A.in1 s va vb r:=λva vb d d' r x y q=>
   (ih0 (A:=A.in1) q hT (by show A.units+1+n<cLine;lia) x y λh=>J4L n va d d' r x (h▸y) q).2.2
  clear ih0
  have hu0:A.units<cLine:=Nat.lt_of_le_of_lt (Nat.le_add_right ..) hu
  replace e:Jgv (eqD n) (shB a b)=some r:=e
  generalize shB a b=z at e
  induction z with
  |bb x y=>exact ra.bE (rb.bE (Option.some.inj e▸ .mk (λ_ _ _ _ h=>Value.noConfusion h) (RcAt.bool_bool _ _) (RcNeAt.bool_bool _ _)))
  |ii x y=>exact ra.iE λ_=>rb.iE λ_=>Option.some.inj e▸ .mk (λ_ _ _ _ h=>Value.noConfusion h) (RcAt.int_int _ _ _ _) (RcNeAt.int_int _ _ _ _)
  |ib x y=>exact ra.iE λ_=>rb.bE (Option.some.inj e▸ .mk (λ_ _ _ _ h=>Value.noConfusion h) (RcAt.int_bool _ _ _) (RcNeAt.int_bool _ _ _))
  |bi x y=>exact ra.bE (rb.iE λ_=>Option.some.inj e▸ .mk nofun (RcAt.bool_int _ _ _) (RcNeAt.bool_int _ _ _))
  |ss x y=>exact ra.sE λ_ _ _=>rb.sE λ_ _ _=>Option.some.inj e▸ .mk nofun (RcAt.str_str _ _ _ _) (RcNeAt.str_str _ _ _ _)
  |ff x y=>
   refine ra.fE λt ht=>rb.fE λu ht'=>J9 e λhc g=>o01 (Bool.and_eq_true_iff.mp hc) λhxy hn=>?_
   clear e hc
   have hxy:=eq_of_beq hxy
   clear rb;subst hxy
   have hn:Float64.isNaN x=false:=by simpa using hn
   have hcm:=Flt.cmp_self x|>.trans (show(!Float64.isNaN x)=true by rw[hn];rfl)
   exact Option.some.inj g▸λ_=>⟨λprog w' E Q h=>AutoFloatOps.eq_0 (hcm.symm▸h),λprog w' E Q h=>AutoFloatOps.ne_0 (by rw[bne,hcm];exact h),EqAt.flt hT ht ht' hn⟩
  |fi x y=>exact ra.fE λ_ _=>rb.iE λ_=>Option.some.inj e▸ .mk nofun (λprog w' E Q h=>eq_fi h) (λprog w' E Q h=>ne_fi h)
  |tt x y=>exact ra.tE λ_ _ ha _ la=>rb.tE λ_ _ hb _ lb=>Jgy ih hu0 la lb ha hb e
  |ll x y=>exact ra.lE λ_ _ ha _ la=>rb.lE λ_ _ hb _ lb=>Jgx ih hu0 la lb ha hb e
  |dd x y=>exact ra.dE λ_ _ ha _ la=>rb.dE λ_ _ hb _ lb=>Jgw ih hu0 la lb ha hb e
  |_=>exact nn e
theorem Jcl (n:Nat) {A:Around} {s:Shared} {va vb:Value} {a b:D} {r:Bool} (e:eqD n a b=some r) (hT:Told s.heap) (hu:A.units+n<cLine) (ra:Rep w s ms va a) (rb:Rep w s ms vb b):
  RcAt A s va vb r/\ RcNeAt A s va vb (!r)/\ EqAt A s va vb r:=Jgu n e hT hu ra rb λh=>J4L n va a b r ra (h▸rb) e
end
theorem Jb {i:Int} {n k:Nat} (h:seqIndex? i n=some k):(0<=i/\ i<n/\ k=i.toNat)∨(i<0/\ 0<=i+n/\ k=(i+n).toNat/\ i+n<n):=by
 unfold seqIndex? at h
 by_cases h0:i<0
 ·simp only[h0,if_true]at h
  refine J9 h λhc h=>?_
  (replace h:=Option.some.inj h;subst h)
  simp only[Bool.and_eq_true,decide_eq_true_eq]at hc
  exact .inr ⟨h0,hc.1,rfl,hc.2⟩
 ·simp only[h0,if_false]at h
  refine J9 h λhc h=>?_
  (replace h:=Option.some.inj h;subst h)
  simp only[Bool.and_eq_true,decide_eq_true_eq]at hc
  exact .inl ⟨hc.1,hc.2,rfl⟩
theorem YV {n k:Nat} {i:Int} (h:idx n i=some k):n<=1000000/\ seqIndex? i n=some k/\ k<n:=by
 unfold idx at h
 split at h
 ·rename_i hn
  refine⟨hn,h,?_⟩
  rcases Jb h with⟨h1,h2,rfl⟩|⟨h1,h2,rfl,h3⟩<;>lia
 ·cases h
section
variable {w:World} {mg mb:Str ->Option Value} {A:Around} {E:Value ->Shared ->Prop} {s:Shared} {ms:List Addr}
theorem Cx.told (C:Cx w mg mb s ms):Told s.heap:=o12 C.glob.digits λmc e _ e2=>⟨mc,e,e2⟩
theorem DcAt.mapOf {a:Addr} {kvs:List (Key×Value)} (x:DcAt w s.heap a kvs):s.heap.MapOf (mixKind pw w) a (valueAt kvs):=x.1.mapOf
inductive BRep (w:World) (s:Shared) (ms:List Addr):Value ->D ->Prop
 |val {v:Value} {d:D}:Rep w s ms v d ->BRep w s ms v d
 |lst {a:Addr} {vs:List Value} {ds:List D}:LsAt s.heap a vs ->RepL w s ms vs ds ->BRep w s ms (.ref a) (.lst ds)
 |dct {a:Addr} {kvs:List (Key×Value)} {ds:List (Key×D)}:DcAt w s.heap a kvs ->RepK w s ms kvs ds ->BRep w s ms (.ref a) (.dct ds)
noncomputable def JeD (w:World) (s:Shared) (ms:List Addr) (v:Value):D ->Prop
 | .lst l=> ∃a vs,v= .ref a/\ LsAt s.heap a vs/\ RepL w s ms vs l
 | .dct l=> ∃a kvs,v= .ref a/\ DcAt w s.heap a kvs/\ RepK w s ms kvs l
 |d=>Rep w s ms v d
theorem BRep.inv {v:Value} {d:D} (x:BRep w s ms v d):JeD w s ms v d:=
 BRep.casesOn (motive:=λv d _=>JeD w s ms v d) x (λ{v d} r=>by
  cases d with
  |lst l=>exact o23 r.inv λa vs e h _ la=>⟨a,vs,e,h,la⟩
  |dct l=>exact o23 r.inv λa vs e h _ la=>⟨a,vs,e,h,la⟩
  |_=>exact r) (λh la=>⟨_,_,rfl,h,la⟩) λh la=>⟨_,_,rfl,h,la⟩
theorem BRep.lst' {v:Value} {l:List D} (x:BRep w s ms v (.lst l)): ∃a vs,v= .ref a/\ LsAt s.heap a vs/\ RepL w s ms vs l:=x.inv
theorem BRep.dct' {v:Value} {l:List (Key×D)} (x:BRep w s ms v (.dct l)): ∃a kvs,v= .ref a/\ DcAt w s.heap a kvs/\ RepK w s ms kvs l:=x.inv
theorem BRep.str' {v:Value} {x:Str} (r:BRep w s ms v (.str x)): ∃t,v= .str x t/\ t≠0/\ t<s.toks:=Rep.inv r.inv
theorem BRep.obj' {v:Value} {d:D} (r:BRep w s ms v (.obj d)): ∃a u,v= .ref a/\ ObAt s.heap ms a u/\ Rep w s ms u d:=Rep.inv r.inv
theorem BRep.toRep {v:Value} {d:D} (x:BRep w s ms v d) (h1: ∀l,d≠ .lst l) (h2: ∀l,d≠ .dct l):Rep w s ms v d:=by
 cases d with
 |lst l=>exact absurd rfl (h1 l)
 |dct l=>exact absurd rfl (h2 l)
 |_=>exact x.inv
theorem BRep.kp {s':Shared} {v:Value} {d:D} (x:BRep w s ms v d) (k:Kp s s'):BRep w s' ms v d:=by
 cases x with
 |val r=>exact .val (r.kp k)
 |lst ha la=>exact .lst (o10 ha λn e=>⟨n,k.hp _ _ e⟩) (la.kp k)
 |dct ha la=>exact .dct ⟨ha.1.keep k.hp,ha.2⟩ (la.kp k)
theorem Y8 {v:Value} {d:D} {k:Key} (h:Vb d=some k) (r:Rep w s ms v d):(mixKind pw w).is k v=true:=by
 cases r<;>cases h
 ·exact beq_self_eq_true _
 ·exact beq_self_eq_true _
theorem J5U {op:CmpOp} {a b:D} {r:Bool} {n:Nat} {va vb:Value} {Q:Value ->Shared ->Prop} (h:Kj op a b=some r) (hA:AOk n A) (C:Cx w mg mb s ms) (ra:Rep w s ms va a) (rb:Rep w s ms vb b)
  (hQ: ∀s',Kp s s' ->Q (.bool r) s'):wpAny (model pw w) A (compareOp op va vb) Q E s:=by
 have h0:Q (.bool r) s:=hQ s (Kp.rfl' s)
 have hu:=hA.cu
 replace h:JeP (shC op a b)=some r:=h
 generalize shC op a b=z at h
 induction z with
 |ltI x y=>refine ra.iE λt=>rb.iE λu=>?_;(replace h:=Option.some.inj h;clear hQ;subst h);exact lt_int h0
 |leI x y=>refine ra.iE λt=>rb.iE λu=>?_;(replace h:=Option.some.inj h;clear hQ;subst h);exact le_int h0
 |gtI x y=>refine ra.iE λt=>rb.iE λu=>?_;(replace h:=Option.some.inj h;clear hQ;subst h);exact gt_int h0
 |geI x y=>refine ra.iE λt=>rb.iE λu=>?_;(replace h:=Option.some.inj h;clear hQ;subst h);exact ge_int h0
 |eqF x y=>refine ra.fE λt _=>rb.fE λu _=>?_;(replace h:=Option.some.inj h;clear hQ;subst h);exact AutoFloatOps.eq_0 h0
 |ltF x y=>refine ra.fE λt _=>rb.fE λu _=>?_;(replace h:=Option.some.inj h;clear hQ;subst h);exact AutoFloatOps.lt_0 h0
 |leF x y=>refine ra.fE λt _=>rb.fE λu _=>?_;(replace h:=Option.some.inj h;clear hQ;subst h);exact AutoFloatOps.le_0 h0
 |gtF x y=>refine ra.fE λt _=>rb.fE λu _=>?_;(replace h:=Option.some.inj h;clear hQ;subst h);exact AutoFloatOps.gt_0 h0
 |isB x y=>
  refine ra.bE (rb.bE ?_)
  (replace h:=Option.some.inj h;subst h)
  refine wpAny_is_plain rfl ?_
  have e:(Value.bool x==Value.bool y)=(x==y):=by clear ra;cases x<;>cases y<;>decide
  rw[e];exact h0
 |nn=>refine ra.nE (rb.nE ?_);(replace h:=Option.some.inj h;clear hQ;subst h);exact wpAny_isNot_self rfl h0
 |sn x=>refine ra.sE λt _ _=>rb.nE ?_;(replace h:=Option.some.inj h;clear hQ;subst h);exact wpAny_isNot_other rfl (λh=>nomatch h) h0
 |eq=>exact(Jcl Vt h C.told (by show A.units+6<cLine;lia) ra rb).1 pw w E Q h0
 |ne=>
  refine mpd h λr' h2 h3=>?_
  clear hQ h;subst h3
  exact(Jcl Vt h2 C.told (by show A.units+6<cLine;lia) ra rb).2.1 pw w E Q h0
 |other=>exact nn h
theorem J89 {a b:D} {r:Bool} {va vb:Value} {Q:Value ->Shared ->Prop} (h:inD a b=some r) (ra:Rep w s ms va a) (rb:BRep w s ms vb b)
  (hQ: ∀s',Kp s s' ->Q (.bool r) s'):wpAny (model pw w) A (compareOp .In va vb) Q E s:=by
 have h0:Q (.bool r) s:=hQ s (Kp.rfl' s)
 have h1:Q (.bool r) {s with toks:=s.toks+1}:=hQ _ (Kp.tok1 s)
 replace h:JhA (shB a b)=some r:=h
 generalize shB a b=z at h
 induction z with
 |ss x y=>
  refine o11 ra.sI λ_ q1 _=>?_;clear ra;subst q1
  refine o11 ((rb.toRep nofun nofun).sI) λ_ q2 _=>?_;clear rb;subst q2
  (replace h:=Option.some.inj h;clear hQ h1;subst h);exact P.in_str h0
 |is x l=>
  refine o10 ra.iI λ_ q3=>?_;clear ra;subst q3
  refine o12 ((rb.toRep nofun nofun).zI) λ_ q4 q5 hn=>?_;clear rb;subst q4;obtain⟨n,hs⟩:=q5
  (replace h:=Option.some.inj h;clear hQ h0;subst h)
  exact wpAny_inSet_of (knd:=intKind pw w) (by exact beq_self_eq_true _) rfl hs h1
 |id x l=>
  refine o10 ra.iI λ_ q6=>?_;clear ra;subst q6
  refine o22 rb.dct' λa kvs q7 hd lb=>?_;clear rb;subst q7
  (replace h:=Option.some.inj h;clear hQ h0;subst h)
  refine wpAny_in_of (knd:=mixKind pw w) (k:= .i x) (beq_self_eq_true _) hd.2 hd.mapOf ?_
  rcases lb.find (k:= .i x)with⟨p,q⟩|⟨v,d,p,q,z⟩
  ·rw[q];rw[p]at h1;exact h1
  ·rw[p];rw[q]at h1;exact h1
 |_=>exact nn h
theorem J9C {op:UnaryOp} {a d:D} {va:Value} {Q:Value ->Shared ->Prop} (h:unD op a=some d) (ra:Rep w s ms va a) (hQ: ∀v s',Kp s s' ->Rep w s' ms v d ->Q v s'):
  wpAny (model pw w) A (unaryOp op va) Q E s:=by
 cases op with
 |USub=>cases a with
  |int i=>exact ra.iE λt=>neg_int (hQ _ _ (Kp.tok1 s) (Option.some.inj h▸ .int _ _))
  |_=>exact nn h
 |_=>exact nn h
theorem J3j {a:D} {r:Bool} {va:Value} {Q:Bool ->Shared ->Prop} (h:truthy a=some r) (ra:Rep w s ms va a) (hQ:Q r s):wpAny (model pw w) A (PySem.truthy va) Q E s:=by
 cases a with
 |bool b=>exact ra.bE (wpAny_truthy_bool (Option.some.inj h▸hQ))
 |int i=>exact ra.iE λt=>P.truthy_int (Option.some.inj h▸hQ)
 |_=>exact nn h
theorem VH {o i d:D} {vo vi:Value} {Q:Value ->Shared ->Prop} (h:itemD o i=some d) (C:Cx w mg mb s ms) (ro:BRep w s ms vo o) (ri:Rep w s ms vi i)
  (hQ: ∀v s',Kp s s' ->Rep w s' ms v d ->Q v s'):wpAny (model pw w) A (getItem vo vi) Q E s:=by
 replace h:Jds i (shD o)=some d:=h
 generalize shD o=z at h
 induction z with
 |dct l=>
  refine o22 ro.dct' λa kvs q1 ha lb=>?_;subst q1
  refine bnd h λk hk hd=>?_
  rcases lb.find (k:=k)with⟨p,q⟩|⟨v,d',p,q,z⟩
  ·rw[p]at hd;exact nn hd
  ·rw[q]at hd;(replace hd:=Option.some.inj hd;clear h;subst hd)
   exact wpAny_getItem_of (knd:=mixKind pw w) (Y8 hk ri) ha.mapOf p (hQ _ _ (Kp.tok1 s) (z.kp (Kp.tok1 s)))
 |other o=>
  replace h:J8e (shB o i)=some d:=h
  generalize shB o i=z at h
  induction z with
  |li l i=>
   refine o22 ro.lst' λa vs q2 ha la=>?_;subst q2
   refine o10 ri.iI λt q3=>?_;subst q3
   refine bnd h λk hk hd=>?_
   refine o02 (YV hk) λhl hs hlt=>?_
   refine o11 (la.get hd) λv hv r=>?_
   have e:=la.length
   have hQ':=hQ v s (Kp.rfl' s) r
   rcases Jb hs with⟨h1,h2,rfl⟩|⟨h1,h2,rfl,h3⟩
   ·exact wpAny_getItem_list ha.isList h1 (by lia) (by simpa using hv) hQ'
   ·exact wpAny_getItem_list_neg ha.isList h1 (by simp only[List.size_toArray];lia) (by lia) (by simp only[List.size_toArray,e];simpa using hv) hQ'
  |ti l i=>
   refine o23 (ro.toRep nofun nofun|>.tI) λa vs q4 q5 hn la=>?_;clear ro;subst q4;obtain⟨n,ha⟩:=q5
   refine o10 ri.iI λt q6=>?_;clear ri;subst q6
   refine bnd h λk hk hd=>?_
   refine o02 (YV hk) λhl hs hlt=>?_
   refine o11 (la.get hd) λv hv r=>?_
   have e:=la.length
   exact P.getItem_tuple ha (by rcases Jb hs with⟨h1,h2,rfl⟩|⟨h1,h2,rfl,h3⟩<;>lia) (by rcases Jb hs with⟨h1,h2,rfl⟩|⟨h1,h2,rfl,h3⟩<;>lia)
    (by simp only[List.size_toArray,e];exact hs) (by simpa using hv) (hQ v s (Kp.rfl' s) r)
  |si x i=>
   refine o12 (ro.toRep nofun nofun|>.sI) λt q7 ht hb=>?_;subst q7
   refine o10 ri.iI λu q8=>?_;subst q8
   refine bnd h λk hk hd=>?_
   refine o02 (YV hk) λhl hs hlt=>?_
   refine mpd hd λc hc q9=>?_;clear h;subst q9
   refine P.getItem_str (c:=c) ?_ (by rw[hs];exact hc) (hQ _ _ (Kp.tok1 s) (.str _ _ C.pos (Nat.lt_succ_self _)))
   rcases Jb hs with⟨h1,h2,rfl⟩|⟨h1,h2,rfl,h3⟩<;>simp<;>lia
  |_=>exact nn h
end
section
variable {w:World} {mg mb:Str ->Option Value} {A:Around} {E:Value ->Shared ->Prop} {s:Shared} {ms:List Addr}
noncomputable def PartRep (w:World) (s:Shared) (ms:List Addr) (v:Value):Option D ->Prop
 |none=>v= .none
 |some d=>Rep w s ms v d
theorem PartRep.kp {s s':Shared} {v:Value} {d:Option D} (x:PartRep w s ms v d) (k:Kp s s'):PartRep w s' ms v d:=by
 cases d with
 |none=>exact x
 |some d=>exact Rep.kp x k
theorem J7j {v:Value} {d:Option D} {k:Option Int} (h:bd d=some k) (r:PartRep w s ms v d):IsPart v k/\ ∃p:Option (Int×Tok),v=partValue p/\ p.map (·.1)=k:=by
 cases d with
 |none=>
  (replace h:=Option.some.inj h;subst h)
  have r:v= .none:=r
  subst r
  exact⟨.none,none,rfl,rfl⟩
 |some d=>
  cases d<;>cases h
  have r:Rep w s ms v _:=r
  exact r.iE λt=>⟨.int _ t,some (_,t),rfl,rfl⟩
theorem RepL.pick: ∀{vs:List Value} {ds:List D} (is:List Nat),RepL w s ms vs ds ->RepL w s ms (is.filterMap (vs[·]?)) (is.filterMap (ds[·]?))
 |_,_,[],_=> .nil
 |vs,ds,j::is,x=>by
  rw[List.filterMap_cons,List.filterMap_cons]
  cases h:ds[j]? with
  |none=>
   have e:=x.length
   have h':vs[j]?=none:=by
    rw[List.getElem?_eq_none_iff]at h⊢;lia
   rw[h']
   exact RepL.pick is x
  |some d=>
   refine o11 (x.get h) λv h' r=>?_
   rw[h']
   exact .cons r (RepL.pick is x)
set_option tactic.hygienic true in
theorem J34 {o d:D} {lo hi:Option D} {vo vl vu:Value} {a:Addr} {Q:Value ->Shared ->Prop} (h:JL o lo hi=some d) (C:Cx w mg mb s ms) (ro:Rep w s ms vo o)
  (rl:PartRep w s ms vl lo) (ru:PartRep w s ms vu hi) (hs:s.heap.IsSliceOf a vl vu .none) (hQ: ∀v s',Kp s s' ->Rep w s' ms v d ->Q v s'):wpAny (model pw w) A (getItem vo (.ref a)) Q E s:=by
 refine bnd h λl h1 h3=>bnd h3 λu h2 h=>o01 (J7j h1 rl) λpl q1=>o11 q1 λp q2 el=>o01 (J7j h2 ru) λpu q3=>o11 q3 λq q4 eu=>?_
 rw[q2]at hs;rw[q4]at hs
 clear h3 h1 h2 rl ru q1 q3
 cases o with
 |str x=>
  refine ro.sE λt ht hb=>J9 h λhl h=>wpAny_getItem_str_slice (l:=p) (u:=q) (st:=none) hs rfl (MadeIs.post C (d:=d) ?_ hQ)
  unfold sliceMade slicePicked
  rw[el,eu]
  simp only[Option.map_none,Option.getD_none,beq_self_eq_true,Bool.true_and]
  clear hQ
  by_cases hc:((Builtin.Str.strSliceIndices l u 1 x.length).length==x.length)=true
  ·rw[if_pos hc]at h
   rw[if_pos hc,<-Option.some.inj h]
   exact .val (.str _ _ ht hb)
  ·rw[if_neg hc]at h
   rw[if_neg hc,<-Option.some.inj h]
   refine .str _ ?_
   have e1:(Builtin.Str.strSliceIndices l u 1 x.length).length<=x.length:=sliceIndices_le ..
   have e2:=List.length_filterMap_le (x.cps[·]?) (Builtin.Str.strSliceIndices l u 1 x.length)
   show(List.toArray _).size<=sizeLine
   rw[List.size_toArray,sizeLine_eq]
   lia
 |lst xs=>
  refine ro.lE λb vs ha hn la=>J9 h λhl h=>?_
  have e:=la.length
  rw[<-Option.some.inj h]at hQ
  clear h
  refine wpAny_getItem_list_slice (lo:=l) (hi:=u) (st:=none) ha.isList hs (q2▸pl) (q4▸pu) .none (λh=>nn h) (hQ _ _ (Kp.push s _) ?_) (by rw[sizeLine_eq];simp only[List.size_toArray];lia)
  have:=JK C (la.pick (sliceRange (sliceBounds l u none xs.length).1 (sliceBounds l u none xs.length).2.1 (sliceBounds l u none xs.length).2.2))
  unfold slicePick
  simp only[List.size_toArray,List.getElem?_toArray,e]
  exact this
 |_=>exact nn h
end
section
variable {w:World} {mg mb:Str ->Option Value} {A:Around} {E:Value ->Shared ->Prop} {s:Shared} {ms:List Addr}
theorem Vd {vs:List Value} {d:D} (x:RepL w s ms vs [d]): ∃v,vs=[v]/\ Rep w s ms v d:=by
 cases x with|cons r y=>cases y;exact⟨_,rfl,r⟩
theorem J2T {vs:List Value} {d e:D} (x:RepL w s ms vs [d,e]): ∃v u,vs=[v,u]/\ Rep w s ms v d/\ Rep w s ms u e:=by
 cases x with|cons r y=>refine o11 (Vd y) λu q1 r'=>?_;clear y;subst q1;exact⟨_,_,rfl,r,r'⟩
theorem JfI {vs:List Value} {d e f:D} (x:RepL w s ms vs [d,e,f]): ∃v u t,vs=[v,u,t]/\ Rep w s ms v d/\ Rep w s ms u e/\ Rep w s ms t f:=by
 cases x with|cons r y=>refine o22 (J2T y) λu t q1 r' r''=>?_;clear y;subst q1;exact⟨_,_,_,rfl,r,r',r''⟩
@[elab_as_elim] theorem bE {P:List Value ->Prop} {g1:D ->Option D} {g2:D ->D ->Option D} {g3:D ->D ->D ->Option D} {as:List D} {vs:List Value} {d:D} (h:Zi g1 g2 g3 as=some d) (rs:RepL w s ms vs as) (k1: ∀v a,g1 a=some d ->Rep w s ms v a ->P [v])
  (k2: ∀u v a b,g2 a b=some d ->Rep w s ms u a ->Rep w s ms v b ->P [u,v]) (k3: ∀u v t a b c,g3 a b c=some d ->Rep w s ms u a ->Rep w s ms v b ->Rep w s ms t c ->P [u,v,t]):P vs:=by
 cases as with
 |nil=>exact nn h
 |cons a as=>cases as with
  |nil=>exact o11 (Vd rs) λv q r=>q▸k1 v a h r
  |cons b as=>cases as with
   |nil=>exact o22 (J2T rs) λu v q r r'=>q▸k2 u v a b h r r'
   |cons c as=>cases as with
    |nil=>exact o33 (JfI rs) λu v t q r r' r''=>q▸k3 u v t a b c h r r' r''
    |cons=>exact nn h
theorem Yk {a:D} {x:Int} (h:J46 a=some x):a= .int x:=by
 cases a with|int i=>exact congrArg D.int (Option.some.inj h)|_=>exact nn h
theorem Vg {a:D} {x:UInt64} (h:J7T a=some x):a= .flt x:=by
 cases a with|flt i=>exact congrArg D.flt (Option.some.inj h)|_=>exact nn h
theorem JbT {a:D} {x:Str} (h:Jed a=some x):a= .str x:=by
 cases a with|str i=>exact congrArg D.str (Option.some.inj h)|_=>exact nn h
theorem Jen {a:D} {x:String} (h:JhP a=some x):a= .ty x:=by
 cases a with|ty i=>exact congrArg D.ty (Option.some.inj h)|_=>exact nn h
theorem J8p {o d:D} {v:Value} {Q:Value ->Shared ->Prop} (h:JhD o=some d) (r:Rep w s ms v o) (hQ: ∀v s',Kp s s' ->Rep w s' ms v d ->Q v s'):
  wpAny (model pw w) A (call (.builtin "len") [v]) Q E s:=by
 cases o with
 |lst l=>exact J9 h λhl e=>r.lE λa vs ha hn la=>Calls.call_len_list ha.isList (by rw[List.size_toArray,la.length];lia) (hQ _ _ (Kp.tok2 s) (by rw[List.size_toArray,la.length,<-Option.some.inj e];exact .int _ _))
 |str x=>exact J9 h λhl e=>r.sE λt _ _=>P.len_str (by lia) (hQ _ _ (Kp.tok2 s) (Option.some.inj e▸ .int _ _))
 |_=>exact nn h
theorem isV {o d:D} {t:String} (h:(isI o t).map D.bool=some d):(∃l,o= .tup l/\ t="tuple"/\ d= .bool true)∨(∃x,o= .flt x/\ t="float"/\ d= .bool true)∨ ∃i,o= .int i/\ (t="bool"∨t="tuple")/\ d= .bool false:=by
 cases o with
 |tup l=>exact mpd h λb h e=>J9 h λq h=> .inl ⟨l,rfl,eq_of_beq q,by rw[<-e,<-Option.some.inj h]⟩
 |flt x=>exact mpd h λb h e=>J9 h λq h=> .inr (.inl ⟨x,rfl,eq_of_beq q,by rw[<-e,<-Option.some.inj h]⟩)
 |int i=>
  refine mpd h λb h e=> .inr (.inr ⟨i,rfl,?_⟩)
  replace h:(if t=="bool"then some false else if t=="tuple"then some false else none)=some b:=h
  by_cases q:(t=="bool")=true
  ·rw[if_pos q]at h;exact⟨.inl (eq_of_beq q),by rw[<-e,<-Option.some.inj h]⟩
  ·rw[if_neg q]at h;exact J9 h λq h=>⟨.inr (eq_of_beq q),by rw[<-e,<-Option.some.inj h]⟩
 |_=>exact nn h
theorem Va {o d:D} {t:String} {v:Value} {Q:Value ->Shared ->Prop} (h:(isI o t).map D.bool=some d) (r:Rep w s ms v o) (hQ: ∀v s',Kp s s' ->Rep w s' ms v d ->Q v s'):
  wpAny (model pw w) A (call (.builtin "isinstance") [v,.type t]) Q E s:=by
 rcases isV h with⟨l,rfl,rfl,rfl⟩|⟨x,rfl,rfl,rfl⟩|⟨i,rfl,rfl|rfl,rfl⟩
 ·exact r.tE λa vs ha _ _=>o10 ha λn ha=>IsiPair.tuple_tuple ha rfl (hQ _ _ (Kp.rfl' s) (.bool _))
 ·exact r.fE λ_ _=>IsiPair.float_float (hQ _ _ (Kp.rfl' s) (.bool _))
 ·exact r.iE λ_=>IsiPair.int_bool (hQ _ _ (Kp.tok1 s) (.bool _))
 ·exact r.iE λ_=>IsiPair.int_tuple (hQ _ _ (Kp.tok1 s) (.bool _))
theorem J18 {o d:D} {v:Value} {Q:Value ->Shared ->Prop} (h:Jhw o=some d) (C:Cx w mg mb s ms) (r:Rep w s ms v o)
  (hQ: ∀x t,d= .str x ->s.toks<=t ->t≠0 ->Q (.str x t) {s with toks:=t+1}):
  wpAny (model pw w) A (call (.builtin "chr") [v]) Q E s:=
 bnd h λi h1 h2=>J6g h2 λhc e=>(Yk h1▸r).iE λt=>P.chr_of_int (by simpa using hc) (hQ _ _ (Option.some.inj e).symm (Nat.le_refl _) C.pos)
theorem J8N {o d:D} {v:Value} {Q:Value ->Shared ->Prop} (h:JhI o=some d) (r:Rep w s ms v o) (hQ: ∀v s',Kp s s' ->Rep w s' ms v d ->Q v s'):
  wpAny (model pw w) A (call (.builtin "ord") [v]) Q E s:=by
 cases o with
 |str x=>
  replace h:JhH x.cps.toList=some d:=h
  cases q:x.cps.toList with
  |nil=>rw[q]at h;exact nn h
  |cons c l=>cases l with
   |cons=>rw[q]at h;exact nn h
   |nil=>
    rw[q]at h
    have e:x=⟨#[c]⟩:=congrArg Str.mk (Array.ext' q)
    exact r.sE λt _ _=>e▸P.ord_of_char (hQ _ _ (Kp.tok1 s) (Option.some.inj h▸ .int _ _))
 |_=>exact nn h
theorem J6S {o d:D} {v:Value} {Q:Value ->Shared ->Prop} (h:JhK o=some d) (C:Cx w mg mb s ms) (r:Rep w s ms v o) (hQ: ∀v s',Kp s s' ->Rep w s' ms v d ->Q v s'):
  wpAny (model pw w) A (call (.type "str") [v]) Q E s:=
 bnd h λi h1 h2=>J9 h2 λhc e=>(Yk h1▸r).iE λt=>P.str_of_int (of_decide_eq_true hc) (hQ _ _ (Kp.tok1 s) (Option.some.inj e▸ .str _ _ C.pos (Nat.lt_succ_self _)))
theorem J4A {o d:D} {v:Value} {Q:Value ->Shared ->Prop} (h:JhO o=some d) (C:Cx w mg mb s ms) (r:Rep w s ms v o) (hQ: ∀v s',Kp s s' ->Rep w s' ms v d ->Q v s'):
  wpAny (model pw w) A (call (.type "tuple") [v]) Q E s:=by
 cases o with
 |lst l=>
  refine J9 h λhl e=>r.lE λa vs ha hn la=>call_tuple_list ha.isList (λh' hk=>?_) (by rw[sizeLine_eq,List.size_toArray,la.length];lia)
  have k1:Kp s {s with heap:=h'}:=⟨Keeps.mk' hk,Nat.le_refl _⟩
  exact hQ _ _ (k1.tr (Kp.push _ _)) (Option.some.inj e▸JW (C.keeps k1) (la.kp k1))
 |_=>exact nn h
theorem J5Z {o d:D} {v:Value} {Q:Value ->Shared ->Prop} (h:JeW o=some d) (C:Cx w mg mb s ms) (r:Rep w s ms v o) (hQ: ∀v s',Kp s s' ->Rep w s' ms v d ->Q v s'):
  wpAny (model pw w) A (call (.type "dict") [v]) Q E s:=by
 cases o with
 |dct l=>
  refine J9 h λhl e=>r.dE λa kvs ha hn la=>kt_call_dict ha.2 ha.1 (by rw[sizeLine_eq,la.length];lia) (λh' hd hs=>?_)
  have k1:Kp s {s with heap:=h'}:=⟨Keeps.mk' λb o e=>hs.extBut b o (Nat.ne_of_lt (Heap.lt_size e)) (Heap.get?_push_of_some _ e),Nat.le_refl _⟩
  exact hQ _ _ k1 (Option.some.inj e▸ .dct ⟨hd,beq_eq_false_iff_ne.mpr (Nat.ne_of_gt (Nat.lt_of_lt_of_le (by decide) C.big))⟩ C.fresh (la.kp k1))
 |_=>exact nn h
theorem J6f {o d:D} {v:Value} {Q:Value ->Shared ->Prop} (h:JhB o=some d) (r:Rep w s ms v o) (hQ: ∀v s',Kp s s' ->Rep w s' ms v d ->Q v s'):
  wpAny (model pw w) A (call (.type "int") [v]) Q E s:=by
 refine bnd h λx h1 h2=>(Vg h1▸r).fE λt _=>?_
 clear h h1
 cases q:Float64.decode x with
 |fin neg m e=>rw[q]at h2;exact call_int_float q (hQ _ _ (Kp.tok1 s) (Option.some.inj h2▸ .int _ _))
 |_=>rw[q]at h2;exact nn h2
end
theorem Yr (x y:Str) (i:Int) (t u v:Tok) (k:Nat) (rest:List Nat) (h:Builtin.Str.occurrences x y (fromIndex x.length i) x.length 1=k::rest):
  Gives (Builtin.«str.index» ⟨[.str x t,.str y u,.int i v],[]⟩) (.int k):=by
 show Gives (match Builtin.Str.occurrences x y (fromIndex x.length i) (min x.length x.length) 1 with|k::_=>retInt k|[]=>(do rule "str.index.not-found";raiseError "ValueError" "substring not found")) _
 rw[Nat.min_self,h]
 exact .of_eq rfl
section
variable {w:World} {mg mb:Str ->Option Value} {A:Around} {E:Value ->Shared ->Prop} {s:Shared} {ms:List Addr}
theorem J6V {l:List D}: ∀{vs:List Value} {xs:List Str},Kc l=some xs ->RepL w s ms vs l -> ∃p:List (Str×Tok),vs=strValues p/\ p.map (·.1)=xs/\ ∀q∈p,q.2≠0/\ q.2<s.toks:=by
 induction l with
 |nil=>intro vs xs e r;cases r;exact⟨[],rfl,Option.some.inj e,λq m=>by cases m⟩
 |cons d l ih=>
  intro vs xs e r
  cases r with|cons r y=>
  cases d with
  |str x=>
   refine mpd e λys h1 h2=>?_
   refine o12 (ih h1 y) λp q1 q2 hp=>?_;clear y;subst q1;clear h1;subst q2
   refine r.sE λt ht hb=>⟨(x,t)::p,rfl,h2,λq m=>?_⟩
   exact Or.elim (List.mem_cons.mp m) (λe=>e▸⟨ht,hb⟩) λm=>hp q m
  |_=>exact nn e
theorem J0T {x y z:Str} {d:D} {t u v:Tok} {Q:Value ->Shared ->Prop} (h:ZE x [.str y,.str z]=some d) (C:Cx w mg mb s ms)
  (ht:t≠0) (hb:t<s.toks) (hu:u≠0) (hv:v≠0) (huv:u≠v) (hQ: ∀v s',Kp s s' ->Rep w s' ms v d ->Q v s'):wpAny (model pw w) A (call (.builtin "str.replace") [.str x t,.str y u,.str z v]) Q E s:=by
 refine J6g (show(if y==z then none else if x.length<=1000&&z.length<=10 then some (D.str (Txt.replace x y z))else none)=some d from h) λhyz h=>J9 h λhl h=>?_
 simp only[Bool.and_eq_true,decide_eq_true_eq]at hl
 replace h:=Option.some.inj h
 subst h
 have hl':Builtin.Str.tooLong (x.length+(Builtin.Str.occurrences x y 0 x.length (x.length+1)).length*z.length)=false:=by
  have h1:=StrLaws.occ_length_le x y 0 x.length (x.length+1)
  have h2:(Builtin.Str.occurrences x y 0 x.length (x.length+1)).length*z.length<=(x.length+1)*10:=Nat.mul_le_mul h1 hl.2
  unfold Builtin.Str.tooLong
  rw[sizeLine_eq]
  exact decide_eq_false (by lia)
 refine call_gives F.slot_str_replace (typeIs_str _ _ _) F.entry_str_replace (F.args_str_replace_3 _ _ _)
  (gives_str_replace x y z t u v λ_=>⟨by simp[hu,hv],by simp[huv],by simpa using hyz,hl'⟩) (MadeIs.post C (d:= .str (Txt.replace x y z)) ?_ hQ)
 unfold Txt.replace
 split
 ·exact .val (.str _ _ ht hb)
 ·refine .str _ (fits_replaced y ?_)
  have h2:(x.length+1)*z.length<=(x.length+1)*10:=Nat.mul_le_mul_left _ hl.2
  lia
theorem JhG {l:List Nat} {d:D} (h:(match l with|i::_=>some (D.int i)|[]=>none)=some d): ∃k r,l=k::r/\ d= .int k:=by
 cases l with
 |nil=>exact nn h
 |cons k r=>exact⟨k,r,rfl,(Option.some.inj h).symm⟩
theorem Jfa {x:Str} {as:List D} {d:D} (h:J1I x as=some d):(∃y k r,as=[.str y]/\ Builtin.Str.occurrences x y 0 x.length 1=k::r/\ d= .int k)∨
  ∃y i k r,as=[.str y,.int i]/\ Builtin.Str.occurrences x y (fromIndex x.length i) x.length 1=k::r/\ d= .int k:=by
 cases as with
 |nil=>exact nn h
 |cons p q=>
  cases p with
  |str y=>
   cases q with
   |nil=>refine o20 (JhG h) λk r e=>?_;exact .inl ⟨y,k,r,rfl,e⟩
   |cons p q=>
    cases p with
    |int i=>
     cases q with
     |nil=>refine o20 (JhG h) λk r e=>?_;exact .inr ⟨y,i,k,r,rfl,e⟩
     |cons=>exact nn h
    |_=>exact nn h
  |_=>exact nn h
theorem J45 {x:Str} {as:List D} {vs:List Value} {d:D} {t:Tok} {Q:Value ->Shared ->Prop} (h:J1I x as=some d) (rs:RepL w s ms vs as)
  (hQ: ∀v s',Kp s s' ->Rep w s' ms v d ->Q v s'):wpAny (model pw w) A (call (.builtin "str.index") (.str x t::vs)) Q E s:=by
 rcases Jfa h with⟨y,k,z,rfl,ho,rfl⟩|⟨y,i,k,z,rfl,ho,rfl⟩
 ·refine o11 (Vd rs) λv q1 r=>?_;clear rs;subst q1
  exact r.sE λ_ _ _=>SC.index ho (hQ _ _ (Kp.tok1 s) (.int _ _))
 ·refine o22 (J2T rs) λv v' q2 r r'=>?_;clear rs;subst q2
  exact r.sE λ_ _ _=>r'.iE λ_=>call_gives F.slot_str_index (typeIs_str _ _ _) F.entry_str_index (F.args_str_index_3 _ _ _) (Yr _ _ _ _ _ _ _ _ ho) (hQ _ _ (Kp.tok1 s) (.int _ _))
theorem JeR {x:Str} {as:List D} {d:D} (h:ZO x as=some d): ∃y,as=[.str y]/\ d= .int (Txt.count x y):=by
 cases as with
 |nil=>exact nn h
 |cons p q=>
  cases p with
  |str y=>
   cases q with
   |nil=>exact⟨y,rfl,(Option.some.inj h).symm⟩
   |cons=>exact nn h
  |_=>exact nn h
theorem J3O {x:Str} {as:List D} {vs:List Value} {d:D} {t:Tok} {Q:Value ->Shared ->Prop} (h:ZO x as=some d) (rs:RepL w s ms vs as)
  (hQ: ∀v s',Kp s s' ->Rep w s' ms v d ->Q v s'):wpAny (model pw w) A (call (.builtin "str.count") (.str x t::vs)) Q E s:=by
 refine o11 (JeR h) λy q1 q2=>?_;subst q1;clear h;subst q2
 refine o11 (Vd rs) λv q3 r=>?_;clear rs;subst q3
 exact r.sE λ_ _ _=>SC.count (hQ _ _ (Kp.tok1 s) (.int _ _))
theorem JgN {x:Str} {as:List D} {d:D} (h:J1K x as=some d): ∃l xs,as=[.lst l]/\ Kc l=some xs/\ JoinOk x xs=true/\ d= .str (Txt.join x xs):=by
 cases as with
 |nil=>exact nn h
 |cons p q=>
  cases p with
  |lst l=>
   cases q with
   |nil=>exact bnd (show(Kc l).bind (λxs=>if JoinOk x xs then some (D.str (Txt.join x xs))else none)=some d from h) λxs h1 h2=>J9 h2 λq e=>⟨l,xs,rfl,h1,q,(Option.some.inj e).symm⟩
   |cons=>exact nn h
  |_=>exact nn h
theorem J6m {x:Str} {as:List D} {vs:List Value} {d:D} {t:Tok} {Q:Value ->Shared ->Prop} (h:J1K x as=some d) (C:Cx w mg mb s ms) (rs:RepL w s ms vs as)
  (hQ: ∀v s',Kp s s' ->Rep w s' ms v d ->Q v s'):wpAny (model pw w) A (call (.builtin "str.join") (.str x t::vs)) Q E s:=by
 refine o23 (JgN h) λl xs q1 h1 hok q2=>?_;subst q1;subst q2
 refine o11 (Vd rs) λv q3 r=>?_;subst q3
 refine r.lE λa vs ha hn la=>?_
 refine o12 (J6V h1 la) λp q4 q5 hp=>?_;subst q4;subst q5
 have hok':=hok
 unfold JoinOk at hok'
 rw[Bool.not_eq_true']at hok'
 refine call_meets F.slot_str_join (typeIs_str _ _ _) F.entry_str_join (F.args_str_join_2 _ _) (meets_str_join_list x t _ p hok') ⟨ha.isList,?_⟩
 refine MadeIs.post C (d:= .str (Txt.join x (p.map (·.1)))) ?_ hQ
 have hl:=joinFit_length hok'
 cases p with
 |nil=>exact .str _ hl
 |cons q p=>
  cases p with
  |nil=>exact .val (.str _ _ (hp q (List.mem_cons_self ..)).1 (hp q (List.mem_cons_self ..)).2)
  |cons=>exact .str _ hl
theorem Jfr {x:Str} {as:List D} {d:D} (h:J8w x as=some d):as=[]/\ x.length<=1000/\ x.cps.all (· <128)=true/\ d= .str ⟨x.cps.map lo1⟩:=by
 cases as with
 |nil=>
  refine J9 (show(if x.length<=1000&&x.cps.all (· <128)then some (D.str ⟨x.cps.map lo1⟩)else none)=some d from h) λq e=>?_
  rw[Bool.and_eq_true,decide_eq_true_eq]at q
  exact⟨rfl,q.1,q.2,(Option.some.inj e).symm⟩
 |cons=>exact nn h
theorem J4d {x:Str} {as:List D} {vs:List Value} {d:D} {t:Tok} {Q:Value ->Shared ->Prop} (h:J8w x as=some d) (C:Cx w mg mb s ms) (rs:RepL w s ms vs as)
  (hQ: ∀v s',Kp s s' ->Rep w s' ms v d ->Q v s'):wpAny (model pw w) A (call (.builtin "str.lower") (.str x t::vs)) Q E s:=by
 refine o03 (Jfr h) λq1 h1 h2 q2=>?_;subst q1;clear h;subst q2
 cases rs
 have hA: ∀c∈x.cps.toList,c<128:=λc hm=>by
  have:=Array.all_eq_true'.mp h2 c (Array.mem_toList_iff.mp hm)
  simpa using this
 have hlow:=lower_ascii hA
 refine SC.lower ?_ ?_
 ·rw[hlow]
  unfold Builtin.Str.tooLong
  rw[sizeLine_eq]
  refine decide_eq_false ?_
  show¬(x.cps.map lo1).size>_
  rw[Array.size_map]
  have:x.cps.size<=1000:=h1
  lia
 ·rw[hlow]
  exact hQ _ _ (Kp.tok1 s) (.str _ _ C.pos (Nat.lt_succ_self _))
theorem JgK {l:List (Key×D)} {as:List D} {d:D} (h:JgJ l as=some d):(∃o k,as=[o]/\ Vb o=some k/\ (dget k l).getD .none=d)∨ ∃o e k,as=[o,e]/\ Vb o=some k/\ (dget k l).getD e=d:=by
 cases as with
 |nil=>exact nn h
 |cons o q=>
  cases q with
  |nil=>exact mpd (show(Vb o).map (λk=>(dget k l).getD .none)=some d from h) λk h1 h2=> .inl ⟨o,k,rfl,h1,h2⟩
  |cons e q=>
   cases q with
   |nil=>exact mpd (show(Vb o).map (λk=>(dget k l).getD e)=some d from h) λk h1 h2=> .inr ⟨o,e,k,rfl,h1,h2⟩
   |cons=>exact nn h
theorem J7Y {l:List (Key×D)} {as:List D} {vs:List Value} {a:Addr} {d:D} {Q:Value ->Shared ->Prop} (h:JgJ l as=some d) (ro:BRep w s ms (.ref a) (.dct l)) (rs:RepL w s ms vs as)
  (hQ: ∀v s',Kp s s' ->Rep w s' ms v d ->Q v s'):wpAny (model pw w) A (call (.builtin "dict.get") (.ref a::vs)) Q E s:=by
 refine o22 ro.dct' λa' kvs e hd lb=>?_
 cases e
 rcases JgK h with⟨o,k,rfl,hk,rfl⟩|⟨o,e,k,rfl,hk,rfl⟩
 ·refine o11 (Vd rs) λv q1 r=>?_;clear rs;subst q1
  refine call_meetsIn PySem.F.slot_dict_get hd.1.typeIs PySem.F.entry_dict_get (PySem.F.args_dict_get_2 _ _) (meets_dict_get (mixKind pw w) a (Y8 hk r) hd.2) ⟨_,hd.mapOf,?_⟩
  rcases lb.find (k:=k)with⟨p,q⟩|⟨v,d',p,q,z⟩
  ·rw[q];exact hQ _ _ (Kp.tok1 s) (by rw[p];exact .none)
  ·rw[p];exact hQ _ _ (Kp.tok1 s) (by rw[q];exact z.kp (Kp.tok1 s))
 ·refine o22 (J2T rs) λv v' q2 r r'=>?_;clear rs;subst q2
  refine call_meetsIn PySem.F.slot_dict_get hd.1.typeIs PySem.F.entry_dict_get (PySem.F.args_dict_get_3 _ _ _) (meets_dict_get_default (mixKind pw w) a (Y8 hk r) hd.2 _) ⟨_,hd.mapOf,?_⟩
  rcases lb.find (k:=k)with⟨p,q⟩|⟨v,d',p,q,z⟩
  ·rw[q];exact hQ _ _ (Kp.tok1 s) (by rw[p];exact r'.kp (Kp.tok1 s))
  ·rw[p];exact hQ _ _ (Kp.tok1 s) (by rw[q];exact z.kp (Kp.tok1 s))
end
structure Kw (wr:List Addr) (s s':Shared):Prop where
 same: ∃h' tk,s'={s with heap:=h',toks:=tk}
 t:s.toks<=s'.toks
 h: ∀b o,b∉wr ->s.heap.get? b=some o ->s'.heap.get? b=some o
theorem Kw.rfl' (wr:List Addr) (s:Shared):Kw wr s s:=⟨⟨_,_,rfl⟩,Nat.le_refl _,λ_ _ _ e=>e⟩
theorem Kw.tr {wr:List Addr} {s s' s'':Shared} (x:Kw wr s s') (y:Kw wr s' s''):Kw wr s s'':=by
 obtain⟨⟨h1,t1,rfl⟩,a,b⟩:=x
 obtain⟨⟨h2,t2,rfl⟩,c,d⟩:=y
 exact⟨⟨_,_,rfl⟩,Nat.le_trans a c,λz o n e=>d z o n (b z o n e)⟩
theorem Kw.toKp {s s':Shared} (x:Kw [] s s'):Kp s s':=by
 obtain⟨⟨h1,t1,rfl⟩,a,b⟩:=x
 exact⟨⟨_,_,rfl,λz o e=>b z o (by simp) e⟩,a⟩
theorem Kp.toKw {s s':Shared} (wr:List Addr) (x:Kp s s'):Kw wr s s':=by
 obtain⟨⟨h1,t1,rfl,k⟩,a⟩:=x
 exact⟨⟨_,_,rfl⟩,a,λz o _ e=>k z o e⟩
theorem Kw.past {wr ms:List Addr} {s s':Shared} (x:Kw wr s s') (hs: ∀b∈wr,b∈ms):Past s ms s' ms:=⟨x.t,λb o e n=>⟨x.h b o (λm=>n (hs b m)) e,n⟩⟩
noncomputable def ItemIs (w:World) (s:Shared) (ms:List Addr) (pairs:Bool) (v:Value) (d:D):Prop:=
 (pairs=false/\ Rep w s ms v d)∨pairs=true/\ ∃T vals ds,v= .ref T/\ s.heap.IsTuple T vals/\ d= .tup ds/\ RepL w s ms vals.toList ds
structure Wk (w:World) (A:Around) (ms:List Addr) (I:Addr) (wr:List Addr) (pairs:Bool) (ds:List D) (St:Nat ->Shared ->Prop):Prop where
 sub: ∀b∈wr,b∈ms
 live: ∀i s,St i s -> ∀b∈wr,∃o,s.heap.get? b=some o
 frame: ∀i s s',St i s ->s.toks<=s'.toks ->(∀b o,(b∈wr∨b∉ms) ->s.heap.get? b=some o ->s'.heap.get? b=some o) ->St i s'
 step: ∀i s d t (Q:Value ->Shared ->Prop) (E E':Value ->Shared ->Prop),ds[i]?=some d ->St i s ->T0<=s.toks ->okT pairs t=true ->
  (∀v s₂,Kw wr s s₂ ->St (i+1) s₂ ->ItemIs w s₂ ms pairs v d ->Q v s₂) ->
  wpAny (model pw w) A (pyNext (.ref I)) (λr s₁=> ∃v,r=some v/\ wpAny (model pw w) A (letOwnedTupleGo t (.ref I) v) (λ_ s₂=>Q v s₂) E s₁) E' s
 done: ∀s (Q:Option Value ->Shared ->Prop) (E:Value ->Shared ->Prop),St ds.length s ->(∀s',Kw wr s s' ->Q none s') ->wpAny (model pw w) A (pyNext (.ref I)) Q E s
 self: ∀i s (Q:Value ->Shared ->Prop) (E:Value ->Shared ->Prop),St i s ->Q (.ref I) s ->wpAny (model pw w) A (pyIter (.ref I)) Q E s
noncomputable def Above (s:Shared) (b:Addr):Prop:= ∀c o,s.heap.get? c=some o ->c<b
theorem Above.none {s:Shared} {b:Addr} (h:Above s b):s.heap.get? b=none:=by
 cases e:s.heap.get? b with
 |none=>rfl
 |some o=>exact absurd (h b o e) (Nat.lt_irrefl _)
theorem Jz {s:Shared} {b:Addr} (h:s.heap.objs.size<=b):Above s b:=λ_ _ e=>Nat.lt_of_lt_of_le (Heap.lt_size e) h
structure Go (wr M M':List Addr) (s s':Shared):Prop where
 t:s.toks<=s'.toks
 sub: ∀b∈wr,b∈M'
 wr: ∀b∈wr,∀o,s.heap.get? b=some o ->s'.heap.get? b=some o
 gone: ∀b o,s.heap.get? b=some o ->b∉M ->s'.heap.get? b=some o/\ b∉M'
theorem Go.past {wr M M':List Addr} {s s':Shared} (g:Go wr M M' s s'):Past s M s' M':=⟨g.t,g.gone⟩
theorem Go.out {wr M M':List Addr} {s s':Shared} (g:Go wr M M' s s') {a:Addr} {o:Obj} (e:s.heap.get? a=some o) (h:a∉M):a∉M':=(g.gone a o e h).2
theorem Go.at {wr M M':List Addr} {s s':Shared} (g:Go wr M M' s s') {a:Addr} (h:a∈wr∨a∉M) (o:Obj) (e:s.heap.get? a=some o):s'.heap.get? a=some o:=h.elim (λh=>g.wr a h o e) λh=>(g.gone a o e h).1
structure WkM (w:World) (A:Around) (I:Addr) (wr:List Addr) (pairs:Bool) (ds:List D) (St:List Addr ->Nat ->Shared ->Prop):Prop where
 at': ∀M i s,St M i s ->Wk w A M I wr pairs ds (St M)
 mv: ∀M M' i s s',St M i s ->Go wr M M' s s' ->St M' i s'
theorem WkM.of {w:World} {A:Around} {I:Addr} {wr:List Addr} {pairs:Bool} {ds:List D} {Ok:List Addr ->Prop} {S:List Addr ->Nat ->Shared ->Prop} (h: ∀M,Ok M ->Wk w A M I wr pairs ds (S M))
  (mv: ∀M M' i s s',Ok M ->S M i s ->Go wr M M' s s' ->Ok M'/\ S M' i s'):WkM w A I wr pairs ds (λM i s=>Ok M/\ S M i s) where
 at':=λM i s st=>by
  have e:(λi s=>Ok M/\ S M i s)=S M:=by
   funext i s
   exact propext ⟨λx=>x.2,λx=>⟨st.1,x⟩⟩
  rw[e];exact h M st.1
 mv:=λM M' i s s' st g=>mv M M' i s s' st.1 st.2 g
noncomputable def Begun (w:World) (A:Around) (ms:List Addr) (s s':Shared) (it:Value) (pairs:Bool) (ds:List D):Prop:=
 ∃I wr St,it= .ref I/\ Kp s s'/\ (∀b∈wr,Above s b/\ ∃o,s'.heap.get? b=some o)/\ WkM w A I wr pairs ds St/\ St (wr++ms) 0 s'
noncomputable def YI:List String:=["enumerate","zip","dict_itemiterator","dict_reverseitemiterator","odict_iterator","itertools.zip_longest","itertools.pairwise"]
set_option tactic.hygienic true in
theorem J4P {M:Model} {A:Around} {E:Value ->Shared ->Prop} {s:Shared} {I:Addr} {o:Obj} {n:String} {t:Expr} {v:Value} {Q:Unit ->Shared ->Prop}
  (ho:s.heap.get? I=some o) (hc:o.cls= .type n) (hn:YI.contains n=false) (h:Q () s):wpAny M A (letOwnedTupleGo t (.ref I) v) Q E s:=by
 obtain⟨c,dc,dt,sl⟩:=o
 have key: ∀a,wpAny M A (load I>>=λo=>match o.cls,o.data with
   | .type n,.fields vs=>if(YI.contains n&&vs[0]?==some (rawInt a))=true then rule "for.unpacks-the-owned-tuple">>=λ_=>updateField I 0 .none else pure ()
   |_,_=>pure ()) Q E s:=λa=>by
  refine wpAny_bind (wpAny_load ho ?_)
  rw[show c= .type n from hc]
  cases dt with
  |fields vs=>
   show wpAny M A (if(YI.contains n&&_)=true then _ else _) Q E s
   rw[hn];exact wpAny_pure h
  |_=>exact wpAny_pure h
 cases t with
 |Tuple=>cases v with
  |ref a=>exact key a
  |_=>exact wpAny_pure h
 |List=>cases v with
  |ref a=>exact key a
  |_=>exact wpAny_pure h
 |_=>exact wpAny_pure h
theorem Wk.of_walks {w:World} {A:Around} {ms:List Addr} {I:Addr} {fp wr:List Addr} {n:Nat} {P:Nat ->Value ->Prop} {St:Nat ->Heap ->Prop} {ds:List D} {cl:String}
  (W:Walks pw w A I fp wr n P St) (hwr: ∀b∈wr,b=I) (hn:n=ds.length) (hsub: ∀b∈wr,b∈ms) (hfp: ∀b∈fp,b∈wr∨b∉ms)
  (hc: ∀i h,St i h -> ∃o,h.get? I=some o/\ o.cls= .type cl) (hs:YI.contains cl=false)
  (R:Shared ->Prop) (hR: ∀s s',R s ->Past s ms s' ms ->R s') (hP: ∀i v s d,P i v ->R s ->ds[i]?=some d ->Rep w s ms v d):
  Wk w A ms I wr false ds (λi s=>St i s.heap/\ R s) where
 sub:=hsub
 live:=λi s st b hb=>by
  rw[hwr b hb]
  exact o11 (hc _ _ st.1) λo e _=>⟨o,e⟩
 frame:=λi s s' st ht hk=>⟨W.frame i _ _ st.1 λb hb o e=>hk b o (hfp b hb) e,hR s s' st.2 ⟨ht,λb o e n=>⟨hk b o (.inr n) e,n⟩⟩⟩
 step:=λi s d t Q E E' hd st _ ht hQ=>by
  have hlt:i<n:=by
   rw[hn]
   rcases Nat.lt_or_ge i ds.length with h|h
   ·exact h
   ·rw[List.getElem?_eq_none h]at hd;cases hd
  refine up (Q:=λr s₁=> ∃v,r=some v/\ P i v/\ St (i+1) s₁.heap/\ (∃h' tk,s₁={s with heap:=h',toks:=tk})/\ (∀b o,b∉wr ->s.heap.get? b=some o ->s₁.heap.get? b=some o))
   (W.item i s _ _ hlt st.1 λv h' tk hp hst hk=>⟨v,rfl,hp,hst,⟨_,_,rfl⟩,hk⟩) ?_
  rintro r s₁ htk ⟨v,rfl,hp,hst,hsame,hk⟩
  have k1:Kw wr s s₁:=⟨hsame,htk,hk⟩
  have hr:=hR s s₁ st.2 (k1.past hsub)
  refine⟨v,rfl,?_⟩
  refine o11 (hc _ _ hst) λo ho hcl=>?_
  exact J4P ho hcl hs (hQ v s₁ k1 ⟨hst,hr⟩ (.inl ⟨rfl,hP i v s₁ d hp hr hd⟩))
 done:=λs Q E st hQ=>by
  refine up (Q:=λr s₁=>r=none/\ (∃h' tk,s₁={s with heap:=h',toks:=tk})/\ (∀b o,b∉wr ->s.heap.get? b=some o ->s₁.heap.get? b=some o))
   (W.done s _ _ (hn▸st.1) λh' tk hk=>⟨rfl,⟨_,_,rfl⟩,hk⟩) ?_
  rintro r s₁ htk ⟨rfl,hsame,hk⟩
  exact hQ s₁ ⟨hsame,htk,hk⟩
 self:=λi s Q E st hQ=>W.self i s Q E st.1 hQ
section
variable {w:World} {mg mb:Str ->Option Value} {A:Around} {E:Value ->Shared ->Prop} {s:Shared} {ms:List Addr}
theorem RepL.at {vs:List Value} {ds:List D} {i:Nat} {v:Value} {d:D} (x:RepL w s ms vs ds) (hv:vs[i]?=some v) (hd:ds[i]?=some d):Rep w s ms v d:=by
 refine o11 (x.get' hv) λd' e r=>?_
 rw[hd]at e;cases e;exact r
theorem Ju (s:Shared):Above s s.heap.objs.size:=Jz (Nat.le_refl _)
theorem Zf (s:Shared) (ms:List Addr) (o:Obj):Past s ms {s with heap:=s.heap.push o} (s.heap.objs.size::ms):=
 ⟨Nat.le_refl _,λb o' e n=>⟨Heap.get?_push_of_some _ e,λm=>by
  rcases List.mem_cons.mp m with rfl|m
  ·exact absurd (Heap.lt_size e) (Nat.lt_irrefl _)
  ·exact n m⟩⟩
theorem Ye {n:Nat} {P:Nat ->Value ->Prop} {St:Nat ->Heap ->Prop} {ds:List D} {cl:String} {fp:List Addr} {o:Obj} {Q:Value ->Shared ->Prop}
  (W:Walks pw w A s.heap.objs.size fp [s.heap.objs.size] n P St) (hn:n=ds.length) (hfp: ∀b∈fp,b=s.heap.objs.size∨(b∉ms/\ b<s.heap.objs.size))
  (hfa: ∀i h,St i h -> ∀b∈fp,∃o,h.get? b=some o) (hc: ∀i h,St i h -> ∃o,h.get? s.heap.objs.size=some o/\ o.cls= .type cl) (hs:YI.contains cl=false)
  (R:Shared ->List Addr ->Prop) (hR: ∀s s' ms ms',R s ms ->Past s ms s' ms' ->R s' ms') (hP: ∀i v s ms d,P i v ->R s ms ->ds[i]?=some d ->Rep w s ms v d)
  (h0:St 0 (s.heap.push o)) (r0:R s ms) (hQ: ∀it s',Begun w A ms s s' it false ds ->Q it s'):Q (.ref s.heap.objs.size) {s with heap:=s.heap.push o}:=by
 have hso: ∃o',(s.heap.push o).get? s.heap.objs.size=some o':=o11 (hc _ _ h0) λo' e _=>⟨o',e⟩
 refine hQ _ _ ⟨s.heap.objs.size,[s.heap.objs.size],_,rfl,Kp.push s o,λb hb=>?_,WkM.of (Ok:=λM=>(∀b∈[s.heap.objs.size],b∈M)/\ ∀b∈fp,b∈[s.heap.objs.size]∨b∉M) (S:=λM i s'=>St i s'.heap/\ R s' M) (λM ok=>Wk.of_walks W (λb hb=>List.mem_singleton.mp hb) hn ok.1 ok.2 hc hs (λs'=>R s' M) (λs s' r p=>hR _ _ _ _ r p) (λi v s' d p r e=>hP i v s' _ d p r e)) (λM M' i s s' ok st g=>⟨⟨g.sub,λb hb=>?_⟩,W.frame i _ _ st.1 λb hb o e=>g.at (ok.2 b hb) o e,hR _ _ _ _ st.2 g.past⟩),
  ⟨⟨λb hb=>List.mem_append.mpr (.inl hb),λb hb=>?_⟩,h0,hR _ _ _ _ r0 (Zf s ms o)⟩⟩
 ·rw[List.mem_singleton.mp hb]
  exact⟨Ju s,hso⟩
 ·rcases ok.2 b hb with h|h
  ·exact .inl h
  ·obtain⟨o,e⟩:=hfa _ _ st.1 b hb
   exact .inr (g.out e h)
 ·rcases hfp b hb with rfl|⟨h1,h2⟩
  ·exact .inl (List.mem_singleton.mpr rfl)
  ·exact .inr (λm=>by
    rcases List.mem_cons.mp m with rfl|m
    ·exact Nat.lt_irrefl _ h2
    ·exact h1 m)
theorem J8g (hh:A.handled=none) {a:Addr} {vs:List Value} {ds:List D} (ha:LsAt s.heap a vs) (hn:a∉ms) (la:RepL w s ms vs ds) {Q:Value ->Shared ->Prop}
  (hQ: ∀it s',Begun w A ms s s' it false ds ->Q it s'):wpAny (model pw w) A (pyIter (.ref a)) Q E s:=by
 have hlt:a<s.heap.objs.size:=o10 ha λ_ e=>Heap.lt_size e
 refine wpAny_pyIter_list ha.isList (Ye (cl:="list_iterator") (Walks.list hh _ a (Nat.ne_of_lt hlt) vs.toArray) (by rw[List.size_toArray,la.length]) ?_ ?_ ?_ (by decide) (λs ms=>RepL w s ms vs ds)
  (λs s' ms ms' r p=>RepL.past p r) (λi v s ms d p r e=>r.at (by simpa using p) e) ⟨⟨_,Heap.get?_push_size _ rfl,rfl,rfl⟩,ha.isList.push _⟩ la hQ)
 ·intro b hb
  rcases List.mem_cons.mp hb with rfl|hb
  ·exact .inl rfl
  ·rw[List.mem_singleton.mp hb];exact .inr ⟨hn,hlt⟩
 ·rintro i h ⟨⟨o,e1,e2,_⟩,⟨o',e',_⟩⟩ b hb
  rcases List.mem_cons.mp hb with rfl|hb
  ·exact⟨o,e1⟩
  ·rw[List.mem_singleton.mp hb];exact⟨o',e'⟩
 ·rintro i h ⟨⟨o,e1,e2,_⟩,_⟩
  exact⟨o,e1,e2⟩
theorem J6l (hh:A.handled=none) {a:Addr} {vs:List Value} {ds:List D} (ha:TpAt s.heap a vs) (hn:a∉ms) (la:RepL w s ms vs ds) {Q:Value ->Shared ->Prop}
  (hQ: ∀it s',Begun w A ms s s' it false ds ->Q it s'):wpAny (model pw w) A (pyIter (.ref a)) Q E s:=by
 have hlt:a<s.heap.objs.size:=o10 ha λ_ e=>Heap.lt_size e
 refine wpAny_pyIter_tuple ha.isTuple (Ye (cl:="tuple_iterator") (Walks.tuple hh _ a (Nat.ne_of_lt hlt) vs.toArray) (by rw[List.size_toArray,la.length]) ?_ ?_ ?_ (by decide) (λs ms=>RepL w s ms vs ds)
  (λs s' ms ms' r p=>RepL.past p r) (λi v s ms d p r e=>r.at (by simpa using p) e) ⟨⟨_,Heap.get?_push_size _ rfl,rfl,rfl⟩,ha.isTuple.at λo e=>Heap.get?_push_of_some _ e⟩ la hQ)
 ·intro b hb
  rcases List.mem_cons.mp hb with rfl|hb
  ·exact .inl rfl
  ·rw[List.mem_singleton.mp hb];exact .inr ⟨hn,hlt⟩
 ·rintro i h ⟨⟨o,e1,e2,_⟩,⟨o',e',_⟩⟩ b hb
  rcases List.mem_cons.mp hb with rfl|hb
  ·exact⟨o,e1⟩
  ·rw[List.mem_singleton.mp hb];exact⟨o',e'⟩
 ·rintro i h ⟨⟨o,e1,e2,_⟩,_⟩
  exact⟨o,e1,e2⟩
end
section
variable {w:World} {mg mb:Str ->Option Value} {A:Around} {E:Value ->Shared ->Prop} {s:Shared} {ms:List Addr}
theorem J6k (hh:A.handled=none) {a b c:Int} {t u v:Tok} {r:Addr} {ds:List D} (h:Jn a b c=some ds) (hr:IsRange s.heap r a b c t u v) {Q:Value ->Shared ->Prop}
  (hQ: ∀it s',Begun w A ms s s' it false ds ->Q it s'):wpAny (model pw w) A (pyIter (.ref r)) Q E s:=by
 unfold Jn at h
 split at h
 ·rename_i hc
  simp only[Bool.and_eq_true,decide_eq_true_eq]at hc
  cases h
  have e0:a=a+((0:Nat):Int)*c:=by simp
  have e1:Builtin.Range.rangeSize a b c=(((Builtin.Range.rangeSize a b c).toNat:Nat):Int)-((0:Nat):Int):=by lia
  refine wpAny_pyIter_range hr hc.1.2 (Ye (cl:="range_iterator") (Walks.range hh _ a c (Builtin.Range.rangeSize a b c).toNat) (by simp) ?_ ?_ ?_ (by decide) (λ_ _=>True) (λ_ _ _ _ _ _=>trivial) ?_ ?_ trivial hQ)
  ·intro b hb
   exact .inl (List.mem_singleton.mp hb)
  ·intro i h hst b hb
   rw[List.mem_singleton.mp hb]
   exact⟨_,hst⟩
  ·intro i h hst
   exact⟨_,hst,rfl⟩
  ·rintro i v s ms d ⟨t',rfl⟩-e
   rw[List.getElem?_map,Option.map_eq_some_iff]at e
   refine o11 e λk hk q1=>?_;clear e;subst q1
   refine o10 (List.getElem?_eq_some_iff.mp hk) λ_ q2=>?_;clear hk;subst q2
   rw[List.getElem_range]
   exact .int _ _
  ·show IsRangeIter _ _ _ _ _
   rw[<-e0,<-e1]
   exact Heap.get?_push_size _ rfl
 ·exact nn h
theorem JfY (hh:A.handled=none) {ty:String} {x:Str} {t:Tok} {I:Addr} (hI:I∈ms) (hty:YI.contains ty=false)
  (item: ∀(i c:Nat) (s:Shared) (Q:Option Value ->Shared ->Prop) (E:Value ->Shared ->Prop),s.heap.IsStrIter I ty x t i ->x.cps[i]?=some c ->
   (∀h',h'.IsStrIter I ty x t (i+1) ->Heap.SameBut I s.heap h' ->Q (some (.str ⟨#[c]⟩ s.toks)) {s with heap:=h',toks:=s.toks+1}) ->wpAny (model pw w) A (pyNext (.ref I)) Q E s)
  (stop: ∀(i:Nat) (s:Shared) (Q:Option Value ->Shared ->Prop) (E:Value ->Shared ->Prop),s.heap.IsStrIter I ty x t i ->x.cps[i]?=none ->
   (∀h',Heap.ExtBut I s.heap h' ->Q none {s with heap:=h'}) ->wpAny (model pw w) A (pyNext (.ref I)) Q E s)
  (self: ∀(i:Nat) (s:Shared) (Q:Value ->Shared ->Prop) (E:Value ->Shared ->Prop),s.heap.IsStrIter I ty x t i ->Q (.ref I) s ->wpAny (model pw w) A (pyIter (.ref I)) Q E s):
  Wk w A ms I [I] false (chars x) (λi s=>s.heap.IsStrIter I ty x t i) where
 sub:=λb hb=>by rw[List.mem_singleton.mp hb];exact hI
 live:=λi s st b hb=>by
  rw[List.mem_singleton.mp hb]
  exact let⟨o,e,_⟩:=st;⟨o,e⟩
 frame:=λi s s' st _ hk=>o11 st λo ho r=>⟨o,hk I o (.inl (by simp)) ho,r⟩
 step:=λi s d tg Q E E' hd st htk _ hQ=>by
  unfold chars at hd
  rw[List.getElem?_map,Option.map_eq_some_iff]at hd
  refine o11 hd λc hc q1=>?_;clear hd;subst q1
  refine item i c s _ _ st (by simpa using hc) λh' st' hs'=>⟨_,rfl,?_⟩
  refine o12 (id st') λo ho hcl _=>?_
  have hne:s.toks≠0:=by
   have hT:T0=2367:=rfl
   lia
  refine J4P ho hcl hty (hQ _ _ ⟨⟨_,_,rfl⟩,Nat.le_succ _,λb o n e=>hs'.extBut b o (λq=>n (by simp[q])) e⟩ st' (.inl ⟨rfl,.str _ _ hne (Nat.lt_succ_self _)⟩))
 done:=λs Q E st hQ=>stop _ s _ _ st (by simp[chars]) λh' he=>hQ _ ⟨⟨_,s.toks,rfl⟩,Nat.le_refl _,λb o n e=>he b o (λq=>n (by simp[q])) e⟩
 self:=λi s Q E st hQ=>self i s Q E st hQ
theorem J9L (hh:A.handled=none) {ty:String} {x:Str} {t:Tok} {I:Addr} (hty:YI.contains ty=false)
  (item: ∀(i c:Nat) (s:Shared) (Q:Option Value ->Shared ->Prop) (E:Value ->Shared ->Prop),s.heap.IsStrIter I ty x t i ->x.cps[i]?=some c ->
   (∀h',h'.IsStrIter I ty x t (i+1) ->Heap.SameBut I s.heap h' ->Q (some (.str ⟨#[c]⟩ s.toks)) {s with heap:=h',toks:=s.toks+1}) ->wpAny (model pw w) A (pyNext (.ref I)) Q E s)
  (stop: ∀(i:Nat) (s:Shared) (Q:Option Value ->Shared ->Prop) (E:Value ->Shared ->Prop),s.heap.IsStrIter I ty x t i ->x.cps[i]?=none ->
   (∀h',Heap.ExtBut I s.heap h' ->Q none {s with heap:=h'}) ->wpAny (model pw w) A (pyNext (.ref I)) Q E s)
  (self: ∀(i:Nat) (s:Shared) (Q:Value ->Shared ->Prop) (E:Value ->Shared ->Prop),s.heap.IsStrIter I ty x t i ->Q (.ref I) s ->wpAny (model pw w) A (pyIter (.ref I)) Q E s):
  WkM w A I [I] false (chars x) (λM i s=>I∈M/\ s.heap.IsStrIter I ty x t i):=
 WkM.of (Ok:=λM=>I∈M) (S:=λ_ i s=>s.heap.IsStrIter I ty x t i) (λ_ ok=>JfY hh ok hty item stop self)
  λ_ _ _ _ _ _ st g=>⟨g.sub I (List.mem_singleton.mpr rfl),o11 st λo ho r=>⟨o,g.wr I (List.mem_singleton.mpr rfl) o ho,r⟩⟩
theorem JaV (hh:A.handled=none) {x:Str} {t:Tok} {Q:Value ->Shared ->Prop}
  (hQ: ∀it s',Begun w A ms s s' it false (chars x) ->Q it s'):wpAny (model pw w) A (pyIter (.str x t)) Q E s:=by
 cases ha:x.cps.all (· <128)
 ·refine wpAny_pyIter_wide ha (hQ _ _ ⟨s.heap.objs.size,[s.heap.objs.size],_,rfl,Kp.push s _,λb hb=>?_,
   J9L hh (ty:="str_iterator") (x:=x) (t:=t) (by decide) (λi c s Q E a b h=>wpAny_pyNext_wide_item a b h) (λi s Q E a b h=>wpAny_pyNext_wide_end hh a b h) (λi s Q E a h=>wpAny_pyIter_striter_wide a h),
   List.mem_append.mpr (.inl (List.mem_singleton.mpr rfl)),⟨_,Heap.get?_push_size _ rfl,rfl,rfl⟩⟩)
  rw[List.mem_singleton.mp hb]
  exact⟨Ju s,_,Heap.get?_push_size _ rfl⟩
 ·refine wpAny_pyIter_ascii ha (hQ _ _ ⟨s.heap.objs.size,[s.heap.objs.size],_,rfl,Kp.push s _,λb hb=>?_,
   J9L hh (ty:="str_ascii_iterator") (x:=x) (t:=t) (by decide) (λi c s Q E a b h=>wpAny_pyNext_ascii_item a b h) (λi s Q E a b h=>wpAny_pyNext_ascii_end hh a b h) (λi s Q E a h=>wpAny_pyIter_striter_ascii a h),
   List.mem_append.mpr (.inl (List.mem_singleton.mpr rfl)),⟨_,Heap.get?_push_size _ rfl,rfl,rfl⟩⟩)
  rw[List.mem_singleton.mp hb]
  exact⟨Ju s,_,Heap.get?_push_size _ rfl⟩
theorem RepK.at {kvs:List (Key×Value)} {ds:List (Key×D)} {i:Nat} {k:Key} {v:Value} {kd:Key×D}:RepK w s ms kvs ds ->kvs[i]?=some (k,v) ->ds[i]?=some kd ->kd.1=k/\ Rep w s ms v kd.2:=by
 intro x
 induction i generalizing kvs ds with
 |zero=>
  intro e e'
  cases x with
  |nil=>simp at e
  |cons r y=>
   simp only[List.getElem?_cons_zero,Option.some.injEq]at e e'
   cases e;cases e'
   exact⟨rfl,r⟩
 |succ i ih=>
  intro e e'
  cases x with
  |nil=>simp at e
  |cons r y=>exact ih y (by simpa using e) (by simpa using e')
theorem J48 (hh:A.handled=none) {v a:Addr} {kvs:List (Key×Value)} {ds:List (Key×D)} (hv:s.heap.IsValuesView v a) (ha:DcAt w s.heap a kvs) (hn:a∉ms) (la:RepK w s ms kvs ds) {Q:Value ->Shared ->Prop}
  (hQ: ∀it s',Begun w A ms s s' it false (ds.map (·.2)) ->Q it s'):wpAny (model pw w) A (pyIter (.ref v)) Q E s:=by
 obtain⟨ep,hd⟩:=ha.1.dictAt
 have hlt:=hd.lt_size
 refine wpAny_pyIter_values hv hd (Ye (cl:="dict_valueiterator") (Walks.dictValues hh _ a (Nat.ne_of_lt hlt) kvs ep) (by rw[List.length_map,la.length]) ?_ ?_ ?_ (by decide) (λs ms=>RepK w s ms kvs ds)
  (λs s' ms ms' r p=>RepK.past p r) ?_ ⟨⟨_,Heap.get?_push_size _ rfl,rfl,rfl⟩,hd.push _⟩ la hQ)
 ·intro b hb
  rcases List.mem_cons.mp hb with rfl|hb
  ·exact .inl rfl
  ·rw[List.mem_singleton.mp hb];exact .inr ⟨hn,hlt⟩
 ·rintro i h ⟨⟨o,e1,e2,_⟩,⟨o',es',e',r'⟩⟩ b hb
  rcases List.mem_cons.mp hb with rfl|hb
  ·exact⟨o,e1⟩
  ·rw[List.mem_singleton.mp hb];exact⟨o',e'⟩
 ·rintro i h ⟨⟨o,e1,e2,_⟩,_⟩
  exact⟨o,e1,e2⟩
 ·rintro i v s ms d ⟨k,hk⟩ r e
  rw[List.getElem?_map,Option.map_eq_some_iff]at e
  obtain⟨kd,h1,rfl⟩:=e
  exact(r.at hk h1).2
theorem J0S {v u:Value} {d e:D} (a:Rep w s ms v d) (b:Rep w s ms u e):RepL w s ms (#[v,u]:Array Value).toList [d,e]:= .cons a (.cons b .nil)
theorem KW: ∀{ds:List (Key×D)} {i:Nat} {kd:Key×D},Jf ds=true ->ds[i]?=some kd -> ∃k,kd.1= .i k
 |[],_,_,_,e=>by simp at e
 |(.i k,d)::r,0,_,_,e=>by
  simp only[List.getElem?_cons_zero,Option.some.injEq]at e
  subst e;exact⟨k,rfl⟩
 |(.i k,d)::r,i+1,_,h,e=>KW (ds:=r) h (by simpa using e)
 |(.s _,_)::_,_,_,h,_=>by cases h
theorem YF:entryFor table "dict_itemiterator.__iter__"=some Builtin.«dict_keyiterator.__iter__»:=
 entryFor_alias (id':="dict_keyiterator.__iter__") (by kernel_rfl) (by first|rfl|decide+kernel|(unfold String.splitOn;simp+decide [String.splitOnAux])) (by decide+kernel) (by kernel_rfl)
theorem VS {it d:Addr} {i n ep:Nat} {ok ov:Value} {Q:Value ->Shared ->Prop} (hit:IsItemIter s.heap it d i n ep ok ov) (h:Q (.ref it) s):wpAny (model pw w) A (pyIter (.ref it)) Q E s:=by
 have hT:s.TypeIs (.ref it) "dict_itemiterator":=⟨_,hit,rfl⟩
 refine wpAny_pyIter_slot hT F.slot_dict_itemiterator_iter (wpAny_call_entry F.slot_dict_itemiterator_iter hT YF ?_ (F.args_dict_itemiterator_iter_1 _))
 show wpAny _ _ (ret (.ref it)) _ _ s
 exact wpAny_pure ⟨_,rfl,"dict_itemiterator",_,hT,F.slot_dict_itemiterator_next.lookup,h⟩
theorem Jca (hh:A.handled=none) {I a:Addr} {kvs:List (Key×Value)} {ds:List (Key×D)} {ep:Nat} (hI:I∈ms) (ha:a∉ms) (hk:Jf ds=true) (hlen:kvs.length=ds.length):
  Wk w A ms I [I] true (ds.map λkv=> .tup [dat kv.1,kv.2]) (λi s=>(∃ok ov,IsItemIter s.heap I a i kvs.length ep ok ov)/\ s.heap.DictAt (mixKind pw w) a kvs ep/\ RepK w s ms kvs ds) where
 sub:=λb hb=>by rw[List.mem_singleton.mp hb];exact hI
 live:=λi s st b hb=>by
  rw[List.mem_singleton.mp hb]
  exact let⟨⟨_,_,e⟩,_⟩:=st;⟨_,e⟩
 frame:=λi s s' st ht hkp=>⟨o20 st.1 λok ov e=>⟨ok,ov,hkp I _ (.inl (by simp)) e⟩,st.2.1.at' λo e=>hkp a o (.inr ha) e,st.2.2.past ⟨ht,λb o e n=>⟨hkp b o (.inr n) e,n⟩⟩⟩
 step:=λi s d tg Q E E' hd st htk hok hQ=>by
  refine o02 st λq1 hm hr=>?_;clear st;obtain⟨ok,ov,hit⟩:=q1
  rw[List.getElem?_map,Option.map_eq_some_iff]at hd
  refine o11 hd λkd hkd q2=>?_;clear hd;subst q2
  have hlt:i<kvs.length:=by
   rw[hlen]
   rcases Nat.lt_or_ge i ds.length with h|h
   ·exact h
   ·rw[List.getElem?_eq_none h]at hkd;cases hkd
  obtain⟨⟨k,x⟩,hx⟩: ∃p,kvs[i]?=some p:=⟨kvs[i],List.getElem?_eq_getElem hlt⟩
  refine wpAny_pyNext_items_item hit hm hx λkey h' hkey ho hT hsz hkeep=>⟨_,rfl,?_⟩
  have hil:I<s.heap.objs.size:=Heap.lt_size hit
  cases tg with
  |Tuple elts k1 pos=>
   refine wpAny_letOwnedTupleGo_items ho λh₂ hit₂ hs₂=>?_
   have kw:Kw [I] s {s with heap:=h₂}:=⟨⟨_,s.toks,rfl⟩,Nat.le_refl _,λb o n e=>hs₂.extBut b o (λq=>n (by simp[q])) (hkeep b o (λq=>n (by simp[q])) e)⟩
   have haI:a≠I:=λe=>ha (e▸hI)
   have pst:Past s ms {s with heap:=h₂} ms:=kw.past (λb hb=>by rw[List.mem_singleton.mp hb];exact hI)
   have hr₂:RepK w {s with heap:=h₂} ms kvs ds:=hr.past pst
   refine o01 (hr₂.at hx hkd) λe1 r1=>?_
   refine o10 (KW hk hkd) λk' ek=>?_
   refine hQ _ _ kw ⟨⟨_,_,hit₂⟩,hm.at' λo e=>kw.h a o (by simp[haI]) e,hr₂⟩ (.inr ⟨rfl,s.heap.objs.size,#[key,x],_,rfl,⟨_,hs₂.extBut _ _ (Nat.ne_of_gt hil) hT,rfl,_,rfl⟩,rfl,J0S ?_ r1⟩)
   ·rw[ek]
    rw[<-e1,ek]at hkey
    refine o10 (Value.isInt_shape (show Value.isInt k' key=true from hkey)) λt' q3=>?_;clear ho hT hit₂ hkey;subst q3
    exact .int _ _
  |_=>exact absurd hok Bool.false_ne_true
 done:=λs Q E st hQ=>by
  refine o02 st λq4 hm hr=>?_;clear st;obtain⟨ok,ov,hit⟩:=q4
  rw[List.length_map,<-hlen]at hit
  exact wpAny_pyNext_items_end hh hit hm (by simp) λh' he=>hQ _ ⟨⟨_,s.toks,rfl⟩,Nat.le_refl _,λb o n e=>he b o (λq=>n (by simp[q])) e⟩
 self:=λi s Q E st hQ=>let⟨⟨_,_,hit⟩,_⟩:=st;VS hit hQ
theorem J9K (hh:A.handled=none) {I a:Addr} {kvs:List (Key×Value)} {ds:List (Key×D)} {ep:Nat} (hk:Jf ds=true) (hlen:kvs.length=ds.length):
  WkM w A I [I] true (ds.map λkv=> .tup [dat kv.1,kv.2]) (λM i s=>(I∈M/\ a∉M)/\ (∃ok ov,IsItemIter s.heap I a i kvs.length ep ok ov)/\ s.heap.DictAt (mixKind pw w) a kvs ep/\ RepK w s M kvs ds):=
 WkM.of (Ok:=λM=>I∈M/\ a∉M) (S:=λM i s=>(∃ok ov,IsItemIter s.heap I a i kvs.length ep ok ov)/\ s.heap.DictAt (mixKind pw w) a kvs ep/\ RepK w s M kvs ds) (λ_ ok=>Jca hh ok.1 ok.2 hk hlen)
  λ_ _ _ _ _ ok st g=>by
   refine o02 st λq1 hd r=>?_;clear st;obtain⟨k,v,e⟩:=q1
   refine o21 (id hd) λo _ ho _=>?_
   exact⟨⟨g.sub I (List.mem_singleton.mpr rfl),g.out ho ok.2⟩,⟨k,v,g.wr I (List.mem_singleton.mpr rfl) _ e⟩,hd.at' λo e=>g.at (.inr ok.2) o e,r.past g.past⟩
theorem J6j (hh:A.handled=none) {v a:Addr} {kvs:List (Key×Value)} {ds:List (Key×D)} (hv:s.heap.IsItemsView v a) (ha:DcAt w s.heap a kvs) (hn:a∉ms) (la:RepK w s ms kvs ds) (hk:Jf ds=true) {Q:Value ->Shared ->Prop}
  (hQ: ∀it s',Begun w A ms s s' it true (ds.map λkv=> .tup [dat kv.1,kv.2]) ->Q it s'):wpAny (model pw w) A (pyIter (.ref v)) Q E s:=by
 refine o10 ha.1.dictAt λep hd=>?_
 have hlt:=hd.lt_size
 refine wpAny_pyIter_items hv hd (hQ _ _ ⟨s.heap.objs.size,[s.heap.objs.size],_,rfl,Kp.push s _,λb hb=>?_,
  J9K (kvs:=kvs) (ep:=ep) (a:=a) hh hk la.length,⟨List.mem_append.mpr (.inl (List.mem_singleton.mpr rfl)),λm=>?_⟩,⟨⟨_,_,Heap.get?_push_size _ rfl⟩,hd.push _,RepK.past (Zf s ms _) la⟩⟩)
 ·rw[List.mem_singleton.mp hb]
  exact⟨Ju s,_,Heap.get?_push_size _ rfl⟩
 ·rcases List.mem_cons.mp m with rfl|m
  ·exact Nat.lt_irrefl _ hlt
  ·exact hn m
end
structure Dr (w:World) (A:Around) (ms:List Addr) (it:Addr) (ds:List D) (St:Nat ->Shared ->Prop):Prop where
 mem:it∈ms
 live: ∀i s,St i s -> ∃o,s.heap.get? it=some o
 frame: ∀i s s',St i s ->s.toks<=s'.toks ->(∀b o,(b=it∨b∉ms) ->s.heap.get? b=some o ->s'.heap.get? b=some o) ->St i s'
 item: ∀i s d (Q:Value ->Shared ->Prop) (E:Value ->Shared ->Prop),ds[i]?=some d ->St i s ->T0<=s.toks ->
  (∀x h' tk,s.toks<=tk ->St (i+1) {s with heap:=h',toks:=tk} ->Rep w {s with heap:=h',toks:=tk} ms x d ->Heap.SameBut it s.heap h' ->Q x {s with heap:=h',toks:=tk}) ->
  wpAny (model pw w) A (Builtin.SmallTypes.nextOf (.ref it)) Q E s
 done: ∀s (Q:Value ->Shared ->Prop) (E:Value ->Shared ->Prop),St ds.length s ->
  (∀h' e,Heap.ExtBut it s.heap h' ->(∃o,h'.get? e=some o/\ o.cls= .type "StopIteration") ->E (.ref e) {s with heap:=h'}) ->wpAny (model pw w) A (Builtin.SmallTypes.nextOf (.ref it)) Q E s
section
variable {w:World} {mg mb:Str ->Option Value} {A:Around} {E:Value ->Shared ->Prop} {s:Shared} {ms:List Addr}
theorem J31 {s:Shared} {h':Heap} {tk:Nat} {a:Addr} (hs:Heap.SameBut a s.heap h') (ha:a∈ms) (ht:s.toks<=tk):Past s ms {s with heap:=h',toks:=tk} ms:=
 ⟨ht,λb o e n=>⟨hs.extBut b o (λq=>n (q▸ha)) e,n⟩⟩
theorem Dr.list (hh:A.handled=none) {it l:Addr} {vs:List Value} {ds:List D} (hi:it∈ms) (hl:l∉ms) (hlen:vs.length=ds.length):
  Dr w A ms it ds (λi s=>s.heap.IsListIter it l i/\ s.heap.IsList l vs.toArray/\ RepL w s ms vs ds) where
 mem:=hi
 live:=λ_ _ st=>o11 st.1 λo ho _=>⟨o,ho⟩
 frame:=λ_ _ _ st ht hk=>⟨st.1.at λo e=>hk it o (.inl rfl) e,st.2.1.at λo e=>hk l o (.inr hl) e,st.2.2.past ⟨ht,λb o e n=>⟨hk b o (.inr n) e,n⟩⟩⟩
 item:=λi s d Q E hd st _ hQ=>by
  refine o11 (st.2.2.get hd) λv hv r=>?_
  have hne:l≠it:=λq=>hl (q▸hi)
  refine wpAny_nextOf_list_item st.1 st.2.1 (x:=v) (by simpa using hv) λh' hit' hs'=>?_
  have p:Past s ms {s with heap:=h'} ms:=J31 (tk:=s.toks) hs' hi (Nat.le_refl _)
  exact hQ _ h' s.toks (Nat.le_refl _) ⟨hit',st.2.1.extBut hs'.extBut hne,st.2.2.past p⟩ (r.past p) hs'
 done:=λs Q E st hE=>wpAny_nextOf_list_end hh st.1 st.2.1 (by simp[hlen]) hE
theorem Dr.str (hh:A.handled=none) {it:Addr} {x:Str} {t:Tok} (hi:it∈ms):Dr w A ms it (chars x) (λi s=>s.heap.IsStrIter it (strIterType x) x t i) where
 mem:=hi
 live:=λ_ _ st=>let⟨o,ho,_⟩:=st;⟨o,ho⟩
 frame:=λ_ _ _ st _ hk=>let⟨o,ho,r⟩:=st;⟨o,hk it o (.inl rfl) ho,r⟩
 item:=λi s d Q E hd st htk hQ=>by
  unfold chars at hd
  rw[List.getElem?_map,Option.map_eq_some_iff]at hd
  refine o11 hd λc hc q1=>?_;clear hd;subst q1
  have hne:s.toks≠0:=by
   have hT:T0=2367:=rfl
   lia
  have key: ∀h',h'.IsStrIter it (strIterType x) x t (i+1) ->Heap.SameBut it s.heap h' ->Q (.str ⟨#[c]⟩ s.toks) {s with heap:=h',toks:=s.toks+1}:=λh' st' hs'=>
   hQ _ h' (s.toks+1) (Nat.le_succ _) st' (.str _ _ hne (Nat.lt_succ_self _)) hs'
  have hc':x.cps[i]?=some c:=by simpa using hc
  unfold strIterType at st key
  split at st
  ·rename_i ha
   simp only[ha,if_true]at key
   exact wpAny_nextOf_ascii_item st hc' key
  ·rename_i ha
   rw[if_neg ha]at key
   exact wpAny_nextOf_wide_item st hc' key
 done:=λs Q E st hE=>by
  have hc:x.cps[(chars x).length]?=none:=by simp[chars]
  unfold strIterType at st
  split at st
  ·exact wpAny_nextOf_ascii_end hh st hc hE
  ·exact wpAny_nextOf_wide_end hh st hc hE
structure DrM (w:World) (A:Around) (it:Addr) (ds:List D) (St:List Addr ->Nat ->Shared ->Prop):Prop where
 at': ∀M i s,St M i s ->Dr w A M it ds (St M)
 mv: ∀M M' i s s' wr,it∈wr ->St M i s ->Go wr M M' s s' ->St M' i s'
theorem DrM.of {it:Addr} {ds:List D} {Ok:List Addr ->Prop} {S:List Addr ->Nat ->Shared ->Prop} (h: ∀M,Ok M ->Dr w A M it ds (S M))
  (mv: ∀M M' i s s' wr,it∈wr ->Ok M ->S M i s ->Go wr M M' s s' ->Ok M'/\ S M' i s'):DrM w A it ds (λM i s=>Ok M/\ S M i s) where
 at':=λM i s st=>by
  have e:(λi s=>Ok M/\ S M i s)=S M:=by
   funext i s
   exact propext ⟨λx=>x.2,λx=>⟨st.1,x⟩⟩
  rw[e];exact h M st.1
 mv:=λM M' i s s' wr hi st g=>mv M M' i s s' wr hi st.1 st.2 g
theorem DrM.list (hh:A.handled=none) {it l:Addr} {vs:List Value} {ds:List D} (hlen:vs.length=ds.length):
  DrM w A it ds (λM i s=>(it∈M/\ l∉M)/\ s.heap.IsListIter it l i/\ s.heap.IsList l vs.toArray/\ RepL w s M vs ds):=
 DrM.of (Ok:=λM=>it∈M/\ l∉M) (S:=λM i s=>s.heap.IsListIter it l i/\ s.heap.IsList l vs.toArray/\ RepL w s M vs ds) (λ_ ok=>Dr.list hh ok.1 ok.2 hlen)
  λ_ _ _ _ _ _ hi ok st g=>by
   refine o02 st λa b r=>?_;clear st
   refine o11 (id b) λo ho _=>?_
   exact⟨⟨g.sub it hi,g.out ho ok.2⟩,a.at λo e=>g.wr it hi o e,b.at λo e=>g.at (.inr ok.2) o e,r.past g.past⟩
theorem DrM.str (hh:A.handled=none) {it:Addr} {x:Str} {t:Tok}:DrM w A it (chars x) (λM i s=>it∈M/\ s.heap.IsStrIter it (strIterType x) x t i):=
 DrM.of (Ok:=λM=>it∈M) (S:=λ_ i s=>s.heap.IsStrIter it (strIterType x) x t i) (λ_ ok=>Dr.str hh ok)
  λ_ _ _ _ _ _ hi _ st g=>⟨g.sub it hi,o11 st λo ho r=>⟨o,g.wr it hi o ho,r⟩⟩
theorem J7L {ds:List D} {k i:Nat} {d:D} (e:(enumD k ds)[i]?=some d): ∃x,ds[i]?=some x/\ d= .tup [.int ((k+i:Nat):Int),x]:=by
 induction ds generalizing k i with
 |nil=>exact nn e
 |cons x r ih=>cases i with
  |zero=>exact⟨x,rfl,(Option.some.inj e).symm⟩
  |succ i=>exact o11 (ih e) λy h1 h2=>⟨y,h1,by rw[h2,Nat.add_assoc,Nat.add_comm 1 i]⟩
theorem J1n (ds:List D) (k:Nat):(enumD k ds).length=ds.length:=by
 induction ds generalizing k with
 |nil=>rfl
 |cons d r ih=>exact congrArg (· +1) (ih (k+1))
theorem Kt {e it:Addr} {i:Nat} {ds:List D} {St:Nat ->Shared ->Prop} {old:Value} {d:D} {Q:Value ->Shared ->Prop} (D:Dr w A ms it ds St) (he:IsEnum s.heap e it i old) (hst:St i s) (hd:ds[i]?=some d) (htk:T0<=s.toks) (hem:e∈ms) (hne:e≠it)
  (hQ: ∀x h' tk,s.toks<=tk ->IsEnumOut h' e it ((i:Int)+1) x s.heap.objs.size ->St (i+1) {s with heap:=h',toks:=tk+1} ->Rep w {s with heap:=h',toks:=tk+1} ms x d ->
   h'.get? s.heap.objs.size=some {cls:= .type "tuple",data:= .seq #[.int i tk,x]} ->
   (∀b o,b≠e ->b≠it ->s.heap.get? b=some o ->h'.get? b=some o) ->Q (.ref s.heap.objs.size) {s with heap:=h',toks:=tk+1}):
  wpAny (model pw w) A (Builtin.«enumerate.__next__» ⟨[.ref e],[]⟩) (λfin s'=> ∃v,fin= .done (.ret v)/\ Q v s') E s:=by
 show wpAny _ _ (field (.ref e) 2>>=_) _ _ _
 refine wpAny_bind (wpAny_field he rfl (x:= .ref it) rfl ?_)
 refine wpAny_bind (D.item i _ d _ _ hd hst htk λx h₁ tk htk₁ hit₁ hx hs₁=>?_)
 have he₁:IsEnum h₁ e it i old:=(hs₁.2 e hne).trans he
 show wpAny _ _ (field (.ref e) 3>>=_) _ _ _
 refine wpAny_bind (wpAny_field he₁ rfl (x:=rawInt i) rfl ?_)
 show wpAny _ _ (field (.ref e) 4>>=_) _ _ _
 refine wpAny_bind (wpAny_field he₁ rfl (x:= .none) rfl ?_)
 show wpAny _ _ (mkInt i>>=_) _ _ _
 refine wpAny_bind (wpAny_mkInt ?_)
 show wpAny _ _ (setField (.ref e) 3 (rawInt ((i:Int)+1))>>=_) _ _ {s with heap:=h₁,toks:=tk+1}
 refine wpAny_bind (wpAny_setField_rec he₁ (by simp) λh₂ he₂ hs₂=>?_)
 replace hs₂:Heap.SameBut e h₁ h₂:=hs₂
 replace he₂:IsEnum h₂ e it ((i:Int)+1) old:=he₂
 show wpAny _ _ (setField (.ref e) 4 .none>>=_) _ _ {s with heap:=h₂,toks:=tk+1}
 refine wpAny_bind (wpAny_setField_rec he₂ (by simp) λh₃ he₃ hs₃=>?_)
 replace hs₃:Heap.SameBut e h₂ h₃:=hs₃
 replace he₃:IsEnum h₃ e it ((i:Int)+1) old:=he₃
 show wpAny _ _ (newTuple [.int i tk,x]>>=_) _ _ {s with heap:=h₃,toks:=tk+1}
 refine wpAny_bind (wpAny_newTuple ?_)
 have he₄:IsEnum (h₃.push {cls:= .type "tuple",data:= .seq #[.int i tk,x]}) e it ((i:Int)+1) old:=Heap.get?_push_of_some _ he₃
 have hsz:h₃.objs.size=s.heap.objs.size:=by rw[hs₃.1,hs₂.1,hs₁.1]
 have hel:e<s.heap.objs.size:=Heap.lt_size he
 have ht₄:(h₃.push {cls:= .type "tuple",data:= .seq #[.int i tk,x]}).get? s.heap.objs.size=some {cls:= .type "tuple",data:= .seq #[.int i tk,x]}:=by rw[<-hsz];exact Heap.get?_push_size _ rfl
 show wpAny _ _ (Builtin.SmallTypes.ownedTupleIsFree (.ref e)>>=_) _ _ _
 refine wpAny_bind ?_
 unfold Builtin.SmallTypes.ownedTupleIsFree
 refine wpAny_bind (wpAny_field he₄ rfl (x:= .none) rfl (wpAny_pure ?_))
 simp only[if_true]
 refine wpAny_bind (wpAny_rule ?_)
 refine wpAny_bind (wpAny_field he₄ rfl (x:=old) rfl ?_)
 refine wpAny_bind (wpAny_setField_rec he₄ (by simp) λh₅ he₅ hs₅=>?_)
 replace he₅:IsEnum h₅ e it ((i:Int)+1) x:=he₅
 show wpAny _ _ (Builtin.SmallTypes.ownedTupleHandOut (.ref e) (.ref h₃.objs.size)>>=_) _ _ {s with heap:=h₅,toks:=tk+1}
 rw[hsz]
 refine wpAny_bind ?_
 unfold Builtin.SmallTypes.ownedTupleHandOut
 refine wpAny_bind (wpAny_setField_rec he₅ (by simp) λh₆ he₆ hs₆=>?_)
 replace he₆:IsEnumOut h₆ e it ((i:Int)+1) x s.heap.objs.size:=he₆
 refine wpAny_setField_rec he₆ (by simp) λh₇ he₇ hs₇=>?_
 replace he₇:IsEnumOut h₇ e it ((i:Int)+1) x s.heap.objs.size:=he₇
 have up: ∀b o,b≠e ->h₁.get? b=some o ->h₇.get? b=some o:=λb o hb q=>
  hs₇.extBut b o hb (hs₆.extBut b o hb (hs₅.extBut b o hb (Heap.get?_push_of_some _ (hs₃.extBut b o hb (hs₂.extBut b o hb q)))))
 have pst:Past {s with heap:=h₁,toks:=tk} ms {s with heap:=h₇,toks:=tk+1} ms:=⟨Nat.le_succ _,λb o q n=>⟨up b o (λz=>n (z▸hem)) q,n⟩⟩
 refine wpAny_bind (wpAny_letGo (wpAny_pure ⟨_,rfl,hQ x h₇ tk htk₁ he₇ ?_ (hx.past pst) ?_ ?_⟩))
 ·refine D.frame _ _ _ hit₁ (Nat.le_succ _) λb o hb q=>up b o ?_ q
  exact Or.elim hb (λe=>e▸(Ne.symm hne)) λhb=>λz=>hb (z▸hem)
 ·exact hs₇.extBut _ _ (Nat.ne_of_gt hel) (hs₆.extBut _ _ (Nat.ne_of_gt hel) (hs₅.extBut _ _ (Nat.ne_of_gt hel) ht₄))
 ·exact λb o hbe hbi hb=>up b o hbe (hs₁.extBut b o hbi hb)
end
section
variable {w:World} {mg mb:Str ->Option Value} {A:Around} {E:Value ->Shared ->Prop} {s:Shared} {ms:List Addr}
theorem Jg7 {x a b:Addr} (h:x∉[a,b]):x≠a/\ x≠b:=⟨λq=>h (q▸List.mem_cons_self),λq=>h (q▸ .tail _ (.head _))⟩
theorem Jeq {e it:Addr} {ds:List D} {St:Nat ->Shared ->Prop} (D:Dr w A.in1 ms it ds St) (hem:e∈ms) (hne:e≠it):
  Wk w A ms e [e,it] true (enumD 0 ds) (λi s=>(∃old,IsEnum s.heap e it i old)/\ St i s) where
 sub:=List.forall_mem_cons.mpr ⟨hem,List.forall_mem_cons.mpr ⟨D.mem,λ_ h=>absurd h List.not_mem_nil⟩⟩
 live:=λi s st=>o10 st.1 λ_ e=>List.forall_mem_cons.mpr ⟨⟨_,e⟩,List.forall_mem_cons.mpr ⟨D.live _ _ st.2,λ_ h=>absurd h List.not_mem_nil⟩⟩
 frame:=λi s s' st ht hk=>⟨o10 st.1 λold q=>⟨old,hk e _ (.inl (by simp)) q⟩,D.frame _ _ _ st.2 ht λb o hb q=>hk b o (hb.elim (λe=>e▸(.inl (by simp))) .inr) q⟩
 step:=λi s d tg Q E E' hd st htk hok hQ=>by
  refine o01 st λq1 hst=>?_;clear st;obtain⟨old,he⟩:=q1
  refine o11 (J7L hd) λx hx q2=>?_;clear hd;subst q2
  rw[Nat.zero_add]at hQ
  have hel:e<s.heap.objs.size:=Heap.lt_size he
  have hT:s.TypeIs (.ref e) "enumerate":=⟨_,he,rfl⟩
  cases tg with
  |Tuple elts k1 pos=>
   unfold pyNext
   refine wpAny_bind (wpAny_attempt (wpAny_callSpecial?_slot (name:=Str.ofString "__next__") hT F.slot_enumerate_next
    (wpAny_call_entry F.slot_enumerate_next hT F.entry_enumerate_next
     (Kt D he hst hx htk hem hne λv h' tk ht₁ ho hst' hr hTu hk=>wpAny_pure ⟨_,rfl,?_⟩) (F.args_enumerate_next_1 _))))
   refine wpAny_letOwnedTupleGo_enum ho λh₂ he₂ hs₂=>?_
   have kw:Kw [e,it] s {s with heap:=h₂,toks:=tk+1}:=⟨⟨_,_,rfl⟩,Nat.le_trans ht₁ (Nat.le_succ _),λb o n q=>hs₂.extBut b o (Jg7 n).1 (hk b o (Jg7 n).1 (Jg7 n).2 q)⟩
   have p2:Past {s with heap:=h',toks:=tk+1} ms {s with heap:=h₂,toks:=tk+1} ms:=⟨Nat.le_refl _,λb o q n=>⟨hs₂.extBut b o (λz=>n (z▸hem)) q,n⟩⟩
   refine hQ _ _ kw ⟨⟨_,by simpa using he₂⟩,D.frame _ _ _ hst' (Nat.le_refl _) λb o hb q=>hs₂.extBut b o ?_ q⟩ (.inr ⟨rfl,s.heap.objs.size,#[.int i tk,v],_,rfl,⟨_,hs₂.extBut _ _ (Nat.ne_of_gt hel) hTu,rfl,_,rfl⟩,rfl,J0S (.int _ _) (hr.past p2)⟩)
   exact Or.elim hb (λe=>e▸(Ne.symm hne)) λhb=>λz=>hb (z▸hem)
  |_=>exact Bool.noConfusion hok
 done:=λs Q E st hQ=>by
  refine o01 st λq3 hst=>?_;clear st;obtain⟨old,he⟩:=q3
  rw[J1n]at hst
  have hT:s.TypeIs (.ref e) "enumerate":=⟨_,he,rfl⟩
  unfold pyNext
  refine wpAny_bind (wpAny_attempt (wpAny_callSpecial?_slot (name:=Str.ofString "__next__") hT F.slot_enumerate_next
   (wpAny_call_entry F.slot_enumerate_next hT F.entry_enumerate_next ?_ (F.args_enumerate_next_1 _))))
  show wpAny _ _ (field (.ref e) 2>>=_) _ _ _
  refine wpAny_bind (wpAny_field he rfl (x:= .ref it) rfl ?_)
  refine wpAny_bind (D.done _ _ _ hst λh' x he' hx'=>?_)
  refine o11 hx' λo ho hc=>?_;clear hx'
  refine wpAny_bind (wpAny_isInstance (T:="StopIteration") (b:=true) ⟨o,ho,hc⟩ isSubtype_stop ?_)
  exact wpAny_pure (hQ _ ⟨⟨_,s.toks,rfl⟩,Nat.le_refl _,λb o n q=>he' b o (Jg7 n).2 q⟩)
 self:=λi s Q E st hQ=>let⟨⟨_,he⟩,_⟩:=st;wpAny_pyIter_enum he hQ
theorem J5F {e it:Addr} {ds:List D} {St:List Addr ->Nat ->Shared ->Prop} (D:DrM w A.in1 it ds St) (hne:e≠it):
  WkM w A e [e,it] true (enumD 0 ds) (λM i s=>e∈M/\ (∃old,IsEnum s.heap e it i old)/\ St M i s) where
 at':=λM i s st=>by
  have x:=Jeq (D.at' M i s st.2.2) st.1 hne
  have e:(λ(i:Nat) (s:Shared)=>e∈M/\ (∃old,IsEnum s.heap e it i old)/\ St M i s)=(λ(i:Nat) (s:Shared)=>(∃old,IsEnum s.heap e it i old)/\ St M i s):=by
   funext i s
   exact propext ⟨λx=>x.2,λx=>⟨st.1,x⟩⟩
  rw[e];exact x
 mv:=λM M' i s s' st g=>⟨g.sub e (by simp),o10 st.2.1 λold q=>⟨old,g.wr e (by simp) _ q⟩,D.mv _ _ _ _ _ _ (by simp) st.2.2 g⟩
theorem Jb4 {a n:Addr} (h:a<n) (hn:a∉ms):a∉[n+1,n]++ms:=by
 intro m
 rcases List.mem_cons.mp m with rfl|m
 ·exact absurd h (Nat.not_lt.mpr (Nat.le_succ n))
 ·rcases List.mem_cons.mp m with rfl|m
  ·exact absurd h (Nat.lt_irrefl _)
  ·exact hn m
theorem Ze {s:Shared} {h':Heap} {l:List Addr} (hk: ∀b o,s.heap.get? b=some o ->h'.get? b=some o) (hl: ∀b∈l,s.heap.objs.size<=b):Past s ms {s with heap:=h'} (l++ms):=
 ⟨Nat.le_refl _,λb o e n=>⟨hk b o e,λm=>by
  rcases List.mem_append.mp m with m|m
  ·exact absurd (Heap.lt_size e) (Nat.not_lt.mpr (hl b m))
  ·exact n m⟩⟩
theorem Kr (hh:A.handled=none) {a:Addr} {vs:List Value} {ds:List D} (ha:LsAt s.heap a vs) (hn:a∉ms) (la:RepL w s ms vs ds) {Q:Value ->Shared ->Prop}
  (hQ: ∀it s',Begun w A ms s s' it true (enumD 0 ds) ->Q it s'):wpAny (model pw w) A (call (.type "enumerate") [.ref a]) (λv s₁=>wpAny (model pw w) A (pyIter v) Q E s₁) E s:=by
 have hlt:a<s.heap.objs.size:=o10 ha λ_ e=>Heap.lt_size e
 refine call_enumerate_list ha.isList λh' he hit hsz hk=>wpAny_pyIter_enum he (hQ _ _ ⟨s.heap.objs.size+1,[s.heap.objs.size+1,s.heap.objs.size],_,rfl,⟨Keeps.mk' hk,Nat.le_refl _⟩,?_,
  J5F (e:=s.heap.objs.size+1) (it:=s.heap.objs.size) (DrM.list (w:=w) (A:=A.in1) (it:=s.heap.objs.size) (l:=a) (vs:=vs) (ds:=ds) hh la.length) (by exact Nat.succ_ne_self _),by simp,⟨_,he⟩,⟨by simp,Jb4 hlt hn⟩,hit,ha.isList.at λo e=>hk a o e,la.past (Ze hk ?_)⟩)
 ·intro b hb
  refine⟨?_,?_⟩
  ·rcases List.mem_cons.mp hb with rfl|hb
   ·exact Jz (Nat.le_succ _)
   ·rw[List.mem_singleton.mp hb];exact Ju s
  ·rcases List.mem_cons.mp hb with rfl|hb
   ·exact⟨_,he⟩
   ·rw[List.mem_singleton.mp hb];exact o11 hit λo e _=>⟨o,e⟩
 ·intro b hb
  rcases List.mem_cons.mp hb with rfl|hb
  ·exact Nat.le_succ _
  ·rw[List.mem_singleton.mp hb];exact Nat.le_refl _
theorem J0n (hh:A.handled=none) {x:Str} {t:Tok} {Q:Value ->Shared ->Prop}
  (hQ: ∀it s',Begun w A ms s s' it true (enumD 0 (chars x)) ->Q it s'):wpAny (model pw w) A (call (.type "enumerate") [.str x t]) (λv s₁=>wpAny (model pw w) A (pyIter v) Q E s₁) E s:=by
 refine call_enumerate_str λh' he hit hsz hk=>wpAny_pyIter_enum he (hQ _ _ ⟨s.heap.objs.size+1,[s.heap.objs.size+1,s.heap.objs.size],_,rfl,⟨Keeps.mk' hk,Nat.le_refl _⟩,?_,
  J5F (e:=s.heap.objs.size+1) (it:=s.heap.objs.size) (DrM.str (w:=w) (A:=A.in1) (it:=s.heap.objs.size) (x:=x) (t:=t) hh) (by exact Nat.succ_ne_self _),by simp,⟨_,he⟩,by simp,hit⟩)
 intro b hb
 refine⟨?_,?_⟩
 ·rcases List.mem_cons.mp hb with rfl|hb
  ·exact Jz (Nat.le_succ _)
  ·rw[List.mem_singleton.mp hb];exact Ju s
 ·rcases List.mem_cons.mp hb with rfl|hb
  ·exact⟨_,he⟩
  ·rw[List.mem_singleton.mp hb];exact o11 hit λo e _=>⟨o,e⟩
end
section
variable {w:World} {mg mb:Str ->Option Value} {A:Around} {E:Value ->Shared ->Prop} {s:Shared} {ms:List Addr}
theorem Jcb {xs ys:List D} {i:Nat} {d:D} (e:(zipD xs ys)[i]?=some d): ∃x y,xs[i]?=some x/\ ys[i]?=some y/\ d= .tup [x,y]:=by
 induction xs generalizing ys i with
 |nil=>exact nn e
 |cons x xs ih=>cases ys with
  |nil=>exact nn e
  |cons y ys=>cases i with
   |zero=>exact⟨x,y,rfl,rfl,(Option.some.inj e).symm⟩
   |succ i=>exact ih e
theorem J4E {xs ys:List D} (h:xs.length=ys.length):(zipD xs ys).length=xs.length:=by
 induction xs generalizing ys with
 |nil=>rfl
 |cons x xs ih=>cases ys with
  |nil=>exact Nat.noConfusion h
  |cons y ys=>exact congrArg (· +1) (ih (Nat.succ.inj h))
theorem Jhl {P:Addr ->Prop} {a b c d e:Addr} (h1:P a) (h2:P b) (h3:P c) (h4:P d) (h5:P e): ∀x∈[a,b,c,d,e],P x:=
 List.forall_mem_cons.mpr ⟨h1,List.forall_mem_cons.mpr ⟨h2,List.forall_mem_cons.mpr ⟨h3,List.forall_mem_cons.mpr ⟨h4,List.forall_mem_cons.mpr ⟨h5,λ_ h=>absurd h List.not_mem_nil⟩⟩⟩⟩⟩
theorem JgT {x a b c d e:Addr} (h:x∉[a,b,c,d,e]):x≠a/\ x≠b/\ x≠c/\ x≠d/\ x≠e:=by
 simp only[List.mem_cons,List.not_mem_nil,or_false,not_or]at h
 exact h
structure ZAp (z TI TO i1 i2:Addr):Prop where
 TIz:TI≠z
 TOz:TO≠z
 i1z:i1≠z
 i2z:i2≠z
 TITO:TI≠TO
 TIi1:TI≠i1
 TIi2:TI≠i2
 TOi1:TO≠i1
 TOi2:TO≠i2
 i12:i1≠i2
theorem Jcd {z TI TO i1 i2:Addr} {i:Nat} {xs ys:List D} {St1 St2:Nat ->Shared ->Prop} {a b:Value} {x y:D} {Q:Value ->Shared ->Prop} (P:ZAp z TI TO i1 i2)
  (D1:Dr w A ms i1 xs St1) (D2:Dr w A ms i2 ys St2) (hz:IsZip s.heap z TI TO .none) (hTI:IsPair s.heap TI (.ref i1) (.ref i2)) (hTO:IsPair s.heap TO a b)
  (h1:St1 i s) (h2:St2 i s) (hx:xs[i]?=some x) (hy:ys[i]?=some y) (htk:T0<=s.toks) (zm:z∈ms) (TIm:TI∈ms) (TOm:TO∈ms)
  (hQ: ∀u v h' tk,s.toks<=tk ->IsZip h' z TI TO (rawInt s.heap.objs.size) ->IsPair h' TO u v ->St1 (i+1) {s with heap:=h',toks:=tk} ->St2 (i+1) {s with heap:=h',toks:=tk} ->IsPair h' s.heap.objs.size u v ->
   Rep w {s with heap:=h',toks:=tk} ms u x ->Rep w {s with heap:=h',toks:=tk} ms v y ->
   (∀c o,c≠z ->c≠TO ->c≠i1 ->c≠i2 ->s.heap.get? c=some o ->h'.get? c=some o) ->Q (.ref s.heap.objs.size) {s with heap:=h',toks:=tk}):
  wpAny (model pw w) A (Builtin.«zip.__next__» ⟨[.ref z],[]⟩) (λfin s'=> ∃v,fin= .done (.ret v)/\ Q v s') E s:=by
 have nz: ∀{c},c∉ms ->c≠z:=λh q=>h (q▸zm)
 have nTO: ∀{c},c∉ms ->c≠TO:=λh q=>h (q▸TOm)
 have n1: ∀{c},c∉ms ->c≠i1:=λh q=>h (q▸D1.mem)
 have n2: ∀{c},c∉ms ->c≠i2:=λh q=>h (q▸D2.mem)
 show wpAny _ _ (field (.ref z) 2>>=_) _ _ _
 refine wpAny_bind (wpAny_field hz rfl (x:= .bool false) rfl ?_)
 show wpAny _ _ (field (.ref z) 3>>=_) _ _ _
 refine wpAny_bind (wpAny_field hz rfl (x:= .ref TI) rfl ?_)
 refine wpAny_bind (wpAny_seqItems hTI rfl ?_)
 show wpAny _ _ (Builtin.SmallTypes.ownedTupleIsFree (.ref z)>>=_) _ _ _
 refine wpAny_bind ?_
 unfold Builtin.SmallTypes.ownedTupleIsFree
 refine wpAny_bind (wpAny_field hz rfl (x:= .none) rfl (wpAny_pure ?_))
 simp only[if_true]
 refine wpAny_bind (wpAny_rule ?_)
 refine wpAny_bind (wpAny_field hz rfl (x:= .ref TO) rfl ?_)
 refine wpAny_bind (wpAny_setField_rec hz (by simp) λg₁ hz₁ hs₁=>?_)
 replace hz₁:IsZip g₁ z TI TO .ellipsis:=hz₁
 have st1₁:St1 i {s with heap:=g₁}:=D1.frame _ _ _ h1 (Nat.le_refl _) λc o hc q=>hs₁.extBut c o (hc.elim (λe=>e▸P.i1z) nz) q
 have st2₁:St2 i {s with heap:=g₁}:=D2.frame _ _ _ h2 (Nat.le_refl _) λc o hc q=>hs₁.extBut c o (hc.elim (λe=>e▸P.i2z) nz) q
 refine wpAny_bind ?_
 simp only[List.zipIdx_cons,List.zipIdx_nil,List.forIn_cons,List.forIn_nil]
 refine wpAny_bind (wpAny_bind (wpAny_onRaise ?_))
 show wpAny _ _ (Builtin.SmallTypes.nextOf (.ref i1)>>=_) _ _ _
 refine wpAny_bind (D1.item i _ x _ _ hx st1₁ htk λu g₂ tk₂ ht₂ st1₂ ru hs₂=>wpAny_pure ?_)
 have hTO₂:IsPair g₂ TO a b:=hs₂.extBut _ _ P.TOi1 (hs₁.extBut _ _ P.TOz hTO)
 refine wpAny_bind (wpAny_seqItems hTO₂ rfl ?_)
 refine wpAny_bind (wpAny_updateSeq_pair hTO₂ λg₃ hTO₃ hs₃=>?_)
 replace hTO₃:IsPair g₃ TO u b:=hTO₃
 refine wpAny_bind (wpAny_letGo (wpAny_pure ?_))
 have st2₃:St2 i {s with heap:=g₃,toks:=tk₂}:=D2.frame _ _ _ st2₁ ht₂ λc o hc q=>by
  have e1:c≠i1:=hc.elim (λe=>e▸P.i12.symm) n1
  have e2:c≠TO:=hc.elim (λe=>e▸P.TOi2.symm) nTO
  exact hs₃.extBut c o e2 (hs₂.extBut c o e1 q)
 have ht₂':s.toks<=tk₂:=ht₂
 refine wpAny_bind (wpAny_bind (wpAny_onRaise ?_))
 show wpAny _ _ (Builtin.SmallTypes.nextOf (.ref i2)>>=_) _ _ _
 refine wpAny_bind (D2.item i {s with heap:=g₃,toks:=tk₂} y _ _ hy st2₃ (Nat.le_trans htk ht₂') λv g₄ tk₄ ht₄ st2₄ rv hs₄=>wpAny_pure ?_)
 have hTO₄:IsPair g₄ TO u b:=hs₄.extBut _ _ P.TOi2 hTO₃
 refine wpAny_bind (wpAny_seqItems hTO₄ rfl ?_)
 refine wpAny_bind (wpAny_updateSeq_pair hTO₄ λg₅ hTO₅ hs₅=>?_)
 replace hTO₅:IsPair g₅ TO u v:=hTO₅
 refine wpAny_bind (wpAny_letGo (wpAny_pure (wpAny_pure ?_)))
 refine wpAny_bind (wpAny_seqItems hTO₅ rfl ?_)
 refine wpAny_bind (wpAny_newTuple ?_)
 have hsz:g₅.objs.size=s.heap.objs.size:=by rw[hs₅.1,hs₄.1,hs₃.1,hs₂.1,hs₁.1]
 have hz₅:IsZip g₅ z TI TO .ellipsis:=hs₅.extBut _ _ P.TOz.symm (hs₄.extBut _ _ P.i2z.symm (hs₃.extBut _ _ P.TOz.symm (hs₂.extBut _ _ P.i1z.symm hz₁)))
 have hk₅: ∀c o,c≠z ->c≠TO ->c≠i1 ->c≠i2 ->s.heap.get? c=some o ->g₅.get? c=some o:=λc o c1 c2 c3 c4 e=>
  hs₅.extBut _ _ c2 (hs₄.extBut _ _ c4 (hs₃.extBut _ _ c2 (hs₂.extBut _ _ c3 (hs₁.extBut _ _ c1 e))))
 have hzlt:z<g₅.objs.size:=Heap.lt_size hz₅
 show wpAny _ _ (Builtin.SmallTypes.ownedTupleHandOut (.ref z) (.ref g₅.objs.size)>>=_) _ _ _
 refine wpAny_bind ?_
 unfold Builtin.SmallTypes.ownedTupleHandOut
 have hz₆:IsZip (g₅.push {cls:= .type "tuple",data:= .seq #[u,v]}) z TI TO .ellipsis:=Heap.get?_push_of_some _ hz₅
 refine wpAny_bind (wpAny_setField_rec hz₆ (by simp) λg₇ hz₇ hs₇=>?_)
 replace hz₇:IsZip g₇ z TI TO (rawInt g₅.objs.size):=hz₇
 refine wpAny_setField_rec hz₇ (by simp) λg₈ hz₈ hs₈=>?_
 replace hz₈:IsZip g₈ z TI TO (rawInt g₅.objs.size):=hz₈
 have up: ∀c o,c≠z ->g₅.get? c=some o ->g₈.get? c=some o:=λc o c1 e=>hs₈.extBut _ _ c1 (hs₇.extBut _ _ c1 (Heap.get?_push_of_some _ e))
 have hT₈:IsPair g₈ g₅.objs.size u v:=hs₈.extBut _ _ (Nat.ne_of_gt hzlt) (hs₇.extBut _ _ (Nat.ne_of_gt hzlt) (Heap.get?_push_size _ rfl))
 rw[hsz]at hz₈ hT₈
 refine wpAny_pure ⟨_,rfl,?_⟩
 show Q (.ref g₅.objs.size) _
 rw[hsz]
 have st1₈:St1 (i+1) {s with heap:=g₈,toks:=tk₄}:=D1.frame _ _ _ st1₂ ht₄ λc o hc q=>by
  have e0:c≠z:=hc.elim (λe=>e▸P.i1z) nz
  have e1:c≠i2:=hc.elim (λe=>e▸P.i12) n2
  have e2:c≠TO:=hc.elim (λe=>e▸P.TOi1.symm) nTO
  exact up c o e0 (hs₅.extBut c o e2 (hs₄.extBut c o e1 (hs₃.extBut c o e2 q)))
 have st2₈:St2 (i+1) {s with heap:=g₈,toks:=tk₄}:=D2.frame _ _ _ st2₄ (Nat.le_refl _) λc o hc q=>by
  have e0:c≠z:=hc.elim (λe=>e▸P.i2z) nz
  have e2:c≠TO:=hc.elim (λe=>e▸P.TOi2.symm) nTO
  exact up c o e0 (hs₅.extBut c o e2 q)
 have pu:Past {s with heap:=g₂,toks:=tk₂} ms {s with heap:=g₈,toks:=tk₄} ms:=⟨ht₄,λc o q n=>⟨up c o (nz n) (hs₅.extBut c o (nTO n) (hs₄.extBut c o (n2 n) (hs₃.extBut c o (nTO n) q))),n⟩⟩
 have pv:Past {s with heap:=g₄,toks:=tk₄} ms {s with heap:=g₈,toks:=tk₄} ms:=⟨Nat.le_refl _,λc o q n=>⟨up c o (nz n) (hs₅.extBut c o (nTO n) q),n⟩⟩
 exact hQ u v g₈ tk₄ (Nat.le_trans ht₂' ht₄) hz₈ (up _ _ P.TOz hTO₅) st1₈ st2₈ hT₈ (ru.past pu) (rv.past pv) λc o c1 c2 c3 c4 e=>up c o c1 (hk₅ c o c1 c2 c3 c4 e)
theorem Jes {z TI TO i1 i2:Addr} {xs:List D} {St1:Nat ->Shared ->Prop} {a b:Value} {Q:Fin ->Shared ->Prop} (P:ZAp z TI TO i1 i2)
  (D1:Dr w A ms i1 xs St1) (hz:IsZip s.heap z TI TO .none) (hTI:IsPair s.heap TI (.ref i1) (.ref i2)) (_:IsPair s.heap TO a b) (h1:St1 xs.length s) (zm:z∈ms)
  (hE: ∀h' e,(∀c o,c≠z ->c≠i1 ->s.heap.get? c=some o ->h'.get? c=some o) ->(∃o,h'.get? e=some o/\ o.cls= .type "StopIteration") ->E (.ref e) {s with heap:=h'}):
  wpAny (model pw w) A (Builtin.«zip.__next__» ⟨[.ref z],[]⟩) Q E s:=by
 have nz: ∀{c},c∉ms ->c≠z:=λh q=>h (q▸zm)
 show wpAny _ _ (field (.ref z) 2>>=_) _ _ _
 refine wpAny_bind (wpAny_field hz rfl (x:= .bool false) rfl ?_)
 show wpAny _ _ (field (.ref z) 3>>=_) _ _ _
 refine wpAny_bind (wpAny_field hz rfl (x:= .ref TI) rfl ?_)
 refine wpAny_bind (wpAny_seqItems hTI rfl ?_)
 show wpAny _ _ (Builtin.SmallTypes.ownedTupleIsFree (.ref z)>>=_) _ _ _
 refine wpAny_bind ?_
 unfold Builtin.SmallTypes.ownedTupleIsFree
 refine wpAny_bind (wpAny_field hz rfl (x:= .none) rfl (wpAny_pure ?_))
 simp only[if_true]
 refine wpAny_bind (wpAny_rule ?_)
 refine wpAny_bind (wpAny_field hz rfl (x:= .ref TO) rfl ?_)
 refine wpAny_bind (wpAny_setField_rec hz (by simp) λg₁ hz₁ hs₁=>?_)
 replace hz₁:IsZip g₁ z TI TO .ellipsis:=hz₁
 have st1₁:St1 xs.length {s with heap:=g₁}:=D1.frame _ _ _ h1 (Nat.le_refl _) λc o hc q=>hs₁.extBut c o (hc.elim (λe=>e▸P.i1z) nz) q
 refine wpAny_bind ?_
 simp only[List.zipIdx_cons,List.zipIdx_nil,List.forIn_cons,List.forIn_nil]
 refine wpAny_bind (wpAny_bind (wpAny_onRaise ?_))
 show wpAny _ _ (Builtin.SmallTypes.nextOf (.ref i1)>>=_) _ _ _
 refine wpAny_bind (D1.done _ _ _ st1₁ λg₂ e hs₂ he=>?_)
 obtain⟨oe,hoe,hce⟩:=he
 have hz₂:IsZip g₂ z TI TO .ellipsis:=hs₂ _ _ P.i1z.symm hz₁
 have hez:e≠z:=λx=>by clear P hz zm hE nz hs₁ hz₁;subst x;rw[hz₂]at hoe;cases hoe;simp at hce
 exact wpAny_setField_rec hz₂ (by simp) λg₃ _ hs₃=>hE g₃ e (λc o c1 c3 x=>hs₃.extBut _ _ c1 (hs₂ _ _ c3 (hs₁.extBut _ _ c1 x))) ⟨oe,hs₃.extBut _ _ hez hoe,hce⟩
theorem JfZ {z TI TO i1 i2:Addr} {xs ys:List D} {St1 St2:Nat ->Shared ->Prop} (P:ZAp z TI TO i1 i2) (D1:Dr w A.in1 ms i1 xs St1) (D2:Dr w A.in1 ms i2 ys St2) (hl:xs.length=ys.length) (zm:z∈ms) (TIm:TI∈ms) (TOm:TO∈ms):
  Wk w A ms z [z,TI,TO,i1,i2] true (zipD xs ys) (λi s=>IsZip s.heap z TI TO .none/\ IsPair s.heap TI (.ref i1) (.ref i2)/\ (∃a b,IsPair s.heap TO a b)/\ St1 i s/\ St2 i s) where
 sub:=Jhl zm TIm TOm D1.mem D2.mem
 live:=λi s st=>o04 st λa1 a2 q a4 a5=>o20 q λa b a3=>Jhl ⟨_,a1⟩ ⟨_,a2⟩ ⟨_,a3⟩ (D1.live _ _ a4) (D2.live _ _ a5)
 frame:=λi s s' st ht hk=>o04 st λa1 a2 q a4 a5=>o20 q λa b a3=>
  ⟨hk z _ (.inl (.head _)) a1,hk TI _ (.inl (.tail _ (.head _))) a2,⟨a,b,hk TO _ (.inl (.tail _ (.tail _ (.head _)))) a3⟩,
   D1.frame _ _ _ a4 ht λb o hb q=>hk b o (hb.imp (λ(e:b=i1)=>e▸ .tail _ (.tail _ (.tail _ (.head _)))) id) q,
   D2.frame _ _ _ a5 ht λb o hb q=>hk b o (hb.imp (λ(e:b=i2)=>e▸ .tail _ (.tail _ (.tail _ (.tail _ (.head _))))) id) q⟩
 step:=λi s d tg Q E E' hd st htk hok hQ=>by
  refine o04 st λhz hTI q3 h1 h2=>o20 q3 λa b hTO=>o22 (Jcb hd) λx y hx hy q4=>?_;clear st q3 hd;subst q4
  have hzl:z<s.heap.objs.size:=Heap.lt_size hz
  have hT:s.TypeIs (.ref z) "zip":=⟨_,hz,rfl⟩
  cases tg with
  |Tuple elts k1 pos=>
   unfold pyNext
   refine wpAny_bind (wpAny_attempt (wpAny_callSpecial?_slot (name:=Str.ofString "__next__") hT F.slot_zip_next
    (wpAny_call_entry F.slot_zip_next hT F.entry_zip_next
     (Jcd P D1 D2 hz hTI hTO h1 h2 hx hy htk zm TIm TOm λu v h' tk ht₁ ho hTO' st1 st2 hTu ru rv hk=>wpAny_pure ⟨_,rfl,?_⟩) (F.args_zip_next_1 _))))
   refine wpAny_letOwnedTupleGo_zip ho λh₂ hz₂ hs₂=>?_
   have kw:Kw [z,TI,TO,i1,i2] s {s with heap:=h₂,toks:=tk}:=⟨⟨_,_,rfl⟩,ht₁,λb o n q=>o04 (JgT n) λn1 _ n3 n4 n5=>hs₂.extBut b o n1 (hk b o n1 n3 n4 n5 q)⟩
   have p2:Past {s with heap:=h',toks:=tk} ms {s with heap:=h₂,toks:=tk} ms:=⟨Nat.le_refl _,λb o q n=>⟨hs₂.extBut b o (λe=>n (e▸zm)) q,n⟩⟩
   refine hQ _ _ kw ⟨hz₂,hs₂.extBut _ _ P.TIz (hk _ _ P.TIz P.TITO P.TIi1 P.TIi2 hTI),⟨_,_,hs₂.extBut _ _ P.TOz hTO'⟩,?_,?_⟩
    (.inr ⟨rfl,s.heap.objs.size,#[u,v],_,rfl,⟨_,hs₂.extBut _ _ (Nat.ne_of_gt hzl) hTu,rfl,_,rfl⟩,rfl,J0S (ru.past p2) (rv.past p2)⟩)
   ·exact D1.frame _ _ _ st1 (Nat.le_refl _) λb o hb q=>hs₂.extBut b o (hb.elim (λe=>e▸P.i1z) λhb e=>hb (e▸zm)) q
   ·exact D2.frame _ _ _ st2 (Nat.le_refl _) λb o hb q=>hs₂.extBut b o (hb.elim (λe=>e▸P.i2z) λhb e=>hb (e▸zm)) q
  |_=>exact Bool.noConfusion hok
 done:=λs Q E st hQ=>by
  refine o04 st λhz hTI q5 h1 h2=>o20 q5 λa b hTO=>?_;clear st q5
  rw[J4E hl]at h1
  have hT:s.TypeIs (.ref z) "zip":=⟨_,hz,rfl⟩
  unfold pyNext
  refine wpAny_bind (wpAny_attempt (wpAny_callSpecial?_slot (name:=Str.ofString "__next__") hT F.slot_zip_next
   (wpAny_call_entry F.slot_zip_next hT F.entry_zip_next (Jes P D1 hz hTI hTO h1 zm λh' e hk he=>?_) (F.args_zip_next_1 _))))
  refine o11 he λo ho hc=>?_;clear he
  refine wpAny_bind (wpAny_isInstance (T:="StopIteration") (b:=true) ⟨o,ho,hc⟩ isSubtype_stop ?_)
  exact wpAny_pure (hQ _ ⟨⟨_,s.toks,rfl⟩,Nat.le_refl _,λb o n q=>hk b o (JgT n).1 (JgT n).2.2.2.1 q⟩)
 self:=λi s Q E st hQ=>wpAny_pyIter_zip st.1 hQ
theorem J9M {z TI TO i1 i2:Addr} {xs ys:List D} {St1 St2:List Addr ->Nat ->Shared ->Prop} (P:ZAp z TI TO i1 i2) (D1:DrM w A.in1 i1 xs St1) (D2:DrM w A.in1 i2 ys St2) (hl:xs.length=ys.length):
  WkM w A z [z,TI,TO,i1,i2] true (zipD xs ys) (λM i s=>(z∈M/\ TI∈M/\ TO∈M)/\ IsZip s.heap z TI TO .none/\ IsPair s.heap TI (.ref i1) (.ref i2)/\ (∃a b,IsPair s.heap TO a b)/\ St1 M i s/\ St2 M i s) where
 at':=λM i s st=>by
  have x:=JfZ P (D1.at' M i s st.2.2.2.2.1) (D2.at' M i s st.2.2.2.2.2) hl st.1.1 st.1.2.1 st.1.2.2
  have e:(λi s=>(z∈M/\ TI∈M/\ TO∈M)/\ IsZip s.heap z TI TO .none/\ IsPair s.heap TI (.ref i1) (.ref i2)/\ (∃a b,IsPair s.heap TO a b)/\ St1 M i s/\ St2 M i s)=(λi s=>IsZip s.heap z TI TO .none/\ IsPair s.heap TI (.ref i1) (.ref i2)/\ (∃a b,IsPair s.heap TO a b)/\ St1 M i s/\ St2 M i s):=by
   funext i s
   exact propext ⟨λx=>x.2,λx=>⟨st.1,x⟩⟩
  rw[e];exact x
 mv:=λM M' i s s' st g=>o04 st λ_ a1 a2 q1 q2=>o20 q1 λa b a3=>
  ⟨⟨g.sub z (.head _),g.sub TI (.tail _ (.head _)),g.sub TO (.tail _ (.tail _ (.head _)))⟩,g.wr z (.head _) _ a1,g.wr TI (.tail _ (.head _)) _ a2,⟨a,b,g.wr TO (.tail _ (.tail _ (.head _))) _ a3⟩,D1.mv _ _ _ _ _ _ (.tail _ (.tail _ (.tail _ (.head _)))) q2.1 g,D2.mv _ _ _ _ _ _ (.tail _ (.tail _ (.tail _ (.tail _ (.head _))))) q2.2 g⟩
end
noncomputable abbrev zS1 (h:Heap) (x:Str) (t:Tok):Heap:=h.push {cls:= .type (strIterType x),data:= .fields #[.str x t,.int 0 0]}
noncomputable abbrev zS2 (h:Heap) (x:Str) (t:Tok) (l2:Addr):Heap:=(zS1 h x t).push {cls:= .type "list_iterator",data:= .fields #[.ref l2,.int 0 0]}
noncomputable abbrev zS3 (h:Heap) (x:Str) (t:Tok) (l2:Addr):Heap:=(zS2 h x t l2).push {cls:= .type "tuple",data:= .seq #[.ref h.objs.size,.ref (zS1 h x t).objs.size]}
noncomputable abbrev zS4 (h:Heap) (x:Str) (t:Tok) (l2:Addr):Heap:=(zS3 h x t l2).push {cls:= .type "tuple",data:= .seq #[.none,.none]}
noncomputable abbrev zS5 (h:Heap) (x:Str) (t:Tok) (l2:Addr):Heap:=(zS4 h x t l2).push {cls:= .type "zip",data:= .fields #[.none,.bool false,.bool false,.ref (zS2 h x t l2).objs.size,.ref (zS3 h x t l2).objs.size]}
set_option maxHeartbeats 2000000 in
theorem KB (x:Str) (t:Tok) (l2:Addr) (ys:Array Value):
  Meets (Builtin.«zip.__new__» ⟨[.type "zip",.str x t,.ref l2],[]⟩) (λ_ R s=>s.heap.IsList l2 ys/\
   R (.ok (.ret (.ref (zS4 s.heap x t l2).objs.size))) {s with heap:=zS5 s.heap x t l2}):=
 .of_wp λprog w A R s h=>by
  obtain⟨hp,g,d,tk,os⟩:=s;obtain⟨hl2,h⟩:=h
  have hsub:=sub_zip
  have hL2:Heap.IsList (Shared.heap ⟨hp.push {cls:= .type (strIterType x),data:= .fields #[.str x t,.int 0 0]},g,d,tk,os⟩) l2 ys:=Heap.IsList.push hl2 _
  wp_walk using wpAny_pyIter_strU,wpAny_pyIter_list hL2
  exact⟨_,rfl,h⟩
section
variable {w:World} {A:Around} {E:Value ->Shared ->Prop} {s:Shared} {ms:List Addr}
theorem J5P {x:Str} {t:Tok} {l2:Addr} {ys:Array Value} {Q:Value ->Shared ->Prop} (hl2:s.heap.IsList l2 ys)
  (h: ∀h',IsZip h' (s.heap.objs.size+4) (s.heap.objs.size+2) (s.heap.objs.size+3) .none ->IsPair h' (s.heap.objs.size+2) (.ref s.heap.objs.size) (.ref (s.heap.objs.size+1)) ->
   IsPair h' (s.heap.objs.size+3) .none .none ->h'.IsStrIter s.heap.objs.size (strIterType x) x t 0 ->h'.IsListIter (s.heap.objs.size+1) l2 0 ->
   (∀c o,s.heap.get? c=some o ->h'.get? c=some o) ->Q (.ref (s.heap.objs.size+4)) {s with heap:=h'}):
  wpAny (model pw w) A (call (.type "zip") [.str x t,.ref l2]) Q E s:=by
 refine callType_new F.called_zip (by decide) (F.typeCall_zip_2 _ _) (F.newCall_zip_2 _ _) (λobj=>F.args_object_init_3 obj _ _) F.entry_zip_new
  (KB x t l2 ys) ⟨hl2,?_⟩
 have z1:(zS1 s.heap x t).objs.size=s.heap.objs.size+1:=Heap.size_push ..
 have z2:(zS2 s.heap x t l2).objs.size=s.heap.objs.size+2:=by rw[Heap.size_push,z1]
 have z3:(zS3 s.heap x t l2).objs.size=s.heap.objs.size+3:=by rw[Heap.size_push,z2]
 have z4:(zS4 s.heap x t l2).objs.size=s.heap.objs.size+4:=by rw[Heap.size_push,z3]
 have g5:(zS5 s.heap x t l2).get? (zS4 s.heap x t l2).objs.size=some _:=Heap.get?_push_size _ rfl
 have g4:(zS5 s.heap x t l2).get? (zS3 s.heap x t l2).objs.size=some _:=Heap.get?_push_of_some _ (Heap.get?_push_size _ rfl)
 have g3:(zS5 s.heap x t l2).get? (zS2 s.heap x t l2).objs.size=some _:=Heap.get?_push_of_some _ (Heap.get?_push_of_some _ (Heap.get?_push_size _ rfl))
 have g2:(zS5 s.heap x t l2).get? (zS1 s.heap x t).objs.size=some _:=Heap.get?_push_of_some _ (Heap.get?_push_of_some _ (Heap.get?_push_of_some _ (Heap.get?_push_size _ rfl)))
 have g1:(zS5 s.heap x t l2).get? s.heap.objs.size=some _:=Heap.get?_push_of_some _ (Heap.get?_push_of_some _ (Heap.get?_push_of_some _ (Heap.get?_push_of_some _ (Heap.get?_push_size _ rfl))))
 show _/\ _
 rw[z2,z3,z4]at g5
 rw[z1,z2]at g3
 rw[z3]at g4
 rw[z1]at g2
 rw[z4]
 exact⟨⟨_,g5,rfl⟩,h _ g5 g3 g4 ⟨_,g1,rfl,rfl⟩ ⟨_,g2,rfl,rfl⟩ λc o x=>
  Heap.get?_push_of_some _ (Heap.get?_push_of_some _ (Heap.get?_push_of_some _ (Heap.get?_push_of_some _ (Heap.get?_push_of_some _ x))))⟩
theorem J9Q (n:Addr):ZAp (n+4) (n+2) (n+3) n (n+1):=by
 constructor<;>(intro h;have h:(_:Nat)=_:=h;lia)
noncomputable abbrev JeC (n:Addr):List Addr:=[n+4,n+2,n+3,n,n+1]
theorem ZG {n b:Addr} (h:b∈JeC n):n<=b:=by
 simp only[List.mem_cons,List.not_mem_nil,or_false]at h
 rcases h with rfl|rfl|rfl|rfl|rfl
 ·exact Nat.le_add_right _ 4
 ·exact Nat.le_add_right _ 2
 ·exact Nat.le_add_right _ 3
 ·exact Nat.le_refl _
 ·exact Nat.le_add_right _ 1
theorem J3r {s:Shared} {b:Addr} (h:b∈JeC s.heap.objs.size):Above s b:=Jz (ZG h)
theorem J0p (hh:A.handled=none) {a b:Addr} {vs us:List Value} {xs ys:List D} (ha:LsAt s.heap a vs) (hna:a∉ms) (la:RepL w s ms vs xs) (hb:LsAt s.heap b us) (hnb:b∉ms) (lb:RepL w s ms us ys)
  (hl:xs.length=ys.length) {Q:Value ->Shared ->Prop} (hQ: ∀it s',Begun w A ms s s' it true (zipD xs ys) ->Q it s'):
  wpAny (model pw w) A (call (.type "zip") [.ref a,.ref b]) (λv s₁=>wpAny (model pw w) A (pyIter v) Q E s₁) E s:=by
 have hlt:a<s.heap.objs.size:=o10 ha λ_ e=>Heap.lt_size e
 have hlt':b<s.heap.objs.size:=o10 hb λ_ e=>Heap.lt_size e
 have nin: ∀{c:Addr},c<s.heap.objs.size ->c∉ms ->c∉JeC s.heap.objs.size++ms:=λh1 h2 m=>by
  rcases List.mem_append.mp m with m|m
  ·exact absurd h1 (Nat.not_lt.mpr (ZG m))
  ·exact h2 m
 refine call_zip_2 ha.isList hb.isList λh' hz hTI hTO h1 h2 _ hk=>wpAny_pyIter_zip hz (hQ _ _ ⟨s.heap.objs.size+4,JeC s.heap.objs.size,_,rfl,⟨Keeps.mk' hk,Nat.le_refl _⟩,λc hc=>⟨J3r hc,?_⟩,
  J9M (J9Q s.heap.objs.size) (DrM.list (w:=w) (A:=A.in1) (it:=s.heap.objs.size) (l:=a) (vs:=vs) (ds:=xs) hh la.length)
   (DrM.list (w:=w) (A:=A.in1) (it:=s.heap.objs.size+1) (l:=b) (vs:=us) (ds:=ys) hh lb.length) hl,
  ⟨by simp,by simp,by simp⟩,hz,hTI,⟨_,_,hTO⟩,⟨⟨by simp,nin hlt hna⟩,h1,ha.isList.at λo e=>hk a o e,la.past (Ze hk λb m=>ZG m)⟩,⟨by simp,nin hlt' hnb⟩,h2,hb.isList.at λo e=>hk b o e,lb.past (Ze hk λb m=>ZG m)⟩)
 simp only[List.mem_cons,List.not_mem_nil,or_false]at hc
 rcases hc with rfl|rfl|rfl|rfl|rfl
 ·exact⟨_,hz⟩
 ·exact⟨_,hTI⟩
 ·exact⟨_,hTO⟩
 ·exact o11 h1 λo e _=>⟨o,e⟩
 ·exact o11 h2 λo e _=>⟨o,e⟩
theorem J17 (hh:A.handled=none) {x:Str} {t:Tok} {b:Addr} {us:List Value} {ys:List D} (hb:LsAt s.heap b us) (hnb:b∉ms) (lb:RepL w s ms us ys)
  (hl:(chars x).length=ys.length) {Q:Value ->Shared ->Prop} (hQ: ∀it s',Begun w A ms s s' it true (zipD (chars x) ys) ->Q it s'):
  wpAny (model pw w) A (call (.type "zip") [.str x t,.ref b]) (λv s₁=>wpAny (model pw w) A (pyIter v) Q E s₁) E s:=by
 have hlt':b<s.heap.objs.size:=o10 hb λ_ e=>Heap.lt_size e
 have nin: ∀{c:Addr},c<s.heap.objs.size ->c∉ms ->c∉JeC s.heap.objs.size++ms:=λh1 h2 m=>by
  rcases List.mem_append.mp m with m|m
  ·exact absurd h1 (Nat.not_lt.mpr (ZG m))
  ·exact h2 m
 refine J5P hb.isList λh' hz hTI hTO h1 h2 hk=>wpAny_pyIter_zip hz (hQ _ _ ⟨s.heap.objs.size+4,JeC s.heap.objs.size,_,rfl,⟨Keeps.mk' hk,Nat.le_refl _⟩,λc hc=>⟨J3r hc,?_⟩,
  J9M (J9Q s.heap.objs.size) (DrM.str (w:=w) (A:=A.in1) (it:=s.heap.objs.size) (x:=x) (t:=t) hh)
   (DrM.list (w:=w) (A:=A.in1) (it:=s.heap.objs.size+1) (l:=b) (vs:=us) (ds:=ys) hh lb.length) hl,
  ⟨by simp,by simp,by simp⟩,hz,hTI,⟨_,_,hTO⟩,⟨by simp,h1⟩,⟨by simp,nin hlt' hnb⟩,h2,hb.isList.at λo e=>hk b o e,lb.past (Ze hk λb m=>ZG m)⟩)
 simp only[List.mem_cons,List.not_mem_nil,or_false]at hc
 rcases hc with rfl|rfl|rfl|rfl|rfl
 ·exact⟨_,hz⟩
 ·exact⟨_,hTI⟩
 ·exact⟨_,hTO⟩
 ·exact o11 h1 λo e _=>⟨o,e⟩
 ·exact o11 h2 λo e _=>⟨o,e⟩
end
theorem Jv {α:Type} (y z:Str) (v:α) (r:List (Str×α)):((z,v)::r).lookup y=if y=z then some v else r.lookup y:=by
 rw[List.lookup_cons]
 by_cases h:y=z
 ·rw[if_pos h,beq_iff_eq.mpr h]
 ·rw[if_neg h,beq_eq_false_iff_ne.mpr h]
theorem JF (x:Str) (u:Slot) (y:Str) (ρ:Rho):(setR x u ρ).lookup y=if y=x then some u else ρ.lookup y:=by
 induction ρ with
 |nil=>exact Jv y x u []
 |cons zv r ih=>
  show(if zv.1==x then(x,u)::r else zv::setR x u r).lookup y=_
  by_cases hz:zv.1=x
  ·rw[if_pos (beq_iff_eq.mpr hz),Jv,Jv,hz]
   by_cases h:y=x
   ·rw[if_pos h,if_pos h]
   ·rw[if_neg h,if_neg h,if_neg h]
  ·rw[if_neg λh=>hz (eq_of_beq h),Jv,Jv,ih]
   by_cases h:y=zv.1
   ·rw[if_pos h,if_pos h,if_neg λe=>hz (h.symm.trans e)]
   ·rw[if_neg h,if_neg h]
noncomputable def Fa (own:Str ->Option Addr) (env:Env) (b:Addr):Prop:=b=env.locals∨(∃x,env.cells.lookup x=some b)∨ ∃x,own x=some b
structure FrOk (w:World) (s:Shared) (ms mine:List Addr) (own:Str ->Option Addr) (sc:Scope) (env:Env) (ρ:Rho):Prop where
 en:EnvOk w s ms own sc env ρ
 sub: ∀b∈mine,b∈ms
 locNs: ∃m,s.heap.Ns env.locals m
 locMine:env.locals∈mine
 cellMine: ∀x c,sc.names.lookup x=some .cell ->env.cells.lookup x=some c ->c∈mine/\ ∃v,s.heap.IsCell c v
 cellLoc: ∀x c,env.cells.lookup x=some c ->c≠env.locals
 cellInj: ∀x y c,sc.names.lookup x=some .cell ->env.cells.lookup x=some c ->env.cells.lookup y=some c ->x=y
 ownMine: ∀x a,own x=some a ->a∈mine/\ a≠env.locals/\ (∀y,env.cells.lookup y≠some a)/\ ∃o,s.heap.get? a=some o
 ownInj: ∀x y a,own x=some a ->own y=some a ->x=y
section
variable {w:World} {mg mb:Str ->Option Value} {A:Around} {E:Value ->Shared ->Prop} {s s':Shared} {ms ms' mine:List Addr} {own:Str ->Option Addr} {sc:Scope} {env:Env} {ρ:Rho}
theorem At.move {h h':Heap} {x:Str} {v:Value} (a:At h env x v) (hk: ∀b,(b=env.locals∨ ∃x,env.cells.lookup x=some b) -> ∀o,h.get? b=some o ->h'.get? b=some o):At h' env x v:=by
 rcases a with⟨k,m,e1,e2⟩|⟨k,c,e1,o,e2,e3⟩
 ·exact .inl ⟨k,m,e1.at' (λo e=>hk _ (.inl rfl) o e),e2⟩
 ·exact .inr ⟨k,c,e1,o,hk c (.inr ⟨x,e1⟩) o e2,e3⟩
theorem SlotRep.move {x:Str} {v:Value} {u:Slot} (y:SlotRep w s ms own x v u) (p:Past s ms s' ms') (hk: ∀a,own x=some a -> ∀o,s.heap.get? a=some o ->s'.heap.get? a=some o):SlotRep w s' ms' own x v u:=by
 cases u with
 |val d=>exact Rep.past p y
 |mls l=>
  refine o23 y λa vs e1 e2 q1 e4=>?_;clear y;obtain⟨n,e3⟩:=q1
  exact⟨a,vs,e1,e2,⟨n,hk a e1 _ e3⟩,e4.past p⟩
 |mdc l=>
  refine o23 y λa kvs e1 e2 q2 e4=>?_;clear y;obtain⟨⟨o,es,ep,ho,r⟩,q⟩:=q2
  exact⟨a,kvs,e1,e2,⟨⟨o,es,ep,hk a e1 _ ho,r⟩,q⟩,e4.past p⟩
theorem FrOk.move (F:FrOk w s ms mine own sc env ρ) (p:Past s ms s' ms') (hs: ∀b∈mine,b∈ms') (hk: ∀b,Fa own env b -> ∀o,s.heap.get? b=some o ->s'.heap.get? b=some o):FrOk w s' ms' mine own sc env ρ where
 en:=⟨F.en.fit,λx u e hv=>o11 (F.en.var x u e hv) λv e1 e2=>⟨v,e1.move λb hb o q=>hk b (hb.elim .inl (λh=> .inr (.inl h))) o q,e2.move p λa ha o q=>hk a (.inr (.inr ⟨x,ha⟩)) o q⟩⟩
 sub:=hs
 locNs:=o10 F.locNs λm e=>⟨m,e.at' λo q=>hk _ (.inl rfl) o q⟩
 locMine:=F.locMine
 cellMine:=λx c h e=>let⟨a,v,o,ho,hd⟩:=F.cellMine x c h e;⟨a,v,o,hk c (.inr (.inl ⟨x,e⟩)) o ho,hd⟩
 cellLoc:=F.cellLoc
 cellInj:=F.cellInj
 ownMine:=λx a h=>let⟨p,q,r,o,ho⟩:=F.ownMine x a h;⟨p,q,r,o,hk a (.inr (.inr ⟨x,h⟩)) o ho⟩
 ownInj:=F.ownInj
theorem FrOk.kp (F:FrOk w s ms mine own sc env ρ) (k:Kp s s'):FrOk w s' ms mine own sc env ρ:=F.move k.past F.sub λb _ o e=>k.hp b o e
theorem FrOk.kw {wr:List Addr} (F:FrOk w s ms mine own sc env ρ) (k:Kw wr s s') (hs: ∀b∈wr,b∈ms) (hf: ∀b∈wr,¬Fa own env b):FrOk w s' ms mine own sc env ρ:=
 F.move (k.past hs) F.sub λb hb o e=>k.h b o (λm=>hf b m hb) e
structure Mv (s:Shared) (ms mine:List Addr) (s':Shared) (ms' mine':List Addr):Prop where
 same: ∃h' tk,s'={s with heap:=h',toks:=tk}
 t:s.toks<=s'.toks
 keep: ∀b o,s.heap.get? b=some o ->b∉mine ->s'.heap.get? b=some o
 alive: ∀b o,s.heap.get? b=some o -> ∃o',s'.heap.get? b=some o'
 out: ∀b o,s.heap.get? b=some o ->b∉ms ->b∉ms'
 nots: ∀b o,s.heap.get? b=some o ->b∉mine ->b∉mine'
 still: ∀b∈ms,b∉mine ->b∈ms'
theorem Mv.rfl' (s:Shared) (ms mine:List Addr):Mv s ms mine s ms mine:=⟨⟨_,_,rfl⟩,Nat.le_refl _,λ_ _ e _=>e,λ_ o e=>⟨o,e⟩,λ_ _ _ n=>n,λ_ _ _ n=>n,λ_ h _=>h⟩
theorem Mv.kp (k:Kp s s') (ms mine:List Addr):Mv s ms mine s' ms mine:=by
 obtain⟨⟨h',tk,rfl,hk⟩,t⟩:=k
 exact⟨⟨_,_,rfl⟩,t,λb o e _=>hk b o e,λb o e=>⟨o,hk b o e⟩,λ_ _ _ n=>n,λ_ _ _ n=>n,λ_ h _=>h⟩
theorem Mv.tr {s'':Shared} {ms'' mine' mine'':List Addr} (x:Mv s ms mine s' ms' mine') (y:Mv s' ms' mine' s'' ms'' mine'') (live: ∀b∈ms,∃o,s.heap.get? b=some o):Mv s ms mine s'' ms'' mine'':=by
 obtain⟨⟨h1,t1,rfl⟩,a1,a2,a3,a4,a5,a6⟩:=x
 obtain⟨⟨h2,t2,rfl⟩,b1,b2,b3,b4,b5,b6⟩:=y
 refine⟨⟨_,_,rfl⟩,Nat.le_trans a1 b1,λb o e n=>b2 b o (a2 b o e n) (a5 b o e n),λb o e=>?_,λb o e n=>?_,λb o e n=>?_,λb hb n=>?_⟩
 ·obtain⟨o',e'⟩:=a3 b o e
  exact b3 b o' e'
 ·obtain⟨o',e'⟩:=a3 b o e
  exact b4 b o' e' (a4 b o e n)
 ·obtain⟨o',e'⟩:=a3 b o e
  exact b5 b o' e' (a5 b o e n)
 ·obtain⟨o,e⟩:=live b hb
  exact b6 b (a6 b hb n) (a5 b o e n)
theorem Mv.past {mine':List Addr} (x:Mv s ms mine s' ms' mine') (hs: ∀b∈mine,b∈ms):Past s ms s' ms':=⟨x.t,λb o e n=>⟨x.keep b o e (λm=>n (hs b m)),x.out b o e n⟩⟩
theorem Cx.mv {mine':List Addr} (C:Cx w mg mb s ms) (x:Mv s ms mine s' ms' mine') (hs: ∀b∈mine,b∈ms) (hn: ∀b∈ms',b∈ms∨N0<=b) (hl: ∀b∈ms',∃o,s'.heap.get? b=some o):Cx w mg mb s' ms':=by
 refine⟨?_,hl,λb hb=>(hn b hb).elim (C.hi b) id,Nat.le_trans C.tk x.t,?_⟩
 ·refine o12 C.top λhT G lt k=>?_
  exact⟨hT,G,lt,λb o e=>x.keep b o (k b o e) (λm=>absurd (lt b o e) (Nat.not_lt.mpr (C.hi b (hs b m))))⟩
 ·refine o10 C.last λo e=>?_
  exact x.alive _ o e|>.elim λo' e'=>⟨o',e'⟩
theorem Cx.mvSame {mine':List Addr} (C:Cx w mg mb s ms) (x:Mv s ms mine s' ms mine') (hs: ∀b∈mine,b∈ms):Cx w mg mb s' ms:=
 C.mv x hs (λ_ h=> .inl h) λb hb=>o10 (C.live b hb) λo e=>x.alive b o e
noncomputable def bound (sc:Scope) (x:Str):Prop:=sc.names.lookup x=some .local∨sc.names.lookup x=some .cell
theorem J8E (K:ScOk sc env):(env.scope.kind== .class||(env.scope.kind== .module&&env.locals !=env.globals))=false:=by rw[K.kind];rfl
theorem J8I {h:Heap} {a:Addr} {m m':Str ->Option Value} (x:h.Ns a m) (y:h.Ns a m'):m=m':=by
 refine o33 x λo es ep e1 e2 _ e3=>?_;clear x
 refine o33 y λo' es' ep' e1' e2' _ e3'=>?_;clear y
 rw[e1]at e1'
 cases e1'
 rw[e2]at e2'
 injection e2' with q1 q2
 subst q1
 funext n
 rw[<-e3 n,e3' n]
theorem Yo (F:FrOk w s ms mine own sc env ρ) {x:Str} {v:Value} {u:Slot} (hx:bound sc x) (hu:SlotRep w s ms own x v u) {Q:Unit ->Shared ->Prop}
  (hQ: ∀s',Mv s ms mine s' ms mine ->FrOk w s' ms mine own sc env (setR x u ρ) ->(∀z a o,own z=some a ->s.heap.get? a=some o ->s'.heap.get? a=some o) ->Q () s'):wpAny (model pw w) A (storeName env x v) Q E s:=by
 have fin: ∀(a:Addr) (h':Heap) (tk:Nat),s.toks<=tk ->a∈mine ->(∀z,own z≠some a) ->Heap.SameBut a s.heap h' ->(∃o,h'.get? a=some o) ->
   (∃m,h'.Ns env.locals m) ->(∀y c,sc.names.lookup y=some .cell ->env.cells.lookup y=some c -> ∃v,h'.IsCell c v) ->At h' env x v ->
   (∀y v',y≠x ->At s.heap env y v' ->At h' env y v') ->Q () {s with heap:=h',toks:=tk}:=by
  intro a h' tk ht ha hown hs hal hns hcell hat hothers
  have p:Past s ms {s with heap:=h',toks:=tk} ms:=⟨ht,λb o e n=>⟨hs.extBut b o (λq=>n (q▸F.sub a ha)) e,n⟩⟩
  have al: ∀b o,s.heap.get? b=some o -> ∃o',h'.get? b=some o':=λb o e=>by
   by_cases q:b=a
   ·clear ha hown hs;subst q;exact hal
   ·exact⟨o,hs.extBut b o q e⟩
  refine hQ _ ⟨⟨_,_,rfl⟩,ht,λb o e n=>hs.extBut b o (λq=>n (q▸ha)) e,al,λ_ _ _ n=>n,λ_ _ _ n=>n,λ_ h _=>h⟩ ?_ (λz b o hz e=>hs.extBut b o (λq=>hown z (q▸hz)) e)
  refine⟨⟨F.en.fit,λy u' e hv=>?_⟩,F.sub,hns,F.locMine,λy c h e=>?_,F.cellLoc,F.cellInj,λy b h=>?_,F.ownInj⟩
  ·rw[JF]at e
   by_cases hyx:y=x
   ·clear hx hQ hothers;subst hyx
    rw[if_pos rfl]at e
    cases e
    exact⟨v,hat,hu.move p λb hb o q=>hs.extBut b o (λz=>hown y (z▸hb)) q⟩
   ·rw[if_neg hyx]at e
    refine o11 (F.en.var y u' e hv) λv' e1 e2=>?_
    exact⟨v',hothers y v' hyx e1,e2.move p λb hb o q=>hs.extBut b o (λz=>hown y (z▸hb)) q⟩
  ·refine o01 (F.cellMine y c h e) λp1 _=>?_
   exact⟨p1,hcell y c h e⟩
  ·refine o03 (F.ownMine y b h) λp1 p2 p3 q1=>?_;refine o10 q1 λo ho=>?_
   exact⟨p1,p2,p3,o,hs.extBut b o (λz=>hown y (z▸h)) ho⟩
 rcases hx with hx|hx
 ·have hk:=F.en.fit.loc x hx
  refine o10 F.locNs λm hn=>?_
  refine wpAny_storeName_local hk hn (λh' hn' hs'=>?_) (J8E F.en.fit)
  refine fin env.locals h' (s.toks+1) (Nat.le_succ _) F.locMine (λz q=>(F.ownMine z _ q).2.1 rfl) hs' (o31 hn' λo _ _ e _=>⟨o,e⟩) ⟨_,hn'⟩ (λy c h e=>?_) (.inl ⟨hk,_,hn',by simp⟩) (λy v' hyx a=>?_)
  ·refine o01 (F.cellMine y c h e) λ_ q2=>?_;refine o10 q2 λv hc=>?_
   exact⟨v,hc.sameBut hs' (F.cellLoc y c e)⟩
  ·rcases a with⟨k,m',e1,e2⟩|⟨k,c,e1,e2⟩
   ·refine .inl ⟨k,_,hn',?_⟩
    rw[if_neg hyx,J8I hn e1];exact e2
   ·exact .inr ⟨k,c,e1,e2.sameBut hs' (F.cellLoc y c e1)⟩
 ·have hk:=F.en.fit.cel x hx
  refine o10 (F.en.fit.cells x (.inl hx)) λc0 hc0=>?_
  refine o01 (F.cellMine x c0 hx hc0) λhm q3=>?_;refine o10 q3 λv0 hv0=>?_
  refine o10 F.locNs λm hn=>?_
  refine wpAny_storeName_cell F.en.fit.kind hk hc0 hv0 λh' hc' hs'=>?_
  refine fin c0 h' s.toks (Nat.le_refl _) hm (λz q=>(F.ownMine z _ q).2.2.1 x hc0) hs' (o11 hc' λo e _=>⟨o,e⟩) ⟨_,hn.sameBut hs' (Ne.symm (F.cellLoc x c0 hc0))⟩ (λy c h e=>?_) (.inr ⟨.inl hk,c0,hc0,hc'⟩) (λy v' hyx a=>?_)
  ·by_cases q:c=c0
   ·clear hc0 hm q3 hv0 hs';subst q;exact⟨_,hc'⟩
   ·refine o01 (F.cellMine y c h e) λ_ q4=>?_;refine o10 q4 λv hc=>?_
    exact⟨v,hc.sameBut hs' q⟩
  ·rcases a with⟨k,m',e1,e2⟩|⟨k,c,e1,e2⟩
   ·exact .inl ⟨k,_,e1.sameBut hs' (Ne.symm (F.cellLoc x c0 hc0)),e2⟩
   ·refine .inr ⟨k,c,e1,e2.sameBut hs' λq=>?_⟩
    clear hm q3 hv0 hc' hs';subst q
    exact hyx (F.cellInj x y c hx hc0 e1).symm
theorem VW (F:FrOk w s ms mine own sc env ρ) {x:Str} {v:Value} {u:Slot} (hx:bound sc x) (hu:SlotRep w s ms own x v u) {Q:Unit ->Shared ->Prop}
  (hQ: ∀s',Mv s ms mine s' ms mine ->FrOk w s' ms mine own sc env (setR x u ρ) ->Q () s'):wpAny (model pw w) A (storeName env x v) Q E s:=
 Yo F hx hu λs' m F' _=>hQ s' m F'
end
theorem J8 {sc:Scope} {x:Str} (h:Jp sc x=true):bound sc x:=by
 unfold Jp at h
 cases e:sc.names.lookup x with
 |none=>rw[e]at h;exact Bool.noConfusion h
 |some k=>
  rw[e]at h
  cases k with
  |«local»=>exact .inl e
  |cell=>exact .inr e
  |_=>exact Bool.noConfusion h
theorem ZK: ∀{n:Nat} {sc:Scope} {t:Expr} {d:D} {ρ ρ':Rho},bindT n sc t d ρ=some ρ' -> ∀e p,t≠ .Starred e p
 |0,_,_,_,_,_,h=>by cases h
 |n+1,_,t,d,_,_,h=>by
  rintro e p rfl
  cases h
theorem Y3 {t:Expr} {ts:List Expr} {env:Env} (h: ∀e p,t≠ .Starred e p):assignEach (t::ts) env=(false,assign t env)::assignEach ts env:=by
 cases t<;>first|rfl|exact absurd rfl (h _ _)
section
variable {w:World} {mg mb:Str ->Option Value} {A:Around} {E:Value ->Shared ->Prop} {ms mine:List Addr} {own:Str ->Option Addr} {sc:Scope} {env:Env}
theorem Vr {n:Nat} {ts:List Expr} {ds:List D} {ρ ρ':Rho} (h:bindTs n sc ts ds ρ=some ρ') (hl:ts.length=ds.length):(assignEach ts env).length=ts.length/\ (assignEach ts env).findIdx? (·.1)=none:=by
 induction n generalizing ts ds ρ with
 |zero=>exact nn h
 |succ n ih=>cases ts with
  |nil=>exact⟨rfl,rfl⟩
  |cons t ts=>cases ds with
   |nil=>exact Nat.noConfusion hl
   |cons d ds=>
    refine bnd h λρ1 h1 h2=>o01 (ih h2 (Nat.succ.inj hl)) λe1 e2=>?_
    rw[Y3 (ZK h1)]
    exact⟨congrArg (· +1) e1,by rw[List.findIdx?_cons,e2];rfl⟩
theorem Mv.live {s s':Shared} (x:Mv s ms mine s' ms mine) (hl: ∀m∈ms,∃o,s.heap.get? m=some o): ∀m∈ms,∃o,s'.heap.get? m=some o:=λm hm=>o10 (hl m hm) λo e=>x.alive m o e
theorem Vw {s:Shared} {h':Heap} (hx:Heap.ExtBut s.heap.objs.size s.heap h'):Kp s {s with heap:=h'}:=⟨Keeps.mk' λb o e=>hx b o (Nat.ne_of_lt (Heap.lt_size e)) e,Nat.le_refl _⟩
theorem Vm (n:Nat):(∀{t:Expr} {d:D} {v:Value} {s:Shared} {ρ ρ':Rho} {Q:Unit ->Shared ->Prop},bindT n sc t d ρ=some ρ' ->A.handled=none ->FrOk w s ms mine own sc env ρ ->(∀m∈ms,∃o,s.heap.get? m=some o) ->Rep w s ms v d ->
  (∀s',Mv s ms mine s' ms mine ->FrOk w s' ms mine own sc env ρ' ->Q () s') ->wpAny (model pw w) A (assign t env v) Q E s)/\
  ∀{ts:List Expr} {ds:List D} {vs:List Value} {s:Shared} {ρ ρ':Rho} {Q:Unit ->Shared ->Prop},bindTs n sc ts ds ρ=some ρ' ->A.handled=none ->FrOk w s ms mine own sc env ρ ->(∀m∈ms,∃o,s.heap.get? m=some o) ->RepL w s ms vs ds ->ts.length=ds.length ->
  (∀s',Mv s ms mine s' ms mine ->FrOk w s' ms mine own sc env ρ' ->Q () s') ->wpAny (model pw w) A (assignInOrder ((assignEach ts env).map (·.2)) vs) Q E s:=by
 induction n with
 |zero=>exact⟨λh=>nn h,λh=>nn h⟩
 |succ n ih=>
  refine⟨λ{t d v s ρ ρ' Q} h hh F hl r hQ=>?_,λ{ts ds vs s ρ ρ' Q} h hh F hl la hlen hQ=>?_⟩
  ·cases t with
   |Name x p=>exact J9 h λhb h=>wpAny_assign_Name (VW F (J8 hb) (u:= .val d) r (Option.some.inj h▸hQ))
   |Tuple ts k p=>cases d with
    |tup ds=>
     refine J9 h λhlen h=>r.tE λa vs ha _ la=>o01 (Vr (env:=env) h (eq_of_beq hlen)) λe1 e2=>wpAny_assign_Tuple hh ha.isTuple (by rw[e1,eq_of_beq hlen,List.size_toArray,la.length]) e2 λh' hx=>?_
     have k1:=Vw hx
     exact ih.2 h hh (F.kp k1) (λm hm=>o10 (hl m hm) λo e=>⟨o,k1.hp m o e⟩) (la.kp k1) (eq_of_beq hlen) λs' m F'=>hQ s' ((Mv.kp k1 ms mine).tr m hl) F'
    |_=>exact nn h
   |_=>exact nn h
  ·cases ts with
   |nil=>cases ds with
    |nil=>
     have e:vs=[]:=List.length_eq_zero_iff.mp la.length
     rw[e]
     exact wpAny_pure (hQ s (Mv.rfl' s ms mine) (Option.some.inj h▸F))
    |cons d ds=>exact Nat.noConfusion hlen
   |cons t ts=>cases ds with
    |nil=>exact Nat.noConfusion hlen
    |cons d ds=>cases vs with
     |nil=>exact la.inv.elim
     |cons v vs=>
      refine bnd h λρ1 h1 h2=>?_
      rw[Y3 (ZK h1)]
      exact wpAny_bind (wpAny_holding (ih.1 h1 hh F hl la.inv.1 λs1 m1 F1=>ih.2 h2 hh F1 (m1.live hl) (la.inv.2.past (m1.past F.sub)) (Nat.succ.inj hlen) λs' m F'=>hQ s' (m1.tr m hl) F'))
theorem Zj (n:Nat): ∀{t:Expr} {d:D} {v:Value} {s:Shared} {ρ ρ':Rho} {Q:Unit ->Shared ->Prop},bindT n sc t d ρ=some ρ' ->A.handled=none ->FrOk w s ms mine own sc env ρ ->(∀m∈ms,∃o,s.heap.get? m=some o) ->Rep w s ms v d ->
  (∀s',Mv s ms mine s' ms mine ->FrOk w s' ms mine own sc env ρ' ->Q () s') ->wpAny (model pw w) A (assign t env v) Q E s:=(Vm n).1
theorem J3x (n:Nat): ∀{ts:List Expr} {ds:List D} {vs:List Value} {s:Shared} {ρ ρ':Rho} {Q:Unit ->Shared ->Prop},bindTs n sc ts ds ρ=some ρ' ->A.handled=none ->FrOk w s ms mine own sc env ρ ->(∀m∈ms,∃o,s.heap.get? m=some o) ->RepL w s ms vs ds ->ts.length=ds.length ->
  (∀s',Mv s ms mine s' ms mine ->FrOk w s' ms mine own sc env ρ' ->Q () s') ->wpAny (model pw w) A (assignInOrder ((assignEach ts env).map (·.2)) vs) Q E s:=(Vm n).2
theorem Vn {n:Nat} {t:Expr} {d:D} {v:Value} {s:Shared} {ρ ρ':Rho} {Q:Unit ->Shared ->Prop} (h:bindT n sc t d ρ=some ρ') (hh:A.handled=none) (F:FrOk w s ms mine own sc env ρ) (hl: ∀m∈ms,∃o,s.heap.get? m=some o)
  {pairs:Bool} (r:ItemIs w s ms pairs v d) (ht:okT pairs t=true)
  (hQ: ∀s',Mv s ms mine s' ms mine ->FrOk w s' ms mine own sc env ρ' ->Q () s'):wpAny (model pw w) A (assign t env v) Q E s:=by
 rcases r with⟨_,r⟩|⟨rfl,T,vals,ds,rfl,hT,rfl,la⟩
 ·exact Zj n h hh F hl r hQ
 ·cases n with
  |zero=>exact nn h
  |succ n=>
   cases t with
   |Tuple ts k p=>
    refine J9 h λhlen h=>o01 (Vr (env:=env) h (eq_of_beq hlen)) λe1 e2=>wpAny_assign_Tuple hh hT (by rw[e1,eq_of_beq hlen,<-la.length,Array.length_toList]) e2 λh' hx=>?_
    have k1:=Vw hx
    exact J3x n h hh (F.kp k1) (λm hm=>o10 (hl m hm) λo e=>⟨o,k1.hp m o e⟩) (la.kp k1) (eq_of_beq hlen) λs' m F'=>hQ s' ((Mv.kp k1 ms mine).tr m hl) F'
   |_=>exact Bool.noConfusion ht
end
structure SoundE (L:Lv) (n:Nat):Prop where
 ev: ∀{sc:Scope} {ρ:Rho} {e:PySem.Expr} {d:D},L.ev sc ρ e=some d -> ∀{w:World} {mg mb:Str ->Option Value} {A:Around} {E:Value ->Shared ->Prop} {s:Shared} {ms:List Addr} {own:Str ->Option Addr} {env:Env} {Q:Value ->Shared ->Prop},
  AOk n A ->Cx w mg mb s ms ->EnvOk w s ms own sc env ρ ->(∀v s',Kp s s' ->Rep w s' ms v d ->Q v s') ->wpAny (model pw w) A (eval e env) Q E s
 star: ∀sc ρ e p,L.ev sc ρ (.Starred e p)=none
section
variable {L:Lv} {n:Nat} {w:World} {mg mb:Str ->Option Value} {A:Around} {E:Value ->Shared ->Prop} {s:Shared} {ms:List Addr} {own:Str ->Option Addr} {sc:Scope} {env:Env} {ρ:Rho}
theorem J3 {e:PySem.Expr} {es:List PySem.Expr} {pos:Pos} (h: ∀x p,e≠ .Starred x p):backTo pos (starEach (e::es) env)=(false,eval e env)::backTo pos (starEach es env):=by
 cases e<;>first|rfl|exact absurd rfl (h _ _)
theorem Je (S:SoundE L n) {e:PySem.Expr} {d:D} (h:L.ev sc ρ e=some d): ∀x p,e≠ .Starred x p:=by
 rintro x p rfl
 rw[S.star]at h;cases h
theorem JD (S:SoundE L n) {pos:Pos}: ∀{es:List PySem.Expr} {ds:List D} {s:Shared} {Q:List Value ->Shared ->Prop},evL L sc ρ es=some ds ->AOk n A ->Cx w mg mb s ms ->EnvOk w s ms own sc env ρ ->
  (∀vs s',Kp s s' ->RepL w s' ms vs ds ->Q vs s') ->wpAny (model pw w) A (spliced (backTo pos (starEach es env))) Q E s
 |[],_,s,Q,h,_,_,_,hQ=>by
  cases h
  exact Calls.spliced_nil (hQ [] s (Kp.rfl' s) .nil)
 |e::es,_,s,Q,h,hA,C,K,hQ=>by
  refine bnd h λd h1 h2=>?_
  refine bnd h2 λds h3 h4=>?_
  clear h h2;cases h4
  rw[J3 (Je S h1)]
  refine Calls.spliced_cons (S.ev h1 hA C K λv s1 k1 r1=>?_)
  exact JD S h3 hA (C.keeps k1) (K.keeps k1) λvs s2 k2 r2=>hQ _ s2 (k1.tr k2) (.cons (r1.kp k2) r2)
theorem Yj: ∀{es:List PySem.Expr} {ds:List D},evL L sc ρ es=some ds ->ds.length=es.length
 |[],_,h=>by cases h;rfl
 |e::es,_,h=>by
  refine bnd h λd h1 h2=>?_
  refine bnd h2 λds h3 h4=>?_
  clear h h2;cases h4
  rw[List.length_cons,List.length_cons,Yj h3]
theorem Ji (S:SoundE L n): ∀{es:List PySem.Expr} {ds:List D},evL L sc ρ es=some ds -> ∀pos,((backTo pos (starEach es env)).all λx=>!x.1)=true/\ (backTo pos (starEach es env)).any (·.1)=false
 |[],_,_=>λ_=>⟨rfl,rfl⟩
 |e::es,_,h=>λpos=>by
  refine bnd h λd h1 h2=>?_
  refine bnd h2 λds h3 h4=>?_
  refine o01 (Ji S h3 pos) λa b=>?_
  rw[J3 (Je S h1)]
  exact⟨by rw[List.all_cons,a];rfl,by rw[List.any_cons,b];rfl⟩
noncomputable def JfP:Slot ->D
 | .val d=>d
 | .mls l=> .lst l
 | .mdc l=> .dct l
theorem J9f {v:Value} {x:Str} {u:Slot} (r:SlotRep w s ms own x v u):BRep w s ms v (JfP u):=by
 cases u with
 |val d=>exact .val r
 |mls l=>exact o23 r λa vs _ e h1 h2=>e▸ .lst h1 h2
 |mdc l=>exact o23 r λa vs _ e h1 h2=>e▸ .dct h1 h2
theorem JA (S:SoundE L n) {e:PySem.Expr} {d:D} (h:J12 L sc ρ e=some d) (hA:AOk n A) (C:Cx w mg mb s ms) (K:EnvOk w s ms own sc env ρ) {Q:Value ->Shared ->Prop}
  (hQ: ∀v s',Kp s s' ->BRep w s' ms v d ->Q v s'):wpAny (model pw w) A (eval e env) Q E s:=by
 have gen: ∀e,L.ev sc ρ e=some d ->wpAny (model pw w) A (eval e env) Q E s:=λe h=>S.ev h hA C K λv s' k r=>hQ v s' k (.val r)
 cases e with
 |Name x p=>
  by_cases hv:Jg sc x=true
  ·replace h:(if Jg sc x=true then _ else _)=some d:=h
   rw[if_pos hv]at h
   cases hl:ρ.lookup x with
   |none=>rw[hl]at h;exact nn h
   |some u=>
    rw[hl]at h
    have e:JfP u=d:=by cases u<;>exact Option.some.inj h
    exact Vv K hl hv λv r=>hQ v s (Kp.rfl' s) (e▸J9f r)
  ·replace h:(if Jg sc x=true then _ else _)=some d:=h
   rw[if_neg hv]at h
   exact gen _ h
 |_=>exact gen _ h
theorem KN (S:SoundE L n) {l r:PySem.Expr} {op:CmpOp} {b:Bool} {pos:Pos} (h:cmpE L sc ρ l op r=some b) (hA:AOk n A) (C:Cx w mg mb s ms) (K:EnvOk w s ms own sc env ρ) {Q:Value ->Shared ->Prop}
  (hQ: ∀s',Kp s s' ->Q (.bool b) s'):wpAny (model pw w) A (eval l env) (λa s₁=>wpAny (model pw w) A (eval r env) (λb s₂=>wpAny (model pw w) A (compareOp op a b) Q E s₂) E s₁) E s/\ behindInMarks op r=false:=by
 refine J6g h λhm h=>⟨?_,by simpa using hm⟩
 have gen:((L.ev sc ρ l).bind λa=>(L.ev sc ρ r).bind λb=>Kj op a b)=some b ->wpAny (model pw w) A (eval l env) (λa s₁=>wpAny (model pw w) A (eval r env) (λb s₂=>wpAny (model pw w) A (compareOp op a b) Q E s₂) E s₁) E s:=λh=>bnd h λa h1 h2=>bnd h2 λc h3 h4=>S.ev h1 hA C K λva s1 k1 ra=>S.ev h3 hA (C.keeps k1) (K.keeps k1) λvb s2 k2 rb=>
  J5U h4 hA ((C.keeps k1).keeps k2) (ra.kp k2) rb λs3 k3=>hQ s3 ((k1.tr k2).tr k3)
 cases op with
 |In=>exact bnd h λa h1 h2=>bnd h2 λc h3 h4=>S.ev h1 hA C K λva s1 k1 ra=>JA S h3 hA (C.keeps k1) (K.keeps k1) λvb s2 k2 rb=>J89 h4 (ra.kp k2) rb λs3 k3=>hQ s3 ((k1.tr k2).tr k3)
 |_=>exact gen h
@[elab_as_elim] theorem Jhc {P:PySem.Expr ->Prop} {e:PySem.Expr} {b:Bool} (h:trE1 L sc ρ e=some b) (k1: ∀l op r p,cmpE L sc ρ l op r=some b ->P (.Compare l [op] [r] p))
  (k2: ∀e,(L.ev sc ρ e).bind truthy=some b ->(∀env,isTrue e env (eval e env)=(do let v<-eval e env;standAt e.pos;holding [v] (PySem.truthy v))) ->P e):P e:=by
 cases e with
 |Compare l ops rs p=>cases ops with
  |nil=>exact nn h
  |cons op ops=>cases ops with
   |cons=>exact nn h
   |nil=>cases rs with
    |nil=>exact nn h
    |cons r rs=>cases rs with
     |cons=>exact nn h
     |nil=>exact k1 l op r p h
 |UnaryOp=>exact nn h
 |BoolOp=>exact nn h
 |IfExp=>exact nn h
 |_=>exact k2 _ h λ_=>rfl
@[elab_as_elim] theorem Jj7 {P:PySem.Expr ->Prop} {e:PySem.Expr} {b:Bool} (h:trE L sc ρ e=some b) (k1: ∀x p t,trE1 L sc ρ x=some t ->(!t)=b ->P (.UnaryOp .Not x p))
  (k2: ∀x y p,((trE1 L sc ρ x).bind λt=>if t then trE1 L sc ρ y else some false)=some b ->P (.BoolOp .And [x,y] p)) (k3: ∀e,trE1 L sc ρ e=some b ->P e):P e:=by
 cases e with
 |UnaryOp op x p=>cases op with
  |Not=>exact mpd h (k1 x p)
  |_=>exact k3 _ h
 |BoolOp op es p=>cases op with
  |Or=>exact k3 _ h
  |And=>cases es with
   |nil=>exact k3 _ h
   |cons x es=>cases es with
    |nil=>exact k3 _ h
    |cons y es=>cases es with
     |nil=>exact k2 x y p h
     |cons=>exact k3 _ h
 |_=>exact k3 _ h
theorem Yp (S:SoundE L n) {e:PySem.Expr} {b:Bool} (h:trE1 L sc ρ e=some b) (hA:AOk n A) (C:Cx w mg mb s ms) (K:EnvOk w s ms own sc env ρ) {Q:Bool ->Shared ->Prop}
  (hQ: ∀s',Kp s s' ->Q b s'):wpAny (model pw w) A (isTrue e env (eval e env)) Q E s:=by
 refine Jhc h (λl op r p h=>?_) λe h he=>bnd h λd h1 h2=>wpAny_isTrue_value (S.ev h1 hA C K λv s1 k1 r1=>J3j h2 r1 (hQ s1 k1)) (he env)
 refine o01 (KN (E:=E) (pos:=default) (Q:=λc s'=>c= .bool b/\ Kp s s') S h hA C K λs' k=>⟨rfl,k⟩) λz hm=>?_
 rw[isTrue_Compare1,markedBehindIn_of_false hm]
 exact wpAny_bind (wpAny_mono z (λa s1 h1=>wpAny_bind (wpAny_holding (wpAny_mono h1 (λc s2 h2=>wpAny_bind (wpAny_standAt (wpAny_bind (wpAny_mono (wpAny_operate' h2) (λc s3 h3=>by
  rw[h3.1];exact wpAny_holding (wpAny_truthy_bool (hQ s3 h3.2))) λ_ _ x=>x)))) λ_ _ x=>x))) λ_ _ x=>x)
theorem Kd (S:SoundE L n) {e:PySem.Expr} {b:Bool} (h:trE L sc ρ e=some b) (hA:AOk n A) (C:Cx w mg mb s ms) (K:EnvOk w s ms own sc env ρ) {Q:Bool ->Shared ->Prop}
  (hQ: ∀s',Kp s s' ->Q b s'):wpAny (model pw w) A (isTrue e env (eval e env)) Q E s:=by
 refine Jj7 h (λx p t h1 q1=>?_) (λx y p h=>bnd h λt h1 h2=>?_) λe h=>Yp S h hA C K hQ
 ·show wpAny _ _ (do return !(<-isTrue _ env (eval _ env))) _ _ _
  exact wpAny_bind (Yp S h1 hA C K λs' k=>wpAny_pure (q1▸hQ s' k))
 ·refine wpAny_isTrue_BoolOp ?_
  show wpAny _ _ (do
   match BoolOp.And,<-isTrue _ env (eval _ env)with
   | .And,false=>pure false
   | .Or,true=>pure true
   |_,_=>allTrue .And [_] env) _ _ _
  refine wpAny_bind (Yp S h1 hA C K λs1 k1=>?_)
  cases t with
  |false=>exact wpAny_pure (Option.some.inj h2▸hQ s1 k1)
  |true=>
   show wpAny _ _ (do
    match BoolOp.And,<-isTrue _ env (eval _ env)with
    | .And,false=>pure false
    | .Or,true=>pure true
    |_,_=>allTrue .And [] env) _ _ _
   refine wpAny_bind (Yp S h2 hA (C.keeps k1) (K.keeps k1) λs2 k2=>?_)
   cases b with
   |false=>exact wpAny_pure (hQ s2 (k1.tr k2))
   |true=>exact wpAny_pure (hQ s2 (k1.tr k2))
end
section
variable {L:Lv} {n:Nat} {w:World} {mg mb:Str ->Option Value} {A:Around} {E:Value ->Shared ->Prop} {s:Shared} {ms:List Addr} {own:Str ->Option Addr} {sc:Scope} {env:Env} {ρ:Rho}
theorem VE {x:Str} (h:isGlob sc x=true):sc.names.lookup x=some .globalImplicit/\ (x==("__debug__":Str))=false:=by
 unfold isGlob at h
 cases e:sc.names.lookup x with
 |none=>rw[e]at h;exact Bool.noConfusion h
 |some k=>
  rw[e]at h
  cases k with
  |globalImplicit=>
   unfold J9V at h
   simp only[Bool.and_eq_true,Bool.not_eq_true']at h
   exact⟨rfl,h.2⟩
  |_=>exact Bool.noConfusion h
theorem YY {x:Str} {v:Value} {pos:Pos} {Q:Value ->Shared ->Prop} (C:Cx w mg mb s ms) (K:ScOk sc env) (hx:isGlob sc x=true) (hv:mg x=some v) (h:Q v s):wpAny (model pw w) A (eval (.Name x pos) env) Q E s:=by
 refine o01 (VE hx) λh1 h2=>?_
 exact Calls.Name_function_global K.kind (K.glo x h1) (Calls.loadGlobal_global (by rw[K.globals];exact C.glob.g) hv h) h2
theorem J0K {x:Str} {v:Value} {pos:Pos} {Q:Value ->Shared ->Prop} (C:Cx w mg mb s ms) (K:ScOk sc env) (hx:isGlob sc x=true) (hv:bltOf.lookup x=some v) (h:Q v s):wpAny (model pw w) A (eval (.Name x pos) env) Q E s:=by
 obtain⟨h1,h2⟩:=VE hx
 obtain⟨g1,g2⟩:=C.glob.blt x v hv
 exact Calls.Name_function_global K.kind (K.glo x h1) (Calls.loadGlobal_builtin (by rw[K.globals];exact C.glob.g) g1 (by rw[K.builtins];exact C.glob.b) g2 h) h2
theorem J5Y {x:Str} {d:D} {pos:Pos} {Q:Value ->Shared ->Prop} (C:Cx w mg mb s ms) (K:ScOk sc env) (hx:isGlob sc x=true) (hd:theTop.data x=some d) (hQ: ∀v,Rep w s ms v d ->Q v s):wpAny (model pw w) A (eval (.Name x pos) env) Q E s:=by
 have e:theTop.data x=(if x==nm "b1_set"then some (.iset b1)else if x==nm "b3_exceptions"then some (.dct b3)else none):=rfl
 rw[e]at hd
 split at hd
 ·rename_i hx1
  cases hd
  rw[eq_of_beq hx1]at hx⊢
  refine o12 C.glob.b1 λa h1 h2 h3=>?_
  exact YY C K hx h1 (hQ _ (.iset h2 λm=>absurd h3 (Nat.not_lt.mpr (C.hi a m))))
 ·split at hd
  ·rename_i hx1
   cases hd
   rw[eq_of_beq hx1]at hx⊢
   refine o11 C.glob.b3 λa h1 h2=>?_
   exact YY C K hx h1 (hQ _ (h2 s ms (λ_ _ e=>e) C.tk C.hi))
  ·cases hd
theorem J7X {x:Str} {d:D} (h:Jf5 ρ x=some d):ρ.lookup x=some (.val d):=by
 unfold Jf5 at h
 cases e:ρ.lookup x with
 |none=>rw[e]at h;exact nn h
 |some u=>
  rw[e]at h
  cases u with
  |val d=>exact congrArg (some<|Slot.val ·) (Option.some.inj h)
  |_=>exact nn h
theorem J6x {x:Str} {d:D} {pos:Pos} {Q:Value ->Shared ->Prop} (h:evS theTop L sc ρ (.Name x pos)=some d) (C:Cx w mg mb s ms) (K:EnvOk w s ms own sc env ρ)
  (hQ: ∀v s',Kp s s' ->Rep w s' ms v d ->Q v s'):wpAny (model pw w) A (eval (.Name x pos) env) Q E s:=by
 replace h:(if _ then _ else _)=some d:=h
 by_cases hv:Jg sc x=true
 ·rw[if_pos hv]at h
  exact Vv K (J7X h) hv λv r=>hQ v s (Kp.rfl' s) r
 rw[if_neg hv]at h
 refine J9 h λhg h=>?_
 cases hd:theTop.data x with
 |some d'=>rw[hd]at h;exact J5Y C K.fit hg hd λv r=>hQ v s (Kp.rfl' s) (Option.some.inj h▸r)
 |none=>
  rw[hd]at h
  have ty: ∀{y:Str} {t:String},(x==y)=true ->bltOf.lookup y=some (.type t) -> .ty t=d ->wpAny (model pw w) A (eval (.Name x pos) env) Q E s:=λq h e=>J0K C K.fit hg (eq_of_beq q▸h) (hQ _ s (Kp.rfl' s) (e▸ .ty _))
  by_cases h1:(x==nm "tuple")=true
  ·rw[if_pos h1]at h;exact ty h1 (by decide+kernel) (Option.some.inj h)
  rw[if_neg h1]at h
  by_cases h2:(x==nm "float")=true
  ·rw[if_pos h2]at h;exact ty h2 (by decide+kernel) (Option.some.inj h)
  rw[if_neg h2]at h
  exact J9 h λh3 h=>ty h3 (by decide+kernel) (Option.some.inj h)
theorem J3N {c:Const} {k:Nat} {d:D} {pos:Pos} {Q:Value ->Shared ->Prop} (h:evS theTop L sc ρ (.Constant c k pos)=some d) (C:Cx w mg mb s ms)
  (hQ: ∀v s',Kp s s' ->Rep w s' ms v d ->Q v s'):wpAny (model pw w) A (eval (.Constant c k pos) env) Q E s:=by
 cases c with
 |none=>cases h;exact wpAny_Constant_none (hQ _ s (Kp.rfl' s) .none)
 |bool b=>cases h;exact wpAny_Constant_bool (hQ _ s (Kp.rfl' s) (.bool _))
 |int i=>cases h;exact wpAny_Constant_int (hQ _ _ (Kp.tok1 s) (.int _ _))
 |float x=>cases h;exact PySem.wpAny_Constant_float (hQ _ _ (Kp.tok1 s) (.flt _ _ C.pos))
 |str x=>cases h;exact wpAny_Constant_str (hQ _ _ (Kp.tok1 s) (.str _ _ C.pos (Nat.lt_succ_self _)))
 |_=>exact nn h
theorem J3C (S:SoundE L n) {l r:PySem.Expr} {op:Operator} {d:D} {pos:Pos} {Q:Value ->Shared ->Prop} (h:evS theTop L sc ρ (.BinOp l op r pos)=some d) (hA:AOk n A) (C:Cx w mg mb s ms) (K:EnvOk w s ms own sc env ρ)
  (hQ: ∀v s',Kp s s' ->Rep w s' ms v d ->Q v s'):wpAny (model pw w) A (eval (.BinOp l op r pos) env) Q E s:=by
 refine bnd h λa h1 h2=>bnd h2 λb h3 h4=>?_
 refine wpAny_BinOp (S.ev h1 hA C K λva s1 k1 ra=>S.ev h3 hA (C.keeps k1) (K.keeps k1) λvb s2 k2 rb=>?_)
 exact KH h4 ((C.keeps k1).keeps k2) (ra.kp k2) rb λv s3 k3 r3=>hQ v s3 ((k1.tr k2).tr k3) r3
theorem J6Y (S:SoundE L n) {x:PySem.Expr} {op:UnaryOp} {d:D} {pos:Pos} {Q:Value ->Shared ->Prop} (h:evS theTop L sc ρ (.UnaryOp op x pos)=some d) (hA:AOk n A) (C:Cx w mg mb s ms) (K:EnvOk w s ms own sc env ρ)
  (hQ: ∀v s',Kp s s' ->Rep w s' ms v d ->Q v s'):wpAny (model pw w) A (eval (.UnaryOp op x pos) env) Q E s:=by
 refine bnd h λa h1 h2=>?_
 exact wpAny_UnaryOp (S.ev h1 hA C K λva s1 k1 ra=>J9C h2 ra λv s2 k2 r2=>hQ v s2 (k1.tr k2) r2)
theorem J44 (S:SoundE L n) {t b o:PySem.Expr} {d:D} {pos:Pos} {Q:Value ->Shared ->Prop} (h:evS theTop L sc ρ (.IfExp t b o pos)=some d) (hA:AOk n A) (C:Cx w mg mb s ms) (K:EnvOk w s ms own sc env ρ)
  (hQ: ∀v s',Kp s s' ->Rep w s' ms v d ->Q v s'):wpAny (model pw w) A (eval (.IfExp t b o pos) env) Q E s:=by
 refine bnd h λc h1 h2=>?_
 refine wpAny_IfExp (Kd S h1 hA C K λs1 k1=>?_)
 cases c with
 |true=>exact S.ev h2 hA (C.keeps k1) (K.keeps k1) λv s2 k2 r=>hQ v s2 (k1.tr k2) r
 |false=>exact S.ev h2 hA (C.keeps k1) (K.keeps k1) λv s2 k2 r=>hQ v s2 (k1.tr k2) r
theorem J6p (S:SoundE L n) {es:List PySem.Expr} {d:D} {pos:Pos} {Q:Value ->Shared ->Prop} (h:evS theTop L sc ρ (.List es pos)=some d) (hA:AOk n A) (C:Cx w mg mb s ms) (K:EnvOk w s ms own sc env ρ)
  (hQ: ∀v s',Kp s s' ->Rep w s' ms v d ->Q v s'):wpAny (model pw w) A (eval (.List es pos) env) Q E s:=by
 refine J9 h λhl h=>mpd h λds h1 e=>?_
 subst e
 refine wpAny_List (JD S h1 hA C K λvs s1 k1 r1=>⟨?_,hQ _ _ (k1.tr (Kp.push s1 _)) (JK (C.keeps k1) r1)⟩)
 have e1:=r1.length
 have e2:=Yj h1
 rw[sizeLine_eq];lia
theorem J9u (S:SoundE L n) {es:List PySem.Expr} {k:Nat} {d:D} {pos:Pos} {Q:Value ->Shared ->Prop} (h:evS theTop L sc ρ (.Tuple es k pos)=some d) (hA:AOk n A) (C:Cx w mg mb s ms) (K:EnvOk w s ms own sc env ρ)
  (hQ: ∀v s',Kp s s' ->Rep w s' ms v d ->Q v s'):wpAny (model pw w) A (eval (.Tuple es k pos) env) Q E s:=by
 refine J9 h λhl h=>mpd h λds h1 e=>?_
 subst e
 refine wpAny_Tuple (JD S h1 hA C K λvs s1 k1 r1=>⟨?_,hQ _ _ (k1.tr (Kp.push s1 _)) (JW (C.keeps k1) r1)⟩)
 have e1:=r1.length
 have e2:=Yj h1
 rw[sizeLine_eq];lia
theorem J3Q {d:D} {pos:Pos} {Q:Value ->Shared ->Prop} (h:evS theTop L sc ρ (.Dict [] [] pos)=some d) (C:Cx w mg mb s ms)
  (hQ: ∀v s',Kp s s' ->Rep w s' ms v d ->Q v s'):wpAny (model pw w) A (eval (.Dict [] [] pos) env) Q E s:=by
 cases h
 refine wpAny_Dict_empty (hQ _ _ (Kp.push s _) (.dct ⟨Heap.DictOf.new s.heap,?_⟩ C.fresh .nil))
 have hN:N0<=s.heap.objs.size:=C.big
 have:sysModules<s.heap.objs.size:=Nat.lt_of_lt_of_le (by decide) hN
 exact beq_eq_false_iff_ne.mpr (Nat.ne_of_gt this)
theorem J7A (S:SoundE L n) {l r:PySem.Expr} {op:CmpOp} {d:D} {pos:Pos} {Q:Value ->Shared ->Prop} (h:evS theTop L sc ρ (.Compare l [op] [r] pos)=some d) (hA:AOk n A) (C:Cx w mg mb s ms) (K:EnvOk w s ms own sc env ρ)
  (hQ: ∀v s',Kp s s' ->Rep w s' ms v d ->Q v s'):wpAny (model pw w) A (eval (.Compare l [op] [r] pos) env) Q E s:=by
 refine mpd h λb h1 e=>?_
 clear h;subst e
 obtain⟨z,hm⟩:=KN (E:=E) (pos:=pos) (Q:=Q) S h1 hA C K λs' k=>hQ _ s' k (.bool _)
 exact wpAny_Compare1 z hm
theorem J7i {v:Value} {d i r:D} (x:BRep w s ms v d) (h:itemD d i=some r): ∃T id,typeLookup (.type T) "__getitem__"=pure (some (.builtin id))/\ s.TypeIs v T:=by
 replace h:Jds i (shD d)=some r:=h
 generalize shD d=z at h
 induction z with
 |dct l=>
  refine o22 x.dct' λa vs q1 ha _=>?_;clear x;subst q1
  exact⟨"dict",_,slot_dict_getitem.lookup,ha.1.typeIs⟩
 |other d=>
  replace h:J8e (shB d i)=some r:=h
  generalize shB d i=z at h
  induction z with
  |li l i=>
   refine o22 x.lst' λa vs q2 ha _=>?_;clear x;subst q2
   exact⟨"list",_,slot_list_getitem.lookup,ha.isList.typeIs⟩
  |ti l i=>
   refine o22 ((x.toRep nofun nofun).tI) λa vs q3 ha _=>?_;clear x;subst q3
   exact⟨"tuple",_,F.slot_tuple_getitem.lookup,ha.isTuple.typeIs⟩
  |si l i=>
   refine o11 ((x.toRep nofun nofun).sI) λt q4 _=>?_;clear x;subst q4
   exact⟨"str",_,F.slot_str_getitem.lookup,typeIs_str _ _ _⟩
  |_=>exact nn h
theorem J5z {value slice:PySem.Expr} {o i:Value} {T id:String} {Q:Value ->Shared ->Prop} (hT:s.TypeIs o T) (hl:typeLookup (.type T) "__getitem__"=pure (some (.builtin id)))
  (hs:subscripted slice false o i=operate [o,i] (getItem o i)∨subscripted slice false o i=operate [i,o] (getItem o i)) (h:wpAny (model pw w) A (getItem o i) Q E s):wpAny (model pw w) A (subscriptTail value slice o i) Q E s:=by
 unfold subscriptTail
 have fin:wpAny (model pw w) A (subscripted slice false o i) (λr s₃=>wpAny (model pw w) A (letTemporaryGo value o r>>=λ_=>pure r) Q E s₃) E s:=by
  rcases hs with hs|hs<;>rw[hs]<;>
   exact wpAny_operating (wpAny_mono h (λr s₃ h₃=>wpAny_bind (wpAny_letTemporaryGo (wpAny_pure h₃))) λ_ _ x=>x)
 refine wpAny_bind ?_
 rw[getitemInPython_of_ne hT.not_modules]
 refine wpAny_bind (wpAny_specialOf hT hl ?_)
 first
  |exact wpAny_pure (wpAny_bind fin)
  |exact wpAny_bind (wpAny_pure (wpAny_bind fin))
  |exact wpAny_bind fin
theorem J9j (S:SoundE L n) {v i:PySem.Expr} {d:D} {pos:Pos} {Q:Value ->Shared ->Prop} (hi: ∀o k,subscripted i false o k=operate [o,k] (getItem o k)) (h:((J12 L sc ρ v).bind λo=>(L.ev sc ρ i).bind λk=>itemD o k)=some d) (hA:AOk n A) (C:Cx w mg mb s ms) (K:EnvOk w s ms own sc env ρ)
  (hQ: ∀v s',Kp s s' ->Rep w s' ms v d ->Q v s'):wpAny (model pw w) A (eval (.Subscript v i pos) env) Q E s:=by
 refine bnd h λo h1 h2=>?_
 refine bnd h2 λk h3 h4=>?_
 refine Subscript_ (JA S h1 hA C K λvo s1 k1 ro=>S.ev h3 hA (C.keeps k1) (K.keeps k1) λvi s2 k2 ri=>?_)
 refine o21 (J7i (ro.kp k2) h4) λT id hl hT=>?_
 refine J5z hT hl (.inl (hi _ _)) (VH h4 ((C.keeps k1).keeps k2) (ro.kp k2) ri λv s3 k3 r3=>hQ v s3 ((k1.tr k2).tr k3) r3)
theorem J09 (S:SoundE L n) {e:Option PySem.Expr} {d:Option D} (h:(match e with|none=>some none|some e=>(L.ev sc ρ e).map some)=some d) (hA:AOk n A) (C:Cx w mg mb s ms) (K:EnvOk w s ms own sc env ρ) {Q:Value ->Shared ->Prop}
  (hQ: ∀v s',Kp s s' ->PartRep w s' ms v d ->Q v s'):wpAny (model pw w) A (evalPart e env) Q E s:=by
 cases e with
 |none=>
  cases h
  rw[evalPart_none]
  exact wpAny_pure (hQ _ s (Kp.rfl' s) rfl)
 |some e=>
  refine mpd h λd h1 q1=>?_;clear h;subst q1
  rw[evalPart_some]
  exact S.ev h1 hA C K hQ
theorem J4t (S:SoundE L n) {v:PySem.Expr} {lo hi:Option PySem.Expr} {d:D} {p pos:Pos} {Q:Value ->Shared ->Prop} (h:evS theTop L sc ρ (.Subscript v (.Slice lo hi none p) pos)=some d) (hA:AOk n A) (C:Cx w mg mb s ms) (K:EnvOk w s ms own sc env ρ)
  (hQ: ∀v s',Kp s s' ->Rep w s' ms v d ->Q v s'):wpAny (model pw w) A (eval (.Subscript v (.Slice lo hi none p) pos) env) Q E s:=by
 refine bnd h λo h1 h2=>bnd h2 λa h3 h4=>bnd h4 λb h5 h6=>?_
 refine Subscript_ (S.ev h1 hA C K λvo s1 k1 ro=>wpAny_Slice (J09 S h3 hA (C.keeps k1) (K.keeps k1) λvl s2 k2 rl=>J09 S h5 hA ((C.keeps k1).keeps k2) ((K.keeps k1).keeps k2) λvu s3 k3 ru=>?_))
 rw[evalPart_none]
 refine wpAny_pure ?_
 have k4:=Kp.push s3 {cls:= .type "slice",data:= .fields #[vl,vu,.none]}
 have ro':=((ro.kp k2).kp k3).kp k4
 have hT: ∃T id,typeLookup (.type T) "__getitem__"=pure (some (.builtin id))/\ ({s3 with heap:=s3.heap.push {cls:= .type "slice",data:= .fields #[vl,vu,.none]}}:Shared).TypeIs vo T:=by
  refine bnd h6 λl h8 h9=>bnd h9 λu h10 h11=>?_
  cases o with
  |str x=>exact ro'.sE λt _ _=>⟨"str",_,F.slot_str_getitem.lookup,typeIs_str _ _ _⟩
  |lst l=>exact ro'.lE λa vs ha _ _=>⟨"list",_,slot_list_getitem.lookup,ha.isList.typeIs⟩
  |_=>exact nn h11
 obtain⟨T,id,hl,hT⟩:=hT
 exact J5z hT hl (.inr rfl) (J34 h6 ((((C.keeps k1).keeps k2).keeps k3).keeps k4) ro' ((rl.kp k3).kp k4) (ru.kp k4) (Heap.IsSliceOf.new _ _ _ _) λv s5 k5 r5=>hQ v s5 ((((k1.tr k2).tr k3).tr k4).tr k5) r5)
end
section
variable {M:Model} {A:Around} {E:Value ->Shared ->Prop} {s:Shared}
theorem Y5 {f:Value} {trees:List (Bool×Sem Value)} {Q:Args ->Shared ->Prop} (hne:trees≠[]) (hs:trees.any (·.1)=false)
  (h:wpAny M A (spliced trees) (λvs s'=>Q ⟨vs,[]⟩ s') E s):wpAny M A (evalArgs f true trees []) Q E s:=by
 cases trees with
 |nil=>exact absurd rfl hne
 |cons t r=>
  obtain⟨b,x⟩:=t
  cases b with
  |false=>exact Calls.evalArgs_plain h
  |true=>simp at hs
theorem JX {pos:Pos} {f:Value} {first:List Value} {args:List (Bool×Sem Value)} {Q:Value ->Shared ->Prop} (hf: ∀a,f≠ .ref a) (hplain:args.any (·.1)=false)
  (h:wpAny M A (evalArgs f true args []) (λa s₁=>wpAny M A (call f (first++a.pos) a.kw) Q E s₁) E s):wpAny M A (callWith pos f first args []) Q E s:=by
 have hk:keeperOf f=pure .machine:=by
  unfold keeperOf
  clear h;cases f<;>first|rfl|exact absurd rfl (hf _)
 unfold callWith
 refine wpAny_bind (wpAny_holding (wpAny_mono h (λa s₁ h₁=>wpAny_bind (wpAny_standAt ?_)) λ_ _ x=>x))
 rw[hplain,hk]
 refine wpAny_bind (wpAny_pure ?_)
 exact wpAny_bind (wpAny_mono h₁ (λr s₂ hr=>wpAny_bind (wpAny_holding (wpAny_point (wpAny_pure hr)))) λ_ _ x=>x)
end
section
variable {L:Lv} {n:Nat} {w:World} {mg mb:Str ->Option Value} {A:Around} {E:Value ->Shared ->Prop} {s:Shared} {ms:List Addr} {own:Str ->Option Addr} {sc:Scope} {env:Env} {ρ:Rho}
theorem YN (S:SoundE L n) {f:Str} {fv:Value} {es:List PySem.Expr} {ds:List D} {p pos:Pos} {Q:Value ->Shared ->Prop} (hg:isGlob sc f=true) (hf:bltOf.lookup f=some fv) (hne:es≠[]) (h:evL L sc ρ es=some ds)
  (hA:AOk n A) (C:Cx w mg mb s ms) (K:EnvOk w s ms own sc env ρ) (hv: ∀a,fv≠ .ref a)
  (hQ: ∀vs s',Kp s s' ->RepL w s' ms vs ds ->wpAny (model pw w) A (call fv vs) Q E s'):wpAny (model pw w) A (eval (.Call (.Name f p) es [] pos) env) Q E s:=by
 show wpAny _ A (do callWith pos (<-eval (.Name f p) env) [] (backTo pos (starEach es env)) (backToKw pos (keywordEach [] env))) Q E s
 refine wpAny_bind (J0K C K.fit hg hf ?_)
 refine JX hv (Ji S h pos).2 (Y5 ?_ (Ji S h pos).2 (JD S h hA C K hQ))
 cases es with
 |nil=>exact absurd rfl hne
 |cons e es=>
  refine bnd h λd h1 _=>?_
  rw[J3 (Je S h1)]
  exact List.cons_ne_nil _ _
theorem J6a {s s':Shared} (k:Kp s s') {b:Addr} (h:Above s' b):Above s b:=λc o e=>h c o (k.hp c o e)
theorem Begun.before {s1 s2:Shared} {it:Value} {p:Bool} {ds:List D} (k:Kp s s1) (h:Begun w A ms s1 s2 it p ds):Begun w A ms s s2 it p ds:=by
 refine o34 h λI wr St e k2 hf W st=>?_;clear h
 exact⟨I,wr,St,e,k.tr k2,λb hb=>⟨J6a k (hf b hb).1,(hf b hb).2⟩,W,st⟩
theorem J47 (hh:A.handled=none) {v:Value} {d:D} {ds:List D} (h:VI d=some ds) (r:Rep w s ms v d) {Q:Value ->Shared ->Prop}
  (hQ: ∀it s',Begun w A ms s s' it false ds ->Q it s'):wpAny (model pw w) A (pyIter v) Q E s:=by
 cases d with
 |lst l=>exact r.lE λa vs ha hn la=>J8g hh ha hn la (Option.some.inj h▸hQ)
 |tup l=>exact r.tE λa vs ha hn la=>J6l hh ha hn la (Option.some.inj h▸hQ)
 |str x=>exact r.sE λt h1 h2=>JaV hh (Option.some.inj h▸hQ)
 |_=>exact nn h
theorem J8d (S:SoundE L n) {e:PySem.Expr} {ds:List D} (h:(L.ev sc ρ e).bind VI=some ds) (hp:isPairs sc e=false) (hA:AOk n A) (C:Cx w mg mb s ms) (K:EnvOk w s ms own sc env ρ) {Q:Value ->Shared ->Prop}
  (hQ: ∀it s',Begun w A ms s s' it (isPairs sc e) ds ->Q it s'):wpAny (model pw w) A (eval e env) (λv s₁=>wpAny (model pw w) A (pyIter v) Q E s₁) E s:=by
 refine bnd h λd h1 h2=>?_
 exact S.ev h1 hA C K λv s1 k1 r1=>J47 hA.handled h2 r1 λit s2 b=>hQ it s2 (hp▸b.before k1)
end
section
variable {L:Lv} {n:Nat} {w:World} {mg mb:Str ->Option Value} {A:Around} {E:Value ->Shared ->Prop} {s:Shared} {ms:List Addr} {own:Str ->Option Addr} {sc:Scope} {env:Env} {ρ:Rho}
theorem bdM {α β:Type} {o:Option α} {f:α ->Option β} {a:α} {z:Option β} (h:o=some a) (k:f a=z):o.bind f=z:=(congrArg (Option.bind · f) h).trans k
theorem Vu {a:PySem.Expr} {d:D} (h:L.ev sc ρ a=some d):evL L sc ρ [a]=some [d]:=bdM h rfl
theorem Jax {a b:PySem.Expr} {d e:D} (h:L.ev sc ρ a=some d) (h':L.ev sc ρ b=some e):evL L sc ρ [a,b]=some [d,e]:=bdM h (bdM (Vu h') rfl)
theorem Jgz {a b c:PySem.Expr} {d e f:D} (h:L.ev sc ρ a=some d) (h':L.ev sc ρ b=some e) (h'':L.ev sc ρ c=some f):evL L sc ρ [a,b,c]=some [d,e,f]:=bdM h (bdM (Jax h' h'') rfl)
noncomputable abbrev Y1 (w:World) (A:Around) (E:Value ->Shared ->Prop) (Q:Value ->Shared ->Prop) (v:Value) (s₁:Shared):Prop:=wpAny (model pw w) A (pyIter v) Q E s₁
theorem J62 (S:SoundE L n) {f:Str} {a:PySem.Expr} {d:D} {ds:List D} {p pos:Pos} (hg:isGlob sc f=true) (hf:f=nm "enumerate") (h:L.ev sc ρ a=some d) (hd:(drawn d).map (enumD 0)=some ds)
  (hA:AOk n A) (C:Cx w mg mb s ms) (K:EnvOk w s ms own sc env ρ) {Q:Value ->Shared ->Prop} (hQ: ∀it s',Begun w A ms s s' it true ds ->Q it s'):
  wpAny (model pw w) A (eval (.Call (.Name f p) [a] [] pos) env) (Y1 w A E Q) E s:=by
 subst hf
 refine YN S hg (fv:= .type "enumerate") (by decide+kernel) (List.cons_ne_nil _ _) (Vu h) hA C K (λ_ h=>Value.noConfusion h) λvs s1 k1 rs=>?_
 refine o11 (Vd rs) λv q1 r=>?_;subst q1
 refine mpd hd λxs h1 e=>?_
 subst e
 cases d with
 |lst l=>clear h rs hd;cases h1;exact r.lE λa vs ha hn la=>Kr hA.handled ha hn la λit s2 b=>hQ it s2 (b.before k1)
 |str x=>clear hd;cases h1;exact r.sE λt _ _=>J0n hA.handled λit s2 b=>hQ it s2 (b.before k1)
 |_=>exact nn h1
theorem J9T (S:SoundE L n) {f:Str} {a b:PySem.Expr} {d d':D} {ds:List D} {p pos:Pos} (hg:isGlob sc f=true) (hf:f=nm "zip") (h:L.ev sc ρ a=some d) (h':L.ev sc ρ b=some d')
  (hd:((drawn d).bind λx=>Jhg x d')=some ds)
  (hA:AOk n A) (C:Cx w mg mb s ms) (K:EnvOk w s ms own sc env ρ) {Q:Value ->Shared ->Prop} (hQ: ∀it s',Begun w A ms s s' it true ds ->Q it s'):
  wpAny (model pw w) A (eval (.Call (.Name f p) [a,b] [] pos) env) (Y1 w A E Q) E s:=by
 subst hf
 refine YN S hg (fv:= .type "zip") (by decide+kernel) (List.cons_ne_nil _ _) (Jax h h') hA C K (λ_ h=>Value.noConfusion h) λvs s1 k1 rs=>?_
 refine o22 (J2T rs) λv v' q1 r r'=>?_;subst q1
 refine bnd hd λxs h1 h2=>?_
 cases d' with
 |lst y=>
  refine J9 h2 λhl h2=>r'.lE λb us hb hnb lb=>?_
  cases h2
  have hl:=eq_of_beq hl
  cases d with
  |lst l=>clear h rs hd;cases h1;exact r.lE λa vs ha hn la=>J0p hA.handled ha hn la hb hnb lb hl λit s2 b=>hQ it s2 (b.before k1)
  |str x=>clear h2 hd;cases h1;exact r.sE λt _ _=>J17 hA.handled hb hnb lb hl λit s2 b=>hQ it s2 (b.before k1)
  |_=>exact nn h1
 |_=>exact nn h2
theorem JiB {d d':D} {ds:List D} (h:rg2 d d'=some ds): ∃x y,d= .int x/\ d'= .int y/\ Jn x y 1=some ds:=by
 cases d with
 |int x=>cases d' with
  |int y=>exact⟨x,y,rfl,rfl,h⟩
  |_=>exact nn h
 |_=>exact nn h
theorem JiC {d d' d'':D} {ds:List D} (h:rg3 d d' d''=some ds): ∃x y z,d= .int x/\ d'= .int y/\ d''= .int z/\ Jn x y z=some ds:=by
 cases d with
 |int x=>cases d' with
  |int y=>cases d'' with
   |int z=>exact⟨x,y,z,rfl,rfl,rfl,h⟩
   |_=>exact nn h
  |_=>exact nn h
 |_=>exact nn h
theorem J6G {a b c:Int} {ds:List D} (h:Jn a b c=some ds) {vs:List Value} (hv:(∃t,vs=[.int b t]/\ a=0/\ c=1)∨(∃t u,vs=[.int a t,.int b u]/\ c=1)∨(∃t u v,vs=[.int a t,.int b u,.int c v])) {Q:Value ->Shared ->Prop}
  (hQ: ∀r s' t u v,Kp s s' ->IsRange s'.heap r a b c t u v ->Q (.ref r) s'):wpAny (model pw w) A (call (.type "range") vs) Q E s:=by
 rcases hv with⟨t,rfl,rfl,rfl⟩|⟨t,u,rfl,rfl⟩|⟨t,u,v,rfl⟩
 ·exact call_range_1 (hQ _ _ _ _ _ ((Kp.push s _).tr (Kp.tok2 _)) (IsRange.new _ _ _ _ _ _ _))
 ·exact call_range_2 (hQ _ _ _ _ _ ((Kp.push s _).tr (Kp.tok1 _)) (IsRange.new _ _ _ _ _ _ _))
 ·have hc:c=1∨c= -1:=by
   refine J9 h λhc _=>?_
   simp only[Bool.and_eq_true,Bool.or_eq_true,beq_iff_eq]at hc
   exact hc.1.1
  exact call_range_3 (by clear h hQ;rcases hc with rfl|rfl<;>decide) (hQ _ _ _ _ _ (Kp.push s _) (IsRange.new _ _ _ _ _ _ _)) (.inl (PyProof.noPylong_small (by clear h hQ;rcases hc with rfl|rfl<;>decide)))
theorem JV (S:SoundE L n) {f:Str} {es:List PySem.Expr} {as:List D} {a b c:Int} {ds:List D} {p pos:Pos} (hg:isGlob sc f=true) (hf:f=nm "range") (he:es≠[]) (h:evL L sc ρ es=some as) (hr:Jn a b c=some ds)
  (has:(as=[.int b]/\ a=0/\ c=1)∨(as=[.int a,.int b]/\ c=1)∨as=[.int a,.int b,.int c]) (hA:AOk n A) (C:Cx w mg mb s ms) (K:EnvOk w s ms own sc env ρ) {Q:Value ->Shared ->Prop}
  (hQ: ∀r s' t u v,Kp s s' ->IsRange s'.heap r a b c t u v ->Q (.ref r) s'):wpAny (model pw w) A (eval (.Call (.Name f p) es [] pos) env) Q E s:=by
 subst hf
 refine YN S hg (fv:= .type "range") (by decide+kernel) he h hA C K (λ_ h=>Value.noConfusion h) λvs s1 k1 rs=>?_
 refine J6G hr ?_ λr s2 t u v k2 hr2=>hQ r s2 t u v (k1.tr k2) hr2
 clear h;rcases has with⟨rfl,h1,h2⟩|⟨rfl,h1⟩|rfl
 ·refine o11 (Vd rs) λv q1 r=>?_;clear rs;subst q1
  exact r.iE λt=> .inl ⟨_,rfl,h1,h2⟩
 ·refine o22 (J2T rs) λv v' q2 r r'=>?_;clear rs;subst q2
  exact r.iE λt=>r'.iE λu=> .inr (.inl ⟨_,_,rfl,h1⟩)
 ·refine o33 (JfI rs) λv v' v'' q3 r r' r''=>?_;clear rs;subst q3
  exact r.iE λt=>r'.iE λu=>r''.iE λv=> .inr (.inr ⟨_,_,_,rfl⟩)
theorem Zx {pos:Pos} {es:List PySem.Expr} {ds:List D} (S:SoundE L n) (h:evL L sc ρ es=some ds) (hl:es.length<=4):((backTo pos (starEach es env)).all (λx=>!x.1)&&(backToKw pos (keywordEach [] env)).all (λx=>x.1.isSome)
   &&decide (es.length+([]:List Keyword).length+(if([]:List Keyword).isEmpty then 0 else 1)<30))=true:=by
 rw[(Ji S h pos).1,Bool.true_and]
 show(true&&_)=true
 rw[Bool.true_and]
 exact decide_eq_true (by simp;lia)
theorem J6i (S:SoundE L n) {o:Str} {op apos pos:Pos} {l:List (Key×D)} (h:L.ev sc ρ (.Name o op)=some (.dct l)) (hk:Jf l=true) (hline:(apos.endLine==pos.line)=true)
  (hA:AOk n A) (C:Cx w mg mb s ms) (K:EnvOk w s ms own sc env ρ) {Q:Value ->Shared ->Prop} (hQ: ∀it s',Begun w A ms s s' it true (l.map λkv=> .tup [dat kv.1,kv.2]) ->Q it s'):
  wpAny (model pw w) A (eval (.Call (.Attribute (.Name o op) (nm "items") apos) [] [] pos) env) (Y1 w A E Q) E s:=by
 refine wpAny_Call_method (T:="dict") (id:="dict.items") rfl (Zx (sc:=sc) (ρ:=ρ) (ds:=[]) S rfl (by decide)) hline F.plainAttrs_dict F.slot_dict_items F.type_dict_items (S.ev h hA C K λv s1 k1 r=>r.dE λa kvs ha hn la=>?_)
 refine⟨ha.1.typeIs,ha.1.mapOf.noDict,Calls.callWith_builtin rfl (PySem.evalArgs_none ?_)⟩
 refine call_meetsIn F.slot_dict_items ha.1.typeIs F.entry_dict_items (F.args_dict_items_1 _) (meets_dict_items (mixKind pw w) _ ha.2) ⟨⟨_,ha.1⟩,?_⟩
 have k2:=Kp.push s1 {cls:= .type "dict_items",data:= .fields #[.ref a]}
 exact J6j hA.handled ⟨_,Heap.get?_push_size _ rfl,rfl,rfl⟩ ⟨ha.1.keep k2.hp,ha.2⟩ hn (la.kp k2) hk λit s3 b=>hQ it s3 (b.before (k1.tr k2))
theorem J4C (S:SoundE L n) {o:Str} {op apos pos:Pos} {l:List (Key×D)} (h:L.ev sc ρ (.Name o op)=some (.dct l)) (hline:(apos.endLine==pos.line)=true)
  (hA:AOk n A) (C:Cx w mg mb s ms) (K:EnvOk w s ms own sc env ρ) {Q:Value ->Shared ->Prop} (hQ: ∀it s',Begun w A ms s s' it false (l.map (·.2)) ->Q it s'):
  wpAny (model pw w) A (eval (.Call (.Attribute (.Name o op) (nm "values") apos) [] [] pos) env) (Y1 w A E Q) E s:=by
 refine wpAny_Call_method (T:="dict") (id:="dict.values") rfl (Zx (sc:=sc) (ρ:=ρ) (ds:=[]) S rfl (by decide)) hline F.plainAttrs_dict F.slot_dict_values F.type_dict_values (S.ev h hA C K λv s1 k1 r=>r.dE λa kvs ha hn la=>?_)
 refine⟨ha.1.typeIs,ha.1.mapOf.noDict,Calls.callWith_builtin rfl (PySem.evalArgs_none ?_)⟩
 refine call_meetsIn F.slot_dict_values ha.1.typeIs F.entry_dict_values (F.args_dict_values_1 _) (meets_dict_values (mixKind pw w) _ ha.2) ⟨⟨_,ha.1⟩,?_⟩
 have k2:=Kp.push s1 {cls:= .type "dict_values",data:= .fields #[.ref a]}
 exact J48 hA.handled ⟨_,Heap.get?_push_size _ rfl,rfl,rfl⟩ ⟨ha.1.keep k2.hp,ha.2⟩ hn (la.kp k2) λit s3 b=>hQ it s3 (b.before (k1.tr k2))
theorem J92 (S:SoundE L n) {f:Str} {as:List PySem.Expr} {ds:List D} {fp pos:Pos} (hg:isGlob sc f=true) (he:f=nm "range") (h:(match as with
   |[a]=>(L.ev sc ρ a).bind rg1
   |[a,b]=>(L.ev sc ρ a).bind λd=>(L.ev sc ρ b).bind (rg2 d)
   |[a,b,c]=>(L.ev sc ρ a).bind λd=>(L.ev sc ρ b).bind λd'=>(L.ev sc ρ c).bind (rg3 d d')
   |_=>none)=some ds) (hA:AOk n A) (C:Cx w mg mb s ms) (K:EnvOk w s ms own sc env ρ) {Q:Value ->Shared ->Prop} (hQ: ∀it s',Begun w A ms s s' it false ds ->Q it s'):wpAny (model pw w) A (eval (.Call (.Name f fp) as [] pos) env) (Y1 w A E Q) E s:=by
 have fin: ∀{a b c:Int} (r:Addr) (s':Shared) (t u v:Tok),Jn a b c=some ds ->Kp s s' ->IsRange s'.heap r a b c t u v ->Y1 w A E Q (.ref r) s':=λr s' t u v h1 k hr=>J6k hA.handled h1 hr λit s2 b=>hQ it s2 (b.before k)
 clear hQ
 cases as with
 |nil=>exact nn h
 |cons a as=>cases as with
  |nil=>
   refine bnd h λd h1 h2=>?_
   cases d with
   |int x=>exact JV S hg he (List.cons_ne_nil _ _) (Vu h1) h2 (.inl ⟨rfl,rfl,rfl⟩) hA C K λr s' t u v k hr=>fin r s' t u v h2 k hr
   |_=>exact nn h2
  |cons b as=>cases as with
   |nil=>
    refine bnd h λd h1 h2=>bnd h2 λd' h3 h4=>o22 (JiB h4) λx y q1 q2 h4=>?_
    exact JV S hg he (List.cons_ne_nil _ _) (Jax (q1▸h1) (q2▸h3)) h4 (.inr (.inl ⟨rfl,rfl⟩)) hA C K λr s' t u v k hr=>fin r s' t u v h4 k hr
   |cons c as=>cases as with
    |cons=>exact nn h
    |nil=>
     refine bnd h λd h1 h2=>bnd h2 λd' h3 h4=>bnd h4 λd'' h5 h6=>o33 (JiC h6) λx y z q3 q4 q5 h6=>?_
     exact JV S hg he (List.cons_ne_nil _ _) (Jgz (q3▸h1) (q4▸h3) (q5▸h5)) h6 (.inr (.inr rfl)) hA C K λr s' t u v k hr=>fin r s' t u v h6 k hr
theorem Jaw (S:SoundE L n) {f:Str} {as:List PySem.Expr} {ds:List D} {fp pos:Pos} (hg:isGlob sc f=true) (he:f=nm "enumerate") (h:(match as with|[a]=>(L.ev sc ρ a).bind λd=>(drawn d).map (enumD 0)|_=>none)=some ds)
  (hA:AOk n A) (C:Cx w mg mb s ms) (K:EnvOk w s ms own sc env ρ) {Q:Value ->Shared ->Prop} (hQ: ∀it s',Begun w A ms s s' it true ds ->Q it s'):wpAny (model pw w) A (eval (.Call (.Name f fp) as [] pos) env) (Y1 w A E Q) E s:=by
 cases as with
 |nil=>exact nn h
 |cons a as=>cases as with
  |cons=>exact nn h
  |nil=>exact bnd h λd h1 h2=>J62 S hg he h1 h2 hA C K hQ
theorem Jer (S:SoundE L n) {f:Str} {as:List PySem.Expr} {ds:List D} {fp pos:Pos} (hg:isGlob sc f=true) (he:f=nm "zip") (h:(match as with|[a,b]=>(L.ev sc ρ a).bind λd=>(L.ev sc ρ b).bind λd'=>(drawn d).bind λx=>Jhg x d'|_=>none)=some ds)
  (hA:AOk n A) (C:Cx w mg mb s ms) (K:EnvOk w s ms own sc env ρ) {Q:Value ->Shared ->Prop} (hQ: ∀it s',Begun w A ms s s' it true ds ->Q it s'):wpAny (model pw w) A (eval (.Call (.Name f fp) as [] pos) env) (Y1 w A E Q) E s:=by
 cases as with
 |nil=>exact nn h
 |cons a as=>cases as with
  |nil=>exact nn h
  |cons b as=>cases as with
   |cons=>exact nn h
   |nil=>exact bnd h λd h1 h2=>bnd h2 λd' h3 h4=>J9T S hg he h1 h3 h4 hA C K hQ
theorem YW (S:SoundE L n) {e:PySem.Expr} {ds:List D} (h:itE L sc ρ e=some ds) (hA:AOk n A) (C:Cx w mg mb s ms) (K:EnvOk w s ms own sc env ρ) {Q:Value ->Shared ->Prop}
  (hQ: ∀it s',Begun w A ms s s' it (isPairs sc e) ds ->Q it s'):wpAny (model pw w) A (eval e env) (Y1 w A E Q) E s:=by
 replace h:itZ L sc ρ (shI e)=some ds:=h
 have plain:isPairs sc e=false ->(L.ev sc ρ e).bind VI=some ds ->wpAny (model pw w) A (eval e env) (Y1 w A E Q) E s:=λhp h=>J8d S h hp hA C K hQ
 replace hQ: ∀it s',Begun w A ms s s' it (pairsSh sc (shI e)) ds ->Q it s':=hQ
 replace plain:pairsSh sc (shI e)=false ->(L.ev sc ρ e).bind VI=some ds ->wpAny (model pw w) A (eval e env) (Y1 w A E Q) E s:=plain
 generalize shI e=z at h hQ plain
 induction z with
 |cn f fp as pos=>
  replace h:(if(isGlob sc f&&f==nm "enumerate")=true then _ else if(isGlob sc f&&f==nm "zip")=true then _ else if(isGlob sc f&&f==nm "range")=true then _ else _)=some ds:=h
  replace hQ: ∀it s',Begun w A ms s s' it (isGlob sc f&&(f==nm "enumerate"||f==nm "zip")) ds ->Q it s':=hQ
  replace plain:(isGlob sc f&&(f==nm "enumerate"||f==nm "zip"))=false ->_:=plain
  by_cases hc:(isGlob sc f&&f==nm "enumerate")=true
  ·rw[if_pos hc]at h
   rw[Bool.and_eq_true]at hc
   rw[hc.1,hc.2]at hQ
   exact Jaw S hc.1 (eq_of_beq hc.2) h hA C K hQ
  rw[if_neg hc]at h
  by_cases hz:(isGlob sc f&&f==nm "zip")=true
  ·rw[if_pos hz]at h
   rw[Bool.and_eq_true]at hz
   rw[hz.1,hz.2,Bool.or_true]at hQ
   exact Jer S hz.1 (eq_of_beq hz.2) h hA C K hQ
  rw[if_neg hz]at h
  rw[Bool.and_or_distrib_left,Bool.not_eq_true _|>.mp hc,Bool.not_eq_true _|>.mp hz]at hQ plain
  by_cases hr:(isGlob sc f&&f==nm "range")=true
  ·rw[if_pos hr]at h
   rw[Bool.and_eq_true]at hr
   exact J92 S hr.1 (eq_of_beq hr.2) h hA C K hQ
  ·rw[if_neg hr]at h
   exact plain rfl h
 |ca o op name apos pos=>
  replace h:(if(name==nm "items")=true then _ else if(name==nm "values")=true then _ else _)=some ds:=h
  replace hQ: ∀it s',Begun w A ms s s' it (name==nm "items") ds ->Q it s':=hQ
  by_cases hn:(name==nm "items")=true
  ·rw[if_pos hn]at h
   rw[hn]at hQ
   rw[eq_of_beq hn]
   refine J9 h λhline h=>bnd h λd h1 h2=>?_
   cases d with
   |dct l=>exact J9 h2 λhk h2=>J6i S h1 hk hline hA C K (Option.some.inj h2▸hQ)
   |_=>exact nn h2
  have hp1:(name==nm "items")=false:=Bool.not_eq_true _|>.mp hn
  rw[if_neg hn]at h
  rw[hp1]at hQ
  by_cases hv:(name==nm "values")=true
  ·rw[if_pos hv]at h
   rw[eq_of_beq hv]
   refine J9 h λhline h=>bnd h λd h1 h2=>?_
   cases d with
   |dct l=>exact J4C S h1 hline hA C K (Option.some.inj h2▸hQ)
   |_=>exact nn h2
  ·rw[if_neg hv]at h
   exact plain hp1 h
 |other e=>exact J9 h λ_ h=>plain rfl h
end
noncomputable def J78 (v:Value) (x:Int):Prop:=(∃t,v= .int x t)∨ ∃b,v= .bool b/\ x=if b then 1 else 0
section
variable {w:World} {A:Around} {R:Result ->Shared ->Prop} {I:Addr} {fp wr:List Addr} {G:Array GenState ->Array GenState ->Prop} {n:Nat} {P:Nat ->Value ->Prop} {St:Nat ->Shared ->Prop}
theorem J0t {β:Type} {l r:List β} {a:β} {i:Nat} (h:l.drop i=a::r):l[i]?=some a/\ l.drop (i+1)=r/\ i+1<=l.length:=by
 have e:l[i]?=some a:=by rw[<-List.head?_drop,h];rfl
 exact⟨e,by rw[<-List.tail_drop,h];rfl,(List.getElem?_eq_some_iff.mp e).1⟩
noncomputable def J9X:Int ->List Int ->Prop
 |_,[]=>True
 |acc,x::r=>J4M x=true/\ J4M (acc+x)=true/\ J9X (acc+x) r
theorem JbW (W:WalksS pw w A.in1 I fp wr G n P St) (xs:List Int) (hn:n=xs.length) (hval: ∀i v x,P i v ->xs[i]?=some x ->J78 v x) (S:Addr) (hSf:S∉fp) (rest:List Int):
  ∀(i:Nat) (s:Shared) (tA:Tok) (c:Nat) (acc:Int),xs.drop i=rest ->i<=n ->St i s ->s.heap.get? S=some {cls:= .type "list",dict:=none,data:= .seq #[.int acc tA] c,slots:= #[]} ->J9X acc rest ->
  (∀s' t',Moved (S::wr) G s s' ->R (.ok (.ret (.int (acc+rest.sum) t'))) s') ->codeAny (model pw w) A (.builtin "sum.loop" ⟨[.ref I,.ref S,rawInt 0,rawInt 0],[]⟩) R s:=by
 have hsub: ∀b∈wr,b∈S::wr:=λb hb=>List.mem_cons_of_mem _ hb
 induction rest with
 |nil=>
  intro i s tA c acc hd hi hst hS _ hR
  rw[Nat.le_antisymm hi (hn▸List.drop_eq_nil_iff.mp hd)]at hst
  rw[List.sum_nil,Int.add_zero]at hR
  refine codeAny_builtin F.entry_sum_loop ?_
  rw[Around.under_plainId F.plain_sum_loop _]
  show wpAny _ A.in1 (seqItems? (.ref S)>>=_) _ _ s
  refine wpAny_bind (wpAny_seqItems hS rfl ?_)
  show wpAny _ A.in1 (tryCatch (pyNext (.ref I)) _>>=_) _ _ s
  exact wpAny_bind (wpAny_tryCatch (W.done s _ _ hst λs' hm=>wpAny_pure (hR s' tA (hm.mono hsub))))
 |cons x rest ih=>
  intro i s tA c acc hd hi hst hS hfit hR
  refine o02 (J0t hd) λhx hd' hlt=>o02 hfit λf1 f2 f3=>?_
  rw[<-hn]at hlt
  have hg:(J4M x&&J4M (acc+x))=true:=by rw[f1,f2];rfl
  rw[List.sum_cons,<-Int.add_assoc]at hR
  clear hd hi hfit f1 f2
  refine codeAny_builtin F.entry_sum_loop ?_
  rw[Around.under_plainId F.plain_sum_loop _]
  show wpAny _ A.in1 (seqItems? (.ref S)>>=_) _ _ s
  refine wpAny_bind (wpAny_seqItems hS rfl ?_)
  show wpAny _ A.in1 (tryCatch (pyNext (.ref I)) _>>=_) _ _ s
  refine wpAny_bind (wpAny_tryCatch (W.item i s _ _ hlt hst λv s' hP hst' hm=>?_))
  have hS':=hm.heap S _ (λh=>hSf (W.sub _ h)) hS
  have go:wpAny (model pw w) A.in1 (mkInt (acc+x)>>=λr=>updateSeq S (λ_=> #[r])>>=λ_=>again (.builtin "sum.loop" ⟨[.ref I,.ref S,rawInt 0,rawInt 0],[]⟩))
    (λfin s'=>match fin with| .done f=>R (.ok f) s'| .again c'=>c'.quiet=true/\ codeAny (model pw w) A c' R s') (λe s'=>R (.error e) s') s':=
   wpAny_bind (wpAny_mkInt (wpAny_bind (wpAny_updateSeq hS' rfl (wpAny_pure ⟨plainId_quiet F.plain_sum_loop _,ih (i+1) _ s'.toks _ (acc+x) hd' hlt (W.frame _ s' _ _ hst' (Nat.le_succ _) λb hb o e=>(Heap.get?_update_other _ _ (λh:S=b=>hSf (h▸hb))).trans e) (Heap.get?_update_self _ hS' rfl) f3
    λs'' t'' hm''=>hR s'' t'' (Moved.trans W.gtrans ((hm.mono hsub).then_heap (Nat.le_succ _) λb o hb e=>(Heap.get?_update_other _ _ (λh:S=b=>hb (h▸List.mem_cons_self))).trans e) hm'')⟩))))
  clear hR ih f3 hS hS' hst hst' hm
  refine(hval i v x hP hx).elim (λq=>o10 q λt e=>?_) λq=>o11 q λb e e2=>?_
  ·rw[e]
   show wpAny _ A.in1 (if(_:Bool)=true then(mkInt (acc+x)>>=_)else _) _ _ _
   rw[if_pos (by exact hg)]
   exact go
  ·rw[e]
   show wpAny _ A.in1 (if(_:Bool)=true then(mkInt (acc+(if b then 1 else 0))>>=_)else _) _ _ _
   rw[e2]at hg
   rw[if_pos (by exact hg),<-e2]
   exact go
end
section
variable {w:World} {mg mb:Str ->Option Value} {A:Around} {E:Value ->Shared ->Prop} {s:Shared} {ms:List Addr}
theorem Ja8 (hh:A.handled=none) {a:Addr} {vs:List Value} (ha:s.heap.IsList a vs.toArray) (xs:List Int) (hl:vs.length=xs.length) (hval: ∀(i:Nat) (v:Value) (x:Int),vs[i]?=some v ->xs[i]?=some x ->J78 v x)
  (hfit:J9X 0 xs) {Q:Value ->Shared ->Prop} (hQ: ∀s' t,Kp s s' ->Q (.int xs.sum t) s'):wpAny (model pw w) A (call (.builtin "sum") [.ref a]) Q E s:=by
 refine call_function_tree F.kind_sum F.plain_sum F.entry_sum (F.args_sum1 _) ?_
 unfold Builtin.«sum»
 simp only[List.length_cons,List.length_nil]
 rw[if_neg (by decide)]
 refine wpAny_bind (wpAny_of_eq (show Builtin.Builtins.bindParams "sum" ["start"] 0 {}=pure [none]from rfl) ?_)
 refine wpAny_bind (wpAny_pyIter_list ha ?_)
 refine wpAny_bind (wpAny_mkInt ?_)
 refine wpAny_bind (wpAny_pure ?_)
 simp only[List.forIn_cons,List.forIn_nil]
 refine wpAny_bind (wpAny_bind (wpAny_bind (wpAny_isInstance (T:="int") (b:=false) (typeIs_int _ _ _) PySem.sub_int_str ?_)))
 simp only[Bool.false_eq_true,if_false]
 refine wpAny_pure (wpAny_bind (wpAny_bind (wpAny_isInstance (T:="int") (b:=false) (typeIs_int _ _ _) PySem.sub_int_bytes ?_)))
 simp only[Bool.false_eq_true,if_false]
 refine wpAny_pure (wpAny_bind (wpAny_bind (wpAny_isInstance (T:="int") (b:=false) (typeIs_int _ _ _) PySem.sub_int_bytearray ?_)))
 simp only[Bool.false_eq_true,if_false]
 refine wpAny_pure (wpAny_pure ?_)
 refine wpAny_bind (wpAny_newObj_type ?_)
 have hlt:a<s.heap.objs.size:=o11 ha λo e _=>Heap.lt_size e
 have W:=(Walks.list (prog:=pw) (w:=w) (A:=A.in1) hh s.heap.objs.size a (Nat.ne_of_lt hlt) vs.toArray).toS
 have hz:(s.heap.push {cls:= .type "list_iterator",data:= .fields #[.ref a,.int 0 0]}).objs.size=s.heap.objs.size+1:=Heap.size_push ..
 refine wpAny_pure ⟨plainId_quiet F.plain_sum_loop _,JbW W xs (by rw[List.size_toArray,hl]) (λi v x hp hx=>hval i v x (by simpa using hp) hx) _ ?_ xs 0 _ s.toks 0 0 rfl (Nat.zero_le _)
  ⟨⟨_,Heap.get?_push_of_some _ (Heap.get?_push_size _ rfl),rfl,rfl⟩,(ha.push _).push _⟩ (Heap.get?_push_size _ rfl) hfit λs' t' hm=>?_⟩
 ·rw[hz]
  exact λhm=>(List.mem_cons.mp hm).elim (Nat.succ_ne_self _) λhm=>absurd (List.mem_singleton.mp hm▸hlt) (Nat.not_lt.mpr (Nat.le_succ _))
 ·rw[Int.zero_add]
  refine hQ s' t' ⟨?_,Nat.le_trans (Nat.le_succ _) hm.toks⟩
  obtain⟨h',g',d',tk',os'⟩:=s'
  have e1:=hm.gens;have e2:=hm.drawn;have e3:=hm.os
  simp only at e1 e2 e3
  subst e1 e2 e3
  refine⟨h',tk',rfl,λb o e=>hm.heap b o (λhmem=>?_) (Heap.get?_push_of_some _ (Heap.get?_push_of_some _ e))⟩
  rw[hz]at hmem
  exact(List.mem_cons.mp hmem).elim (λh=>absurd (h▸Heap.lt_size e) (Nat.not_lt.mpr (Nat.le_succ _))) λh=>absurd (List.mem_singleton.mp h▸Heap.lt_size e) (Nat.lt_irrefl _)
theorem J9l {l:List D} {acc tot:Int} (h:J5A acc l=some tot): ∃xs:List Int,xs.length=l.length/\ tot=acc+xs.sum/\ (∀(i:Nat) (d:D) (x:Int),l[i]?=some d ->xs[i]?=some x ->J6z d=some x)/\ J9X acc xs:=by
 induction l generalizing acc with
 |nil=>exact⟨[],rfl,(Option.some.inj h).symm.trans (Int.add_zero _).symm,λi d x e=>nn e,trivial⟩
 |cons d l ih=>
  refine bnd h λx h1 h2=>J9 h2 λhf h2=>o13 (ih h2) λxs e1 e2 e3 e4=>o01 (Bool.and_eq_true_iff.mp hf) λf1 f2=>⟨x::xs,congrArg (· +1) e1,by rw[e2,List.sum_cons,Int.add_assoc],λi=>?_,f1,f2,e4⟩
  cases i with
  |zero=>exact λd' y ed ex=>Option.some.inj ed▸Option.some.inj ex▸h1
  |succ i=>exact e3 i
theorem J8J {v:Value} {d:D} {x:Int} (h:J6z d=some x) (r:Rep w s ms v d):J78 v x:=by
 cases d with
 |int i=>exact .inl (o10 r.inv λt e=>⟨t,Option.some.inj h▸e⟩)
 |bool b=>exact .inr ⟨b,r.inv,(Option.some.inj h).symm⟩
 |_=>exact nn h
theorem J9n (hh:A.handled=none) {o d:D} {v:Value} {Q:Value ->Shared ->Prop} (h:JhL o=some d) (r:Rep w s ms v o) (hQ: ∀v s',Kp s s' ->Rep w s' ms v d ->Q v s'):
  wpAny (model pw w) A (call (.builtin "sum") [v]) Q E s:=by
 cases o with
 |lst l=>
  refine r.lE λa vs ha _ la=>mpd h λtot h1 q1=>o13 (J9l h1) λxs e1 e2 e3 e4=>?_
  rw[Int.zero_add]at e2
  rw[e2]at q1
  exact Ja8 hh ha.isList xs (by rw[la.length,e1]) (λi v x hv hx=>o11 (la.get' hv) λd hd rd=>J8J (e3 i d x hd hx) rd) e4 λs' t k=>hQ _ s' k (q1▸ .int _ _)
 |_=>exact nn h
end
end
section
set_option autoImplicit false
open PySem.SeqAt
open AutoSeq1 (wpAny_loadPart')
theorem J9v (l b:Addr) (i j:Int) (t u:Tok) (x y:Str) (t' u':Tok) (n n2:Nat):
  Meets (Builtin.«tuple.__gt__» ⟨[.ref l,.ref b],[]⟩)
   (λA R s=>s.heap.get? l=some {cls:= .type "tuple",data:= .seq #[.int i t,.str x t'] n}/\ s.heap.get? b=some {cls:= .type "tuple",data:= .seq #[.int j u,.str y u'] n2}/\
    R (.ok (.ret (.bool (decide (j<i)||(i==j&&decide (y.cps.toList<x.cps.toList)))))) s):=
 .of_wp λprog w A R s h=>by
  obtain⟨hp,g,d,tk,os⟩:=s;obtain⟨hl,hb,h⟩:=h
  have f2:=AutoSeq1.sub_tuple_tuple
  wp_walk using wpAny_loadPart' hl,wpAny_loadPart' hb,wpAny_forIn_list _ (λrest b' s'=>b'.1=none/\ s'=⟨hp,g,d,tk,os⟩/\
   (rest=[(Value.int i t,Value.int j u),(Value.str x t',Value.str y u')]∨(i=j/\ rest=[(Value.str x t',Value.str y u')])∨(i=j/\ x=y/\ rest=[]))) _
  case turn=>
   rintro⟨p,q⟩ rest b' s' ⟨hb',rfl,hc⟩
   rcases hc with hc|⟨e,hc⟩|⟨_,_,hc⟩
   ·injection hc with h1 h2
    injection h1 with h3 h4
    subst h2 h3 h4
    refine wpAny_bind ((EqAt.int_int i t j u) prog w _ _ ?_)
    cases hij:i==j with
    |true=>
     wp_walk
     exact⟨rfl,rfl,.inr (.inl ⟨eq_of_beq hij,rfl⟩)⟩
    |false=>
     show wpAny _ _ (rule _>>=λ_=>richCompare .Gt _ _>>=λv=>ret v>>=λf=>pure (ForInStep.done (some f,()))) _ _ _
     refine wpAny_bind (wpAny_rule (wpAny_bind (gt_int ?_)))
     refine wpAny_bind (wpAny_pure (wpAny_pure (wpAny_pure ⟨_,rfl,?_⟩)))
     rw[hij,Bool.false_and,Bool.or_false]at h
     exact h
   ·injection hc with h1 h2
    injection h1 with h3 h4
    clear hb;subst h2 h3 h4 e
    refine wpAny_bind ((EqAt.str_str x t' y u') prog w _ _ ?_)
    cases hxy:x==y with
    |true=>
     wp_walk
     exact⟨rfl,rfl,.inr (.inr ⟨rfl,eq_of_beq hxy,rfl⟩)⟩
    |false=>
     show wpAny _ _ (rule _>>=λ_=>richCompare .Gt _ _>>=λv=>ret v>>=λf=>pure (ForInStep.done (some f,()))) _ _ _
     refine wpAny_bind (wpAny_rule (wpAny_bind (P.gt_str ?_)))
     refine wpAny_bind (wpAny_pure (wpAny_pure (wpAny_pure ⟨_,rfl,?_⟩)))
     rw[beq_self_eq_true,Bool.true_and,decide_eq_false (Int.lt_irrefl i),Bool.false_or]at h
     exact h
   ·cases hc
  case fin=>
   rintro⟨b1,b2⟩ s' ⟨hb',rfl,hc⟩
   simp only at hb'
   subst hb'
   rcases hc with hc|⟨_,hc⟩|⟨e1,e2,_⟩
   ·cases hc
   ·cases hc
   ·clear hb;subst e1 e2
    rw[decide_eq_false (Int.lt_irrefl i),decide_eq_false (List.lt_irrefl x.cps.toList),Bool.and_false,Bool.or_false]at h
    exact wpAny_pure ⟨_,rfl,h⟩
  case h=>
   exact⟨rfl,rfl,.inl rfl⟩
section
variable {w:World} {mg mb:Str ->Option Value} {A:Around} {E:Value ->Shared ->Prop} {s:Shared} {ms:List Addr}
theorem Jdk {a b:Addr} {i j:Int} {t u:Tok} {x y:Str} {t' u':Tok} (hu:A.units<cLine) (ha:TpAt s.heap a [.int i t,.str x t']) (hb:TpAt s.heap b [.int j u,.str y u']) {Q:Value ->Shared ->Prop}
  (h:Q (.bool (decide (j<i)||(i==j&&decide (y.cps.toList<x.cps.toList)))) s):wpAny (model pw w) A (richCompare .Gt (.ref a) (.ref b)) Q E s:=by
 obtain⟨n,ha⟩:=ha
 obtain⟨n2,hb⟩:=hb
 exact richCompare_meets_room (op:= .Gt) ⟨_,ha,rfl⟩ ⟨_,hb,rfl⟩ F.slot_tuple_gt F.entry_tuple_gt (F.args_tuple_gt_2 _ _) (J9v a b i j t u x y t' u' n n2)
  ⟨ha,hb,(λq=>Value.noConfusion q),h⟩ hu
noncomputable def Ja0 (a b:D):Bool:=(JaS a&&JaS b)||(J4W a&&J4W b)
theorem J4X {a:D} (h:JaS a=true): ∃x,a= .str x:=by
 cases a with|str x=>exact⟨x,rfl⟩|_=>exact Bool.noConfusion h
theorem J1J {a:D} (h:J4W a=true): ∃i x,a= .tup [.int i,.str x]:=by
 cases a with
 |tup l=>cases l with
  |nil=>exact Bool.noConfusion h
  |cons a l=>cases a with
   |int i=>cases l with
    |nil=>exact Bool.noConfusion h
    |cons b l=>cases b with
     |str x=>cases l with
      |nil=>exact⟨i,x,rfl⟩
      |cons=>exact Bool.noConfusion h
     |_=>exact Bool.noConfusion h
   |_=>exact Bool.noConfusion h
 |_=>exact Bool.noConfusion h
theorem JaJ {a b:Addr} {i j:Int} {x y:Str} {v1 v2 v3 v4:Value} (hu:A.units<cLine) (ha:TpAt s.heap a [v1,v2]) (hb:TpAt s.heap b [v3,v4]) (r1:Rep w s ms v1 (.int i)) (r2:Rep w s ms v2 (.str x)) (r3:Rep w s ms v3 (.int j)) (r4:Rep w s ms v4 (.str y)) {Q:Value ->Shared ->Prop}
  (h:Q (.bool (decide (j<i)||(i==j&&decide (y.cps.toList<x.cps.toList)))) s):wpAny (model pw w) A (richCompare .Gt (.ref a) (.ref b)) Q E s:=by
 refine o10 r1.inv λ_ e1=>o11 r2.inv λ_ e2 _=>o10 r3.inv λ_ e3=>o11 r4.inv λ_ e4 _=>?_
 rw[e1,e2]at ha;rw[e3,e4]at hb
 exact Jdk hu ha hb h
theorem JaK {a b:D} {va vb:Value} (hu:A.units<cLine) (hk:Ja0 a b=true) (ra:Rep w s ms va a) (rb:Rep w s ms vb b) {Q:Value ->Shared ->Prop} (h:Q (.bool (gtD a b)) s):wpAny (model pw w) A (richCompare .Gt va vb) Q E s:=by
 rcases Bool.or_eq_true_iff.mp hk with hk|hk
 ·refine o01 (Bool.and_eq_true_iff.mp hk) λh1 h2=>o10 (J4X h1) λx e=>o10 (J4X h2) λy e'=>?_
  clear hk h1 h2
  subst e;subst e'
  exact ra.sE λ_ _ _=>rb.sE λ_ _ _=>P.gt_str h
 ·refine o01 (Bool.and_eq_true_iff.mp hk) λh1 h2=>o20 (J1J h1) λi x e=>o20 (J1J h2) λj y e'=>?_
  clear hk h1 h2
  subst e;subst e'
  refine ra.tE λa vs ha _ la=>rb.tE λb us hb _ lb=>o22 (J2T la) λv1 v2 q1 r1 r2=>o22 (J2T lb) λu1 u2 q2 r3 r4=>?_
  rw[q1]at ha;rw[q2]at hb
  exact JaJ hu ha hb r1 r2 r3 r4 h
end
end
section
set_option autoImplicit false
open PySem.SeqAt
noncomputable def btOf (bt:D ->D ->Bool) (l:List D) (i j:Nat):Bool:=match l[i]?,l[j]? with|some a,some b=>bt a b|_,_=>false
theorem J7p {bt:D ->D ->Bool} {l:List D} {i j:Nat} {x y:D} (hx:l[i]?=some x) (hy:l[j]?=some y):btOf bt l i j=bt x y:=by simp[btOf,hx,hy]
theorem J5o {ms:List Addr} (s:Shared) {S:Addr} (f:Obj ->Obj) (h:S∈ms):Past s ms {s with heap:=s.heap.update S f} ms:=
 ⟨Nat.le_refl _,λb o e n=>⟨(Heap.get?_update_other _ _ (λq:S=b=>n (q▸h))).trans e,n⟩⟩
section
variable {w:World} {A:Around} {R:Result ->Shared ->Prop} {I a:Addr} {vs:List Value} {ds:List D} {ms:List Addr}
theorem J00 {wr:List Addr} {G:Array GenState ->Array GenState ->Prop} {s s':Shared} (m:Moved wr G s s') (h: ∀b∈wr,b∈ms):Past s ms s' ms:=⟨m.toks,λb o e n=>⟨m.heap b o (λq=>n (h b q)) e,n⟩⟩
noncomputable abbrev LSt (I a:Addr) (vs:List Value) (i:Nat) (s:Shared):Prop:=s.heap.IsListIter I a i/\ s.heap.IsList a vs.toArray
noncomputable abbrev JeF (w:World) (A:Around) (I a:Addr) (vs:List Value):Prop:=
 WalksS pw w A I [I,a] [I] (λx y=>y=x) vs.toArray.size (λi v=>vs.toArray[i]?=some v) (LSt I a vs)
theorem Jb6 (W:JeF w A.in1 I a vs) (hu:A.units+1<cLine) (hlen:vs.length=ds.length) (hk: ∀(i j:Nat) (x y:D),ds[i]?=some x ->ds[j]?=some y ->Ja0 x y=true) (S:Addr) (hSI:S≠I) (hSa:S≠a) (hSm:S∈ms) (hIm:I∈ms):
  ∀(k j:Nat) (s:Shared) (vb:Value) (c:Nat),vs.length-(j+1)=k ->j+1<=vs.length ->LSt I a vs (j+1) s ->RepL w s ms vs ds ->vs[argBest (btOf gtD ds) j]?=some vb ->
  s.heap.get? S=some {cls:= .type "list",dict:=none,data:= .seq #[vb,vb] c,slots:= #[]} ->
  (∀v s',vs[argBest (btOf gtD ds) (vs.length-1)]?=some v ->Moved (S::[I]) (λx y=>y=x) s s' ->R (.ok (.ret v)) s') ->codeAny (model pw w) A (.builtin "max.loop" ⟨[.ref I,.none,.ref S],[]⟩) R s:=by
 have hSw:S∉[I]:=λh=>hSI (List.mem_singleton.mp h)
 have hsub: ∀b∈[I],b∈S::[I]:=λb hb=>List.mem_cons_of_mem _ hb
 have hname:(toString "max"++toString ".loop":String)="max.loop":=by decide
 have notS: ∀{b:Addr},b∉S::[I] ->S≠b:=λhb h=>hb (by rw[h];exact List.mem_cons_self)
 have hSf: ∀b∈[I,a],S≠b:=λb hb=>by
  rcases List.mem_cons.mp hb with rfl|hb
  ·exact hSI
  ·rw[List.mem_singleton.mp hb];exact hSa
 have hIms: ∀b∈[I],b∈ms:=λb hb=>by rw[List.mem_singleton.mp hb];exact hIm
 intro k
 induction k with
 |zero=>
  intro j s vb c hk' hj hst hr hPb hS hR
  have hin:j+1=vs.toArray.size:=by rw[List.size_toArray];omega
  refine codeAny_builtin F.entry_max_loop ?_
  rw[Around.under_plainId F.plain_max_loop _]
  show wpAny _ A.in1 (seqItems? (.ref S)>>=_) _ _ s
  refine wpAny_bind (wpAny_seqItems hS rfl ?_)
  show wpAny _ A.in1 (tryCatch (pyNext (.ref I)) _>>=_) _ _ s
  refine wpAny_bind (wpAny_tryCatch (W.done s _ _ (hin▸hst) λs' hm=>?_))
  have hS':=hm.heap S _ hSw hS
  show wpAny _ A.in1 (updateSeq S (λ_=> #[])>>=_) _ _ _
  refine wpAny_bind ?_
  refine wpAny_updateSeq hS' rfl (wpAny_bind (wpAny_letGo (wpAny_pure ?_)))
  refine hR vb _ (by rw[show vs.length-1=j by omega];exact hPb) ((hm.mono hsub).then_heap (tk:=s'.toks) (Nat.le_refl _) λb o hb e=>(Heap.get?_update_other _ _ (notS hb)).trans e)
 |succ k ih=>
  intro j s vb c hk' hj hst hr hPb hS hR
  have hlt:j+1<vs.toArray.size:=by rw[List.size_toArray];omega
  refine codeAny_builtin F.entry_max_loop ?_
  rw[Around.under_plainId F.plain_max_loop _]
  show wpAny _ A.in1 (seqItems? (.ref S)>>=_) _ _ s
  refine wpAny_bind (wpAny_seqItems hS rfl ?_)
  show wpAny _ A.in1 (tryCatch (pyNext (.ref I)) _>>=_) _ _ s
  refine wpAny_bind (wpAny_tryCatch (W.item (j+1) s _ _ hlt hst λv s' hP hst' hm=>?_))
  have hS':=hm.heap S _ hSw hS
  have hr':=hr.past (J00 hm hIms)
  have hP':vs[j+1]?=some v:=by simpa using hP
  refine o11 (hr'.get' hP') λx hx rx=>?_
  refine o11 (hr'.get' hPb) λy hy ry=>?_
  show wpAny _ A.in1 (tryCatch (holding [v,v] (richCompare .Gt v vb>>=_)) _>>=_) _ _ _
  refine wpAny_bind (wpAny_tryCatch (wpAny_holding (wpAny_bind (JaK (A:=A.in1) hu (hk _ _ x y hx hy) rx ry ?_))))
  refine wpAny_bind (wpAny_holding (wpAny_truthy_bool ?_))
  refine wpAny_bind (wpAny_letGo (wpAny_pure ?_))
  have hbt:btOf gtD ds (j+1) (argBest (btOf gtD ds) j)=gtD x y:=J7p hx hy
  have upd: ∀(f:Obj ->Obj),∀b o,b≠S ->s'.heap.get? b=some o ->(s'.heap.update S f).get? b=some o:=λf b o hb e=>(Heap.get?_update_other _ _ (Ne.symm hb)).trans e
  cases hb:gtD x y with
  |true=>
   simp only[if_true]
   refine wpAny_bind ?_
   refine wpAny_updateSeq hS' rfl (wpAny_bind (wpAny_letGo ?_))
   rw[hname]
   refine wpAny_pure ⟨plainId_quiet F.plain_max_loop _,ih (j+1) _ v _ (by omega) (by omega) (W.frame _ s' _ s'.toks hst' (Nat.le_refl _) λb hbf o e=>upd _ b o (Ne.symm (hSf b hbf)) e)
    (hr'.past (J5o s' _ hSm)) (by rw[argBest,hbt,hb];exact hP') (Heap.get?_update_self _ hS' rfl) λv' s'' hP'' hm''=>?_⟩
   exact hR v' s'' hP'' (Moved.trans (λ_ _ _ h1 h2=>h2.trans h1) ((hm.mono hsub).then_heap (tk:=s'.toks) (Nat.le_refl _) λb o hb e=>(Heap.get?_update_other _ _ (notS hb)).trans e) hm'')
  |false=>
   simp only[Bool.false_eq_true,if_false]
   refine wpAny_bind (wpAny_letGo ?_)
   rw[hname]
   refine wpAny_pure ⟨plainId_quiet F.plain_max_loop _,ih (j+1) s' vb c (by omega) (by omega) hst' hr' (by rw[argBest,hbt,hb];exact hPb) hS' λv' s'' hP'' hm''=>?_⟩
   exact hR v' s'' hP'' (Moved.trans (λ_ _ _ h1 h2=>h2.trans h1) (hm.mono hsub) hm'')
end
section
variable {w:World} {mg mb:Str ->Option Value} {A:Around} {E:Value ->Shared ->Prop} {s:Shared} {ms:List Addr}
theorem J0o {n:Nat} (hA:AOk n A) {a:Addr} {vs:List Value} {ds:List D} (ha:LsAt s.heap a vs) (hn:a∉ms) (la:RepL w s ms vs ds) (hne:0<ds.length)
  (hk: ∀(i j:Nat) (x y:D),ds[i]?=some x ->ds[j]?=some y ->Ja0 x y=true) {Q:Value ->Shared ->Prop}
  (hQ: ∀v s' d,Kp s s' ->ds[argBest (btOf gtD ds) (ds.length-1)]?=some d ->Rep w s' ms v d ->Q v s'):wpAny (model pw w) A (call (.builtin "max") [.ref a]) Q E s:=by
 have hname:(toString "max"++toString ".loop":String)="max.loop":=by decide
 have hlen:=la.length
 have hlt:a<s.heap.objs.size:=o10 ha λ_ e=>Heap.lt_size e
 have hu:A.units+1<cLine:=by have:=hA.cu;lia
 refine call_function_tree F.kind_max F.plain_max F.entry_max (F.args_max1 _) ?_
 show wpAny _ A.in1 (Builtin.Builtins.bindParams "max" ["key","default"] 0 ⟨[],[]⟩>>=_) _ _ s
 refine wpAny_bind (wpAny_of_eq (show Builtin.Builtins.bindParams "max" ["key","default"] 0 ⟨[],[]⟩=pure [none,none]from rfl) ?_)
 refine wpAny_bind (wpAny_pure ?_)
 refine wpAny_bind (wpAny_pyIter_list ha.isList ?_)
 refine wpAny_bind (wpAny_newObj_type ?_)
 have W:JeF w A.in1 s.heap.objs.size a vs:=(Walks.list (prog:=pw) (w:=w) (A:=A.in1) hA.handled s.heap.objs.size a (Nat.ne_of_lt hlt) vs.toArray).toS
 have hz:(s.heap.push {cls:= .type "list_iterator",data:= .fields #[.ref a,.int 0 0]}).objs.size=s.heap.objs.size+1:=Heap.size_push ..
 rw[hname]
 generalize hs2:({s with heap:=(s.heap.push {cls:= .type "list_iterator",data:= .fields #[.ref a,.int 0 0]}).push {cls:= .type "list",data:= .seq ([]:List Value).toArray}}:Shared)=s2
 have hS:s2.heap.get? (s.heap.objs.size+1)=some {cls:= .type "list",dict:=none,data:= .seq #[] 0,slots:= #[]}:=by
  rw[<-hs2,<-hz];exact Heap.get?_push_size _ rfl
 have hst:LSt s.heap.objs.size a vs 0 s2:=by
  rw[<-hs2]
  exact⟨⟨_,Heap.get?_push_of_some _ (Heap.get?_push_size _ rfl),rfl,rfl⟩,(ha.isList.push _).push _⟩
 have kp:Kp s s2:=by rw[<-hs2];exact(Kp.push s _).tr (Kp.push _ _)
 have hr:RepL w s2 ([s.heap.objs.size+1,s.heap.objs.size]++ms) vs ds:=by
  rw[<-hs2]
  refine la.past (Ze (λb o e=>Heap.get?_push_of_some _ (Heap.get?_push_of_some _ e)) λb hb=>?_)
  rcases List.mem_cons.mp hb with rfl|hb
  ·exact Nat.le_succ _
  ·rw[List.mem_singleton.mp hb];exact Nat.le_refl _
 have hfin: ∀s',Moved [s.heap.objs.size+1,s.heap.objs.size] (λx y=>y=x) s2 s' ->Kp s s':=by
  intro s' m
  obtain⟨h',g',d',tk',os'⟩:=s'
  have e1:=m.gens;have e2:=m.drawn;have e3:=m.os
  rw[<-hs2]at e1 e2 e3
  simp only at e1 e2 e3
  subst e1 e2 e3
  refine⟨⟨h',tk',rfl,λb o e=>m.heap b o (λhmem=>?_) (kp.hp b o e)⟩,Nat.le_trans kp.t m.toks⟩
  have hb:=Heap.lt_size e
  rcases List.mem_cons.mp hmem with h|hmem
  ·exact absurd (h▸hb) (Nat.not_lt.mpr (Nat.le_succ _))
  ·rw[List.mem_singleton]at hmem
   exact absurd (hmem▸hb) (Nat.lt_irrefl _)
 rw[hz]
 refine wpAny_pure ⟨plainId_quiet F.plain_max_loop _,?_⟩
 refine codeAny_builtin F.entry_max_loop ?_
 rw[Around.under_plainId F.plain_max_loop _]
 show wpAny _ A.in1 (seqItems? (.ref _)>>=_) _ _ s2
 refine wpAny_bind (wpAny_seqItems hS rfl ?_)
 show wpAny _ A.in1 (tryCatch (pyNext (.ref _)) _>>=_) _ _ s2
 refine wpAny_bind (wpAny_tryCatch (W.item 0 s2 _ _ (by rw[List.size_toArray];lia) hst λv s' hP hst' hm=>?_))
 have hSI:s.heap.objs.size+1≠s.heap.objs.size:=Nat.succ_ne_self _
 have hSa:s.heap.objs.size+1≠a:=λh=>absurd hlt (Nat.not_lt.mpr (h▸Nat.le_succ _))
 have hS':=hm.heap (s.heap.objs.size+1) _ (λh=>hSI (List.mem_singleton.mp h)) hS
 have hr':=hr.past (J00 hm (ms:=[s.heap.objs.size+1,s.heap.objs.size]++ms) (λb hb=>by rw[List.mem_singleton.mp hb];simp))
 have hP':vs[0]?=some v:=by simpa using hP
 show wpAny _ A.in1 (updateSeq _ (λ_=> #[v,v])>>=_) _ _ _
 refine wpAny_bind ?_
 refine wpAny_updateSeq hS' rfl ?_
 rw[hname]
 have upd: ∀(f:Obj ->Obj),∀b o,b≠s.heap.objs.size+1 ->s'.heap.get? b=some o ->(s'.heap.update (s.heap.objs.size+1) f).get? b=some o:=λf b o hb e=>(Heap.get?_update_other _ _ (Ne.symm hb)).trans e
 refine wpAny_pure ⟨plainId_quiet F.plain_max_loop _,Jb6 (ms:=[s.heap.objs.size+1,s.heap.objs.size]++ms) W hu hlen hk _ hSI hSa (by simp) (by simp) _ 0 _ v _ rfl (by lia) (W.frame _ s' _ s'.toks hst' (Nat.le_refl _) λb hb o e=>upd _ b o (λq=>?_) e)
  (hr'.past (J5o s' _ (by simp))) hP' (Heap.get?_update_self _ hS' rfl) λv' s'' hP'' hm''=>?_⟩
 ·rcases List.mem_cons.mp hb with h|hb
  ·exact hSI (q.symm.trans h)
  ·exact hSa (q.symm.trans (List.mem_singleton.mp hb))
 ·have m2:Moved [s.heap.objs.size+1,s.heap.objs.size] (λx y=>y=x) s2 s'':=Moved.trans (λ_ _ _ h1 h2=>h2.trans h1) ((hm.mono (λb hb=>List.mem_cons_of_mem _ hb)).then_heap (tk:=s'.toks) (Nat.le_refl _) λb o hb e=>upd _ b o (λq=>hb (by rw[q];exact List.mem_cons_self)) e) hm''
  have k:=hfin s'' m2
  rw[hlen]at hP''
  refine o11 (la.get' hP'') λd hd _=>?_
  exact hQ v' s'' d k hd ((la.kp k).at hP'' hd)
end
section
variable {w:World} {mg mb:Str ->Option Value} {A:Around} {E:Value ->Shared ->Prop} {s:Shared} {ms:List Addr}
theorem J5V {op:CmpOp} {bt:D ->D ->Bool} (hop:(op= .Gt/\ bt=gtD)∨(op= .Lt/\ bt=ltD)) {vs:List Value} {ds:List D} (hv: ∀(i:Nat) (v:Value),vs[i]?=some v -> ∃x t,v= .float x t/\ ds[i]?=some (.flt x)):
  CmpOf pw w A op (λi v=>vs.toArray[i]?=some v) (btOf bt ds):=by
 intro i j vi vj s Q E hi hj hQ
 refine o21 (hv i vi (by simpa using hi)) λx t q1 hx=>?_;clear hi;subst q1
 refine o21 (hv j vj (by simpa using hj)) λy u q2 hy=>?_;clear hj;subst q2
 rw[J7p hx hy]at hQ
 rcases hop with⟨rfl,rfl⟩|⟨rfl,rfl⟩
 ·exact AutoFloatOps.gt_0 hQ
 ·exact AutoFloatOps.lt_0 hQ
theorem J3g {x y z:UInt64} {v1 v2 v3:Value} {bt:D ->D ->Bool} {op:CmpOp} {name:String} (hh:A.handled=none) (hop:(op= .Gt/\ bt=gtD/\ name="max")∨(op= .Lt/\ bt=ltD/\ name="min"))
  (r1:Rep w s ms v1 (.flt x)) (r2:Rep w s ms v2 (.flt y)) (r3:Rep w s ms v3 (.flt z)) {d:D} (hd:JB bt [.flt x,.flt y,.flt z]=some d) {Q:Value ->Shared ->Prop} (hQ: ∀v s',Kp s s' ->Rep w s' ms v d ->Q v s'):
  wpAny (model pw w) A (call (.builtin name) [v1,v2,v3]) Q E s:=by
 have hT:(s.heap.push {cls:= .type "tuple",data:= .seq #[v1,v2,v3]}).IsTuple s.heap.objs.size [v1,v2,v3].toArray:=⟨_,Heap.get?_push_size _ rfl,rfl,0,rfl⟩
 have hsz:(s.heap.push {cls:= .type "tuple",data:= .seq #[v1,v2,v3]}).objs.size=s.heap.objs.size+1:=Heap.size_push ..
 have hf: ∀(i:Nat) (v:Value),[v1,v2,v3][i]?=some v -> ∃x' t,v= .float x' t/\ ([.flt x,.flt y,.flt z]:List D)[i]?=some (.flt x'):=by
  intro i v hv
  match i,hv with
  |0,hv=>cases hv;clear hT hsz hv;cases r1;exact⟨_,_,rfl,rfl⟩
  |1,hv=>cases hv;clear hT hsz hv;cases r2;exact⟨_,_,rfl,rfl⟩
  |2,hv=>cases hv;clear hT hsz hv;cases r3;exact⟨_,_,rfl,rfl⟩
  |i+3,hv=>simp at hv
 have la:RepL w s ms [v1,v2,v3] [.flt x,.flt y,.flt z]:= .cons r1 (.cons r2 (.cons r3 .nil))
 have body:wpAny (model pw w) A.in1 (pyIter (.ref s.heap.objs.size)) (λit s₂=> ∃I fp wr n P St bt',it= .ref I/\ Walks pw w A.in1 I fp wr n P St/\ St 0 s₂.heap/\ (∀b∈fp,b<s₂.heap.objs.size)/\ 0<n/\ CmpOf pw w A.in1 op P bt'/\
   ∀v h' tk,P (argBest bt' (n-1)) v ->(∀b o,b∉wr ->s₂.heap.get? b=some o ->h'.get? b=some o) ->(λv s'=>Keeps s s'/\ ∃i:Nat,[v1,v2,v3][i]?=some v/\ ([.flt x,.flt y,.flt z]:List D)[i]?=some d) v {s₂ with heap:=h',toks:=tk}) E
   {s with heap:=s.heap.push {cls:= .type "tuple",data:= .seq #[v1,v2,v3]}}:=by
  refine wpAny_pyIter_tuple hT ?_
  refine⟨_,[_,s.heap.objs.size],[_],_,_,_,_,rfl,Walks.tuple (A:=A.in1) hh _ s.heap.objs.size (by rw[hsz];exact Nat.ne_of_lt (Nat.lt_succ_self _)) [v1,v2,v3].toArray,
   ⟨⟨_,Heap.get?_push_size _ rfl,rfl,rfl⟩,hT.push _⟩,λb hb=>?_,Nat.succ_pos 2,J5V (bt:=bt) (hop.imp (λh=>⟨h.1,h.2.1⟩) (λh=>⟨h.1,h.2.1⟩)) hf,λv h' tk hP hk=>?_⟩
  ·show b<((s.heap.push _).push _).objs.size
   rw[Heap.size_push,hsz]
   rcases List.mem_cons.mp hb with rfl|hb
   ·rw[hsz];exact Nat.lt_succ_self _
   ·rw[List.mem_singleton.mp hb];exact Nat.lt_succ_of_lt (Nat.lt_succ_self _)
  ·refine⟨⟨h',tk,rfl,λb o e=>hk b o (λhm=>?_) (Heap.get?_push_of_some _ (Heap.get?_push_of_some _ e))⟩,argBest (btOf bt [.flt x,.flt y,.flt z]) 2,by simpa using hP,hd⟩
   rw[List.mem_singleton,hsz]at hm
   exact absurd (hm▸Heap.lt_size e) (Nat.not_lt.mpr (Nat.le_succ _))
 have fin:wpAny (model pw w) A (call (.builtin name) [v1,v2,v3]) (λv s'=>Keeps s s'/\ ∃i:Nat,[v1,v2,v3][i]?=some v/\ ([.flt x,.flt y,.flt z]:List D)[i]?=some d) E s:=by
  clear hd;rcases hop with⟨rfl,rfl,rfl⟩|⟨rfl,rfl,rfl⟩
  ·exact call_max_three body
  ·exact call_min_three body
 refine upK fin λv s' k h=>?_
 refine o11 h λi h1 h2=>?_;clear h
 exact hQ v s' k ((la.kp k).at h1 h2)
theorem Jb9 {a b d:D} {v1 v2:Value} (hh:A.handled=none) (h:JhF a b=some d) (r1:Rep w s ms v1 a) (r2:Rep w s ms v2 b) {Q:Value ->Shared ->Prop} (hQ: ∀v s',Kp s s' ->Rep w s' ms v d ->Q v s'):
  wpAny (model pw w) A (call (.builtin "min") [v1,v2]) Q E s:=by
 refine bnd h λx h1 h2=>bnd h2 λy h3 h4=>(Yk h1▸r1).iE λ_=>(Yk h3▸r2).iE λ_=>upK (P:=λv s'=>Rep w s' ms v d) (min_two_ints hh λh' tk hk=>⟨Keeps.mk' hk,?_⟩) hQ
 rw[<-Option.some.inj h4]
 clear h h1 h2 h3 h4
 split
 ·exact .int _ _
 ·exact .int _ _
theorem J8z {n:Nat} {o d:D} {v:Value} {Q:Value ->Shared ->Prop} (h:JhE o=some d) (hA:AOk n A) (r:Rep w s ms v o) (hQ: ∀v s',Kp s s' ->Rep w s' ms v d ->Q v s'):wpAny (model pw w) A (call (.builtin "max") [v]) Q E s:=by
 cases o with
 |lst l=>
  refine J6g h λhe h=>J9 h λhk h=>r.lE λa vs ha hn la=>J0o hA ha hn la (List.length_pos_iff.mpr λe=>he (e▸rfl)) (λi j a b ha hb=>?_) λv s' d' k hd r=>hQ v s' k (Option.some.inj (hd.symm.trans h)▸r)
  unfold Ja0
  rcases Bool.or_eq_true_iff.mp hk with hk|hk
  ·rw[List.all_eq_true.mp hk a (List.mem_of_getElem? ha),List.all_eq_true.mp hk b (List.mem_of_getElem? hb)];rfl
  ·rw[List.all_eq_true.mp hk a (List.mem_of_getElem? ha),List.all_eq_true.mp hk b (List.mem_of_getElem? hb),Bool.and_self,Bool.or_true]
 |_=>exact nn h
theorem J1s {a b c d:D} {v1 v2 v3:Value} {bt:D ->D ->Bool} {op:CmpOp} {name:String} (hh:A.handled=none) (hop:(op= .Gt/\ bt=gtD/\ name="max")∨(op= .Lt/\ bt=ltD/\ name="min")) (h:fl3 bt a b c=some d)
  (r1:Rep w s ms v1 a) (r2:Rep w s ms v2 b) (r3:Rep w s ms v3 c) {Q:Value ->Shared ->Prop} (hQ: ∀v s',Kp s s' ->Rep w s' ms v d ->Q v s'):wpAny (model pw w) A (call (.builtin name) [v1,v2,v3]) Q E s:=
 bnd h λ_ h1 h=>bnd h λ_ h2 h=>bnd h λ_ h3 h=>J3g hh hop (Vg h1▸r1) (Vg h2▸r2) (Vg h3▸r3) h hQ
noncomputable def BltOk (w:World) (mg mb:Str ->Option Value) (A:Around) (E:Value ->Shared ->Prop) (ms:List Addr) (f:Str) (g:List D ->Option D):Prop:=
 ∃fv,bltOf.lookup f=some fv/\ ∀{as:List D} {vs:List Value} {d:D} {s:Shared} {Q:Value ->Shared ->Prop},g as=some d ->Cx w mg mb s ms ->RepL w s ms vs as ->(∀v s',Kp s s' ->Rep w s' ms v d ->Q v s') ->wpAny (model pw w) A (call fv vs) Q E s
theorem BltOk.one {f:Str} {g:D ->Option D} {fv:Value} (hf:bltOf.lookup f=some fv) (k: ∀{o d:D} {v:Value} {s:Shared} {Q:Value ->Shared ->Prop},g o=some d ->Cx w mg mb s ms ->Rep w s ms v o ->(∀v s',Kp s s' ->Rep w s' ms v d ->Q v s') ->wpAny (model pw w) A (call fv [v]) Q E s):
  BltOk w mg mb A E ms f (Zi g no2 no3):=⟨fv,hf,λh C rs hQ=>bE h rs (λ_ _ h r=>k h C r hQ) (λ_ _ _ _ h=>nn h) λ_ _ _ _ _ _ h=>nn h⟩
theorem JcK {n:Nat} (hA:AOk n A): ∀p∈bltFn,BltOk w mg mb A E ms p.1 p.2:=
 List.forall_mem_cons.mpr ⟨.one (fv:= .builtin "len") (by decide+kernel) λh _ r hQ=>J8p h r hQ,
 List.forall_mem_cons.mpr ⟨.one (fv:= .builtin "sum") (by decide+kernel) λh _ r hQ=>J9n hA.handled h r hQ,
 List.forall_mem_cons.mpr ⟨⟨.builtin "max",by decide+kernel,λh _ rs hQ=>bE h rs (λ_ _ h r=>J8z h hA r hQ) (λ_ _ _ _ h=>nn h) λ_ _ _ _ _ _ h r1 r2 r3=>J1s hA.handled (.inl ⟨rfl,rfl,rfl⟩) h r1 r2 r3 hQ⟩,
 List.forall_mem_cons.mpr ⟨⟨.builtin "min",by decide+kernel,λh _ rs hQ=>bE h rs (λ_ _ h=>nn h) (λ_ _ _ _ h r1 r2=>Jb9 hA.handled h r1 r2 hQ) λ_ _ _ _ _ _ h r1 r2 r3=>J1s hA.handled (.inr ⟨rfl,rfl,rfl⟩) h r1 r2 r3 hQ⟩,
 List.forall_mem_cons.mpr ⟨⟨.builtin "isinstance",by decide+kernel,λh _ rs hQ=>bE h rs (λ_ _ h=>nn h) (λ_ _ _ _ h r1 r2=>bnd h λ_ h1 h=>(Jen h1▸r2).yI▸Va h r1 hQ) λ_ _ _ _ _ _ h=>nn h⟩,
 List.forall_mem_cons.mpr ⟨.one (fv:= .builtin "chr") (by decide+kernel) λh C r hQ=>J18 h C r λx t e ht hne=>hQ _ _ ⟨Keeps.tok _ _,Nat.le_succ_of_le ht⟩ (e▸ .str _ _ hne (Nat.lt_succ_self _)),
 List.forall_mem_cons.mpr ⟨.one (fv:= .builtin "ord") (by decide+kernel) λh _ r hQ=>J8N h r hQ,
 List.forall_mem_cons.mpr ⟨.one (fv:= .type "str") (by decide+kernel) λh C r hQ=>J6S h C r hQ,
 List.forall_mem_cons.mpr ⟨.one (fv:= .type "dict") (by decide+kernel) λh C r hQ=>J5Z h C r hQ,
 List.forall_mem_cons.mpr ⟨.one (fv:= .type "tuple") (by decide+kernel) λh C r hQ=>J4A h C r hQ,
 List.forall_mem_cons.mpr ⟨.one (fv:= .type "int") (by decide+kernel) λh _ r hQ=>J6f h r hQ,λ_ m=>absurd m List.not_mem_nil⟩⟩⟩⟩⟩⟩⟩⟩⟩⟩⟩
theorem J3H {n:Nat} {f:Str} {fv:Value} {as:List D} {vs:List Value} {d:D} {Q:Value ->Shared ->Prop} (hf:bltOf.lookup f=some fv) (h:J4 f as=some d) (hA:AOk n A) (C:Cx w mg mb s ms) (rs:RepL w s ms vs as)
  (hQ: ∀v s',Kp s s' ->Rep w s' ms v d ->Q v s'):wpAny (model pw w) A (call fv vs) Q E s:=
 bnd h λg h1 h2=>o11 (JcK hA (f,g) (JT h1)) λ_ e k=>Option.some.inj (e.symm.trans hf)▸k h2 C rs hQ
end
section
variable {L:Lv} {n:Nat} {w:World} {mg mb:Str ->Option Value} {A:Around} {E:Value ->Shared ->Prop} {s:Shared} {ms:List Addr} {own:Str ->Option Addr} {sc:Scope} {env:Env} {ρ:Rho}
theorem Vo {o:PySem.Expr} {name:Str} {m:Sem Value} (h:JO o=true):attributeBase o name env m=m:=by
 cases o<;>first|rfl|cases h
theorem Jt (S:SoundE L n) {f:Value} {pos:Pos} {es:List PySem.Expr} {ds:List D} {Q:Args ->Shared ->Prop} (h:evL L sc ρ es=some ds) (hA:AOk n A) (C:Cx w mg mb s ms) (K:EnvOk w s ms own sc env ρ)
  (hQ: ∀vs s',Kp s s' ->RepL w s' ms vs ds ->Q ⟨vs,[]⟩ s'):wpAny (model pw w) A (evalArgs f true (backTo pos (starEach es env)) []) Q E s:=by
 cases es with
 |nil=>
  cases h
  exact PySem.evalArgs_none (hQ [] s (Kp.rfl' s) .nil)
 |cons e es=>
  refine Y5 ?_ (Ji S h pos).2 (JD S h hA C K hQ)
  refine bnd h λd h1 _=>?_
  rw[J3 (Je S h1)]
  exact List.cons_ne_nil _ _
theorem J1O (S:SoundE L n) {o:PySem.Expr} {name:Str} {es:List PySem.Expr} {ds:List D} {apos pos:Pos} {T id:String} {Q:Value ->Shared ->Prop} (hs:JO o=true) (hline:(apos.endLine==pos.line)=true) (hl:es.length<=4)
  (h:evL L sc ρ es=some ds) (pa:PlainAttrs T) (slot:PySem.Slot T name id) (hty:typeOf (.builtin id)=pure (.type "method_descriptor")) (hA:AOk n A) (C:Cx w mg mb s ms) (K:EnvOk w s ms own sc env ρ)
  (hb:wpAny (model pw w) A (eval o env) (λov s₁=>Kp s s₁/\ s₁.TypeIs ov T/\ (∀a,ov= .ref a -> ∃ob,s₁.heap.get? a=some ob/\ ob.dict=none)/\ ∀vs s₂,Kp s₁ s₂ ->RepL w s₂ ms vs ds ->wpAny (model pw w) A (call (.builtin id) (ov::vs)) Q E s₂) E s):
  wpAny (model pw w) A (eval (.Call (.Attribute o name apos) es [] pos) env) Q E s:=by
 refine wpAny_Call_method (Vo hs) (Zx S h hl) hline pa slot hty (wpAny_mono hb (λov s1 h1=>?_) λ_ _ x=>x)
 refine o03 h1 λk1 hT hd hc=>?_;clear h1
 exact⟨hT,hd,Calls.callWith_builtin (Ji S h pos).2 (Jt S h hA (C.keeps k1) (K.keeps k1) λvs s2 k2 rs=>hc vs s2 k2 rs)⟩
noncomputable def MethOk (w:World) (mg mb:Str ->Option Value) (A:Around) (E:Value ->Shared ->Prop) (ms:List Addr) (name:Str) (g:Str ->List D ->Option D):Prop:=
 ∃id,PySem.Slot "str" name id/\ typeOf (.builtin id)=pure (.type "method_descriptor")/\ ∀{x:Str} {t:Tok} {as:List D} {vs:List Value} {d:D} {s:Shared} {Q:Value ->Shared ->Prop},g x as=some d ->Cx w mg mb s ms ->RepL w s ms vs as ->
  (∀v s',Kp s s' ->Rep w s' ms v d ->Q v s') ->wpAny (model pw w) A (call (.builtin id) (.str x t::vs)) Q E s
theorem Jb7: ∀p∈strFn,MethOk w mg mb A E ms p.1 p.2:=
 List.forall_mem_cons.mpr ⟨⟨_,F.slot_str_index,F.type_str_index,λh _ rs hQ=>J45 h rs hQ⟩,
 List.forall_mem_cons.mpr ⟨⟨_,F.slot_str_count,F.type_str_count,λh _ rs hQ=>J3O h rs hQ⟩,
 List.forall_mem_cons.mpr ⟨⟨_,F.slot_str_join,F.type_str_join,λh C rs hQ=>J6m h C rs hQ⟩,
 List.forall_mem_cons.mpr ⟨⟨_,F.slot_str_lower,F.type_str_lower,λh C rs hQ=>J4d h C rs hQ⟩,λ_ m=>absurd m List.not_mem_nil⟩⟩⟩⟩
theorem J6v (S:SoundE L n) {o:PySem.Expr} {name:Str} {es:List PySem.Expr} {d r:D} {ds:List D} {apos pos:Pos} {Q:Value ->Shared ->Prop} (hs:JO o=true) (hline:(apos.endLine==pos.line)=true) (hl:es.length<=4)
  (h1:J12 L sc ρ o=some d) (h2:evL L sc ρ es=some ds) (h3:JdL d name ds=some r) (hA:AOk n A) (C:Cx w mg mb s ms) (K:EnvOk w s ms own sc env ρ)
  (hQ: ∀v s',Kp s s' ->Rep w s' ms v r ->Q v s'):wpAny (model pw w) A (eval (.Call (.Attribute o name apos) es [] pos) env) Q E s:=by
 cases d with
 |str x=>
  refine bnd h3 λg h4 h5=>o12 (Jb7 (w:=w) (mg:=mg) (mb:=mb) (A:=A) (E:=E) (ms:=ms) (name,g) (JT h4)) λid slot hty hc=>J1O S hs hline hl h2 F.plainAttrs_str slot hty hA C K (JA S h1 hA C K λv s1 k1 r1=>?_)
  refine o11 r1.str' λt q _=>?_
  rw[q]
  exact⟨k1,typeIs_str _ _ _,λ_ h=>Value.noConfusion h,λvs s2 k2 rs=>hc h5 ((C.keeps k1).keeps k2) rs λv s3 k3 r3=>hQ v s3 ((k1.tr k2).tr k3) r3⟩
 |dct l=>
  refine J9 h3 λhx h3=>?_
  rw[eq_of_beq hx]
  refine J1O (T:="dict") (id:="dict.get") S hs hline hl h2 F.plainAttrs_dict F.slot_dict_get F.type_dict_get hA C K (JA S h1 hA C K λv s1 k1 r1=>?_)
  refine o22 r1.dct' λa kvs q1 ha la=>?_
  rw[q1];rw[q1]at r1
  exact⟨k1,ha.1.typeIs,ha.1.mapOf.noDict,λvs s2 k2 rs=>J7Y h3 (r1.kp k2) rs λv s3 k3 r3=>hQ v s3 ((k1.tr k2).tr k3) r3⟩
 |_=>exact nn h3
@[elab_as_elim] theorem Jdc {P:PySem.Expr ->Prop} {e:PySem.Expr} {d:D} (h:KS L sc ρ e=some d) (k1: ∀x k p,d= .str x ->P (.Constant (.str x) k p))
  (k2: ∀f p a q x,isGlob sc f=true ->f=nm "chr" ->L.ev sc ρ a=some x ->J4 (nm "chr") [x]=some d ->P (.Call (.Name f p) [a] [] q)):P e:=by
 cases e with
 |Constant c k p=>cases c with
  |str x=>exact k1 x k p (Option.some.inj h).symm
  |_=>exact nn h
 |Call f as ks q=>cases f with
  |Name f p=>cases as with
   |nil=>exact nn h
   |cons a as=>cases as with
    |cons=>exact nn h
    |nil=>cases ks with
     |cons=>exact nn h
     |nil=>exact J9 h λhc h=>o01 (Bool.and_eq_true_iff.mp hc) λh1 h2=>bnd h λx h3 h4=>k2 f p a q x h1 (eq_of_beq h2) h3 h4
  |_=>exact nn h
 |_=>exact nn h
theorem VA (S:SoundE L n) {e:PySem.Expr} {d:D} (h:KS L sc ρ e=some d) (hA:AOk n A) (C:Cx w mg mb s ms) (K:EnvOk w s ms own sc env ρ) {Q:Value ->Shared ->Prop}
  (hQ: ∀x t s',Kp s s' ->d= .str x ->s.toks<=t ->t≠0 ->t<s'.toks ->Q (.str x t) s'):wpAny (model pw w) A (eval e env) Q E s/\ ∀x p,e≠ .Starred x p:=
 Jdc h (λx k p hd=>⟨wpAny_Constant_str (hQ _ _ _ (Kp.tok1 s) hd (Nat.le_refl _) C.pos (Nat.lt_succ_self _)),λ_ _ h=>PySem.Expr.noConfusion h⟩)
  λf p a q x h1 hx h3 h4=>⟨YN S h1 (fv:= .builtin "chr") (by rw[hx];decide+kernel) (List.cons_ne_nil _ _) (Vu h3) hA C K (λ_ h=>Value.noConfusion h) λvs s1 k1 rs=>o11 (Vd rs) λv q1 r=>q1▸
   J18 h4 (C.keeps k1) r λx t e ht hne=>hQ x t _ (k1.tr ⟨Keeps.tok s1 _,Nat.le_succ_of_le ht⟩) e (Nat.le_trans k1.t ht) hne (Nat.lt_succ_self _),λ_ _ h=>PySem.Expr.noConfusion h⟩
theorem J6I (S:SoundE L n) {o e1 e2:PySem.Expr} {x:Str} {y z r:D} {apos pos:Pos} {Q:Value ->Shared ->Prop} (hs:JO o=true) (hline:(apos.endLine==pos.line)=true)
  (h1:L.ev sc ρ o=some (.str x)) (h2:L.ev sc ρ e1=some y) (h3:KS L sc ρ e2=some z) (h4:ZE x [y,z]=some r) (hA:AOk n A) (C:Cx w mg mb s ms) (K:EnvOk w s ms own sc env ρ)
  (hQ: ∀v s',Kp s s' ->Rep w s' ms v r ->Q v s'):wpAny (model pw w) A (eval (.Call (.Attribute o (nm "replace") apos) [e1,e2] [] pos) env) Q E s:=by
 have tr:backTo pos (starEach [e1,e2] env)=[(false,eval e1 env),(false,eval e2 env)]:=by rw[J3 (Je S h2),J3 (VA (E:=E) (Q:=λ_ _=>True) S h3 hA C K λ_ _ _ _ _ _ _ _=>trivial).2];rfl
 refine wpAny_Call_method (T:="str") (id:="str.replace") (Vo hs) (by rw[tr];rfl) hline F.plainAttrs_str F.slot_str_replace F.type_str_replace (S.ev h1 hA C K λv s1 k1 r1=>?_)
 refine r1.sE λt ht hb=>⟨typeIs_str _ _ _,λ_ h=>Value.noConfusion h,Calls.callWith_builtin (by rw[tr];rfl) ?_⟩
 rw[tr]
 refine Calls.evalArgs_plain (Calls.spliced_cons (S.ev h2 hA (C.keeps k1) (K.keeps k1) λv2 s2 k2 r2=>Calls.spliced_cons ((VA S h3 hA ((C.keeps k1).keeps k2) ((K.keeps k1).keeps k2) λzz v s3 k3 e hv hv0 hvb=>Calls.spliced_nil ?_).1)))
 refine bnd h4 λp h5 h6=>bnd h6 λy' h7 _=>?_
 have ey:y= .str y':=(congrArg Prod.fst (Option.some.inj h5)).trans (JbT h7)
 rw[ey]at r2 h4
 rw[e]at h4
 clear h5 h6 h7 h1 h2 h3 K e ey tr
 exact r2.sE λu hu hub=>J0T h4 (((C.keeps k1).keeps k2).keeps k3) ht (Nat.lt_of_lt_of_le hb (Nat.le_trans k2.t k3.t)) hu hv0 (λq=>absurd hub (Nat.not_lt.mpr (q▸hv))) λv4 s4 k4 r4=>hQ v4 s4 (((k1.tr k2).tr k3).tr k4) r4
theorem J4q {vs:List Value} {ds:List D} (h:vs.length=ds.length) (hr: ∀(i:Nat) (v:Value) (d:D),vs[i]?=some v ->ds[i]?=some d ->Rep w s ms v d):RepL w s ms vs ds:=by
 induction vs generalizing ds with
 |nil=>cases ds with
  |nil=>exact .nil
  |cons=>exact Nat.noConfusion h
 |cons v vs ih=>cases ds with
  |nil=>exact Nat.noConfusion h
  |cons d ds=>exact .cons (hr 0 v d rfl rfl) (ih (Nat.succ.inj h) λi=>hr (i+1))
theorem Vc (S:SoundE L n) {f g:Str} {a b:PySem.Expr} {x y:Int} {l:List D} {p p' pos pos':Pos} {Q:Value ->Shared ->Prop} (hf:isGlob sc f=true) (hfl:f=nm "list") (hg:isGlob sc g=true) (hgr:g=nm "range")
  (h1:L.ev sc ρ a=some (.int x)) (h2:L.ev sc ρ b=some (.int y)) (h3:Jn x y 1=some l) (hlen:l.length<=1000000) (hA:AOk n A) (C:Cx w mg mb s ms) (K:EnvOk w s ms own sc env ρ)
  (hQ: ∀v s',Kp s s' ->Rep w s' ms v (.lst l) ->Q v s'):wpAny (model pw w) A (eval (.Call (.Name f p) [.Call (.Name g p') [a,b] [] pos'] [] pos) env) Q E s:=by
 subst hfl
 show wpAny _ A (do callWith pos (<-eval (.Name (nm "list") p) env) [] [(false,eval (.Call (.Name g p') [a,b] [] pos') env)] []) Q E s
 refine wpAny_bind (J0K C K.fit hf (v:= .type "list") (by decide+kernel) ?_)
 refine JX (λ_ h=>Value.noConfusion h) rfl (Calls.evalArgs_plain (Calls.spliced_cons (JV S hg hgr (List.cons_ne_nil _ _) (Jax h1 h2) h3 (.inr (.inl ⟨rfl,rfl⟩)) hA C K λr s1 t u v k1 hr=>Calls.spliced_nil ?_)))
 have h4:=h3
 unfold Jn at h4
 split at h4
 ·rename_i hc
  simp only[Bool.and_eq_true,decide_eq_true_eq]at hc
  clear h3;cases h4
  have C1:=C.keeps k1
  refine upK (P:=λv s'=>Keeps s1 s' ->True/\ s1.toks<=s'.toks ->Rep w s' ms v (.lst ((List.range (Builtin.Range.rangeSize x y 1).toNat).map λ(k:Nat)=>D.int (x+k*1)))) ?_ λv s2 k2 r2=>hQ v s2 (k1.tr k2) (r2 k2.k ⟨trivial,k2.t⟩)
  refine call_list_range (n:=(Builtin.Range.rangeSize x y 1).toNat) hA.handled hr hc.1.2 (by lia) ?_ λh' tk acc' c' hk hS' hacc=>⟨Keeps.mk' hk,λ_ ht=>?_⟩
  ·simp only[List.length_map,List.length_range]at hlen
   lia
  ·refine .lst (vs:=acc'.toList) ⟨c',by simpa using hS'⟩ C1.fresh (J4q (by simp[hacc.1]) λi v d hv hd=>?_)
   refine o10 (hacc.2 i v (by simpa using hv)) λt' q1=>?_;subst q1
   rw[List.getElem?_map,Option.map_eq_some_iff]at hd
   refine o11 hd λk hk2 q2=>?_;clear hd;subst q2
   refine o10 (List.getElem?_eq_some_iff.mp hk2) λ_ q3=>?_;clear hk2;subst q3
   rw[List.getElem_range]
   exact .int _ _
 ·cases h4
end
theorem J5O (n:Nat):(∀{sc:Scope} {t:PySem.Expr} {d:D} {ρ ρ':Rho},bindT n sc t d ρ=some ρ' -> ∀x,x∉tn t ->ρ'.lookup x=ρ.lookup x)/\
  ∀{sc:Scope} {ts:List PySem.Expr} {ds:List D} {ρ ρ':Rho},bindTs n sc ts ds ρ=some ρ' -> ∀x,x∉tns ts ->ρ'.lookup x=ρ.lookup x:=by
 induction n with
 |zero=>exact⟨λh=>nn h,λh=>nn h⟩
 |succ n ih=>
  refine⟨λ{sc t d ρ ρ'} h x hx=>?_,λ{sc ts ds ρ ρ'} h x hx=>?_⟩
  ·cases t with
   |Name y p=>exact J9 h λ_ h=>by rw[<-Option.some.inj h,JF,if_neg λe=>hx (by rw[e];exact List.mem_singleton.mpr rfl)]
   |Tuple ts c p=>cases d with
    |tup ds=>exact J9 h λ_ h=>ih.2 h x hx
    |_=>exact nn h
   |_=>exact nn h
  ·cases ts with
   |nil=>exact Option.some.inj h▸rfl
   |cons t ts=>cases ds with
    |nil=>exact Option.some.inj h▸rfl
    |cons d ds=>exact bnd h λρ1 h1 h2=>(ih.2 h2 x λm=>hx (List.mem_append.mpr (.inr m))).trans (ih.1 h1 x λm=>hx (List.mem_append.mpr (.inl m)))
theorem J3B (n:Nat) {sc:Scope} {t:PySem.Expr} {d:D} {ρ ρ':Rho} (h:bindT n sc t d ρ=some ρ'): ∀x,x∉tn t ->ρ'.lookup x=ρ.lookup x:=(J5O n).1 h
noncomputable def Ext (ρ ρ':Rho):Prop:= ∀x u,ρ.lookup x=some u ->ρ'.lookup x=some u
theorem Ext.rfl' (ρ:Rho):Ext ρ ρ:=λ_ _ h=>h
theorem J7m {n:Nat} {sc:Scope} {t:PySem.Expr} {d:D} {ρ ρ':Rho} (h:bindT n sc t d ρ=some ρ') (hf:freshT t ρ=true):Ext ρ ρ':=λx u hx=>by
 rw[J3B n h x λhm=>?_]
 ·exact hx
 ·have:=List.all_eq_true.mp hf x hm
  rw[hx]at this
  cases this
section
variable {L:Lv} {n:Nat} {w:World} {mg mb:Str ->Option Value} {A:Around} {E:Value ->Shared ->Prop} {s:Shared} {ms mine:List Addr} {own:Str ->Option Addr} {sc:Scope} {env:Env} {ρ:Rho}
theorem FrOk.less {ρ':Rho} (F:FrOk w s ms mine own sc env ρ') (h:Ext ρ ρ'):FrOk w s ms mine own sc env ρ:=
 ⟨⟨F.en.fit,λx u e hv=>F.en.var x u (h x u e) hv⟩,F.sub,F.locNs,F.locMine,F.cellMine,F.cellLoc,F.cellInj,F.ownMine,F.ownInj⟩
noncomputable abbrev noOwn:Str ->Option Addr:=λ_=>none
theorem J3f: ∀(ifs:List PySem.Expr) {s:Shared} {Q:Bool ->Shared ->Prop},Q false s ->
  wpAny (model pw w) A (forIn ifs false λc r=>if r=true then do let ok<-isTrue c env (eval c env);pure (ForInStep.yield ok)else pure (ForInStep.yield r)) Q E s
 |[],_,_,h=>wpAny_pure h
 |c::ifs,s,Q,h=>by
  rw[List.forIn_cons]
  simp only[Bool.false_eq_true,if_false]
  exact wpAny_bind (wpAny_pure (J3f ifs h))
theorem Kb (S:SoundE L n): ∀(ifs:List PySem.Expr) {b:Bool} {s:Shared} {Q:Bool ->Shared ->Prop},J5M L sc ρ ifs=some b ->AOk n A ->Cx w mg mb s ms ->EnvOk w s ms own sc env ρ ->(∀s',Kp s s' ->Q b s') ->
  wpAny (model pw w) A (forIn ifs true λc r=>if r=true then do let ok<-isTrue c env (eval c env);pure (ForInStep.yield ok)else pure (ForInStep.yield r)) Q E s
 |[],b,s,Q,h,_,_,_,hQ=>by
  cases h
  exact wpAny_pure (hQ s (Kp.rfl' s))
 |c::ifs,b,s,Q,h,hA,C,K,hQ=>by
  refine bnd h λt h1 h2=>?_
  rw[List.forIn_cons]
  simp only[if_true]
  refine wpAny_bind (wpAny_bind (Kd S h1 hA C K λs1 k1=>wpAny_pure ?_))
  cases t with
  |true=>exact Kb S ifs h2 hA (C.keeps k1) (K.keeps k1) λs2 k2=>hQ s2 (k1.tr k2)
  |false=>
   clear h;cases h2
   exact J3f ifs (hQ s1 k1)
theorem RepL.weaken {ms':List Addr} {vs:List Value} {ds:List D} (x:RepL w s ms vs ds) (h: ∀b∈ms',b∈ms):RepL w s ms' vs ds:=x.past ⟨Nat.le_refl _,λ_ _ e n=>⟨e,λm=>n (h _ m)⟩⟩
theorem Rep.weaken {ms':List Addr} {v:Value} {d:D} (x:Rep w s ms v d) (h: ∀b∈ms',b∈ms):Rep w s ms' v d:=x.past ⟨Nat.le_refl _,λ_ _ e n=>⟨e,λm=>n (h _ m)⟩⟩
theorem RepK.weaken {ms':List Addr} {vs:List (Key×Value)} {ds:List (Key×D)} (x:RepK w s ms vs ds) (h: ∀b∈ms',b∈ms):RepK w s ms' vs ds:=x.past ⟨Nat.le_refl _,λ_ _ e n=>⟨e,λm=>n (h _ m)⟩⟩
end
structure TurnEq (e:PySem.Expr) (gens:List Comprehension) (acc:Value) (env:Env) (emit:Sem Unit):Prop where
 cl:clausesOf e=gens
 den: ∀(prog:Program) (w:World) depth it,(model prog w).den (.compLoop e depth it acc env)=((compTurn e depth it acc env).onRaise λx=>do noteFrame x env;theTreesLotGoes x)
 den0: ∀(prog:Program) (w:World) depth it,(model prog w).den (.compStart e depth it acc env)=((compStart e depth it acc env).onRaise λx=>do noteFrame x env;standAt theWindowsPlace)
 und: ∀(A:Around) depth it,A.under (.compLoop e depth it acc env)=A
 und0: ∀(A:Around) depth it,A.under (.compStart e depth it acc env)=A
 last: ∀depth it t i ifs,gens[depth]?=some ⟨t,i,ifs,0⟩ ->gens[depth+1]?=none ->compTurn e depth it acc env=(do
   standAt i.pos
   match<-pyNext it with
   |none=>pure (.done .next)
   |some v=>
    letOwnedTupleGo t it v
    assign t env v
    let mut ok:=true
    for c in ifs do
     if ok then ok<-isTrue c env (eval c env)
    if ok then emit
    again (.compLoop e depth it acc env))
 more: ∀depth it t i ifs t' i' ifs',gens[depth]?=some ⟨t,i,ifs,0⟩ ->gens[depth+1]?=some ⟨t',i',ifs',0⟩ ->compTurn e depth it acc env=(do
   standAt i.pos
   match<-pyNext it with
   |none=>pure (.done .next)
   |some v=>
    letOwnedTupleGo t it v
    assign t env v
    let mut ok:=true
    for c in ifs do
     if ok then ok<-isTrue c env (eval c env)
    if ok then
     let x<-eval i' env
     standAt i'.pos
     let x<-foldedSetIterable i' env x
     let _<-runOwn (.compStart e (depth+1) (<-holding [x] (pyIter x)) acc env) env
    again (.compLoop e depth it acc env))
theorem J9y (elt:PySem.Expr) (gens:List Comprehension) (csc:Scope) (pos:Pos) (acc:Value) (env:Env):
  TurnEq (.ListComp elt gens csc pos) gens acc env (do let _<-call (.builtin "list.append") [acc,<-eval elt env]) where
 cl:=rfl
 den:=λ_ _ _ _=>rfl
 den0:=λ_ _ _ _=>rfl
 und:=λ_ _ _=>rfl
 und0:=λ_ _ _=>rfl
 last:=λdepth it t i ifs h h'=>by
  unfold compTurn
  dsimp only
  rw[h]
  dsimp only
  rw[h']
  rfl
 more:=λdepth it t i ifs t' i' ifs' h h'=>by
  unfold compTurn
  dsimp only
  rw[h]
  dsimp only
  rw[h']
  rfl
theorem J9x (kx vx:PySem.Expr) (gens:List Comprehension) (csc:Scope) (pos:Pos) (d:Addr) (env:Env):
  TurnEq (.DictComp kx vx gens csc pos) gens (.ref d) env (do
   let kv<-eval kx env
   let vv<-holding [kv] (eval vx env)
   standAt {kx.pos with endLine:=vx.pos.endLine,endCol:=vx.pos.endCol}
   holding [kv,vv] (dictSet d kv vv)) where
 cl:=rfl
 den:=λ_ _ _ _=>rfl
 den0:=λ_ _ _ _=>rfl
 und:=λ_ _ _=>rfl
 und0:=λ_ _ _=>rfl
 last:=λdepth it t i ifs h h'=>by
  unfold compTurn
  dsimp only
  rw[h]
  dsimp only
  rw[h']
  rfl
 more:=λdepth it t i ifs t' i' ifs' h h'=>by
  unfold compTurn
  dsimp only
  rw[h]
  dsimp only
  rw[h']
  rfl
section
variable {w:World} {A:Around} {R:Result ->Shared ->Prop} {s:Shared}
theorem KO {e:PySem.Expr} {gens:List Comprehension} {acc:Value} {env:Env} {emit:Sem Unit} (T:TurnEq e gens acc env emit) {depth:Nat} {it:Value} {t i:PySem.Expr} {ifs:List PySem.Expr} (hg:gens[depth]?=some ⟨t,i,ifs,0⟩)
  (h0:codeAny (model pw w) A (.compLoop e depth it acc env) R s)
  (h:wpAny (model pw w) A (pyIter it) (λit' s'=>codeAny (model pw w) A (.compLoop e depth it' acc env) R s') (notedBy (model pw w) A env λx s'=>R (.error x) s') s):
  codeAny (model pw w) A (.compStart e depth it acc env) R s:=by
 refine codeAny_of_tree ?_
 rw[T.den0,T.und0]
 refine wpAny_notedAt ?_
 unfold compStart
 rw[T.cl,hg]
 show wpAny _ _ (ask>>=_) _ _ s
 refine wpAny_bind (wpAny_askSetting (wpAny_ite ?_))
 split
 ·first
   |exact wpAny_bind (wpAny_pure (wpAny_pure (And.intro rfl h0)))
   |exact wpAny_pure (And.intro rfl h0)
 ·first
   |exact wpAny_bind (wpAny_rule (wpAny_bind (wpAny_standAt (wpAny_bind (wpAny_mono h (λit' s' h'=>wpAny_pure (And.intro rfl h')) λ_ _ x=>x)))))
   |(refine wpAny_bind (wpAny_rule ?_);show wpAny _ _ (standAt i.pos>>=_) _ _ s;exact wpAny_bind (wpAny_standAt (wpAny_bind (wpAny_mono h (λit' s' h'=>wpAny_pure (And.intro rfl h')) λ_ _ x=>x))))
end
structure Kl (wr tu:List Addr) (s s':Shared):Prop where
 same: ∃h' tk,s'={s with heap:=h',toks:=tk}
 t:s.toks<=s'.toks
 h: ∀b o,b∉wr ->b∉tu ->s.heap.get? b=some o ->s'.heap.get? b=some o
 al: ∀b o,b∉wr ->s.heap.get? b=some o -> ∃o',s'.heap.get? b=some o'
section
variable {wr tu tu':List Addr} {s s' s'':Shared}
theorem Kl.tr (x:Kl wr tu s s') (y:Kl wr tu s' s''):Kl wr tu s s'':=by
 obtain⟨⟨h1,t1,rfl⟩,a,b,c⟩:=x
 obtain⟨⟨h2,t2,rfl⟩,a',b',c'⟩:=y
 refine⟨⟨_,_,rfl⟩,Nat.le_trans a a',λz o n n' e=>b' z o n n' (b z o n n' e),λz o n e=>?_⟩
 refine o10 (c z o n e) λo' e'=>?_
 exact c' z o' n e'
theorem Kl.more {wr':List Addr} (x:Kl wr tu s s') (h: ∀b∈wr,b∈wr') (h': ∀b∈tu,b∈tu'):Kl wr' tu' s s':=⟨x.same,x.t,λb o n n' e=>x.h b o (λm=>n (h b m)) (λm=>n' (h' b m)) e,λb o n e=>x.al b o (λm=>n (h b m)) e⟩
theorem Kp.toKl (k:Kp s s') (wr tu:List Addr):Kl wr tu s s':=by
 obtain⟨⟨h',tk,rfl,hk⟩,t⟩:=k
 exact⟨⟨_,_,rfl⟩,t,λb o _ _ e=>hk b o e,λb o _ e=>⟨o,hk b o e⟩⟩
theorem Kw.toKl (k:Kw wr s s') (tu:List Addr):Kl wr tu s s':=⟨k.same,k.t,λb o n _ e=>k.h b o n e,λb o n e=>⟨o,k.h b o n e⟩⟩
theorem Kw.toKl' (k:Kw wr s s') (hl: ∀b∈wr,∃o,s'.heap.get? b=some o) (h: ∀b∈wr,b∈tu):Kl [] tu s s':=⟨k.same,k.t,λb o _ n e=>k.h b o (λm=>n (h b m)) e,λb o _ e=>by
 by_cases hb:b∈wr
 ·exact hl b hb
 ·exact⟨o,k.h b o hb e⟩⟩
theorem Mv.toKl {ms mine:List Addr} (k:Mv s ms mine s' ms mine) (h: ∀b∈mine,b∈tu):Kl [] tu s s':=⟨k.same,k.t,λb o _ n e=>k.keep b o e (λm=>n (h b m)),λb o _ e=>k.alive b o e⟩
theorem Kl.past {ms:List Addr} (x:Kl wr tu s s') (h: ∀b∈wr,b∈ms) (h': ∀b∈tu,b∈ms):Past s ms s' ms:=⟨x.t,λb o e n=>⟨x.h b o (λm=>n (h b m)) (λm=>n (h' b m)) e,n⟩⟩
theorem Kl.cx {w:World} {mg mb:Str ->Option Value} {ms:List Addr} (x:Kl [] tu s s') (C:Cx w mg mb s ms) (h: ∀b∈tu,b∈ms):Cx w mg mb s' ms:=by
 refine⟨?_,λb hb=>o10 (C.live b hb) λo e=>x.al b o (by simp) e,C.hi,Nat.le_trans C.tk x.t,o10 C.last λo e=>x.al _ o (by simp) e⟩
 refine o12 C.top λhT G lt kk=>?_
 exact⟨hT,G,lt,λb o e=>x.h b o (by simp) (λm=>absurd (lt b o e) (Nat.not_lt.mpr (C.hi b (h b m)))) (kk b o e)⟩
end
structure AccOk {α:Type} (D:Addr) (Acc:List Addr ->Shared ->List α ->Prop):Prop where
 frame: ∀M s s' xs,Acc M s xs ->s.toks<=s'.toks ->(∀b o,(b=D∨b∉M) ->s.heap.get? b=some o ->s'.heap.get? b=some o) ->Acc M s' xs
 grow: ∀M wr s xs,Acc M s xs ->(∀b∈wr,s.heap.get? b=none) ->Acc (wr++M) s xs
 less: ∀M wr s xs,Acc (wr++M) s xs ->Acc M s xs
 live: ∀M s xs,Acc M s xs -> ∃o,s.heap.get? D=some o
noncomputable def EmitOk {α:Type} (w:World) (mg mb:Str ->Option Value) (A:Around) (csc:Scope) (cenv:Env) (D:Addr) (Acc:List Addr ->Shared ->List α ->Prop) (emitD:Rho ->Option (List α)) (emit:Sem Unit):Prop:=
 ∀(s:Shared) (M:List Addr) (ρ:Rho) (xs ys:List α) (E:Value ->Shared ->Prop) (Q:Unit ->Shared ->Prop),emitD ρ=some ys ->Cx w mg mb s M ->EnvOk w s M noOwn csc cenv ρ ->D∈M ->xs.length+ys.length<=1000000 ->Acc M s xs ->
  (∀s',Kw [D] s s' ->Acc M s' (xs++ys) ->Q () s') ->wpAny (model pw w) A emit Q E s
section
variable {α:Type} {L:Lv} {n:Nat} {w:World} {mg mb:Str ->Option Value} {A:Around} {csc:Scope} {cenv:Env} {D:Addr} {Acc:List Addr ->Shared ->List α ->Prop} {emitD:Rho ->Option (List α)} {emit:Sem Unit} {e:PySem.Expr} {gens:List Comprehension}
theorem FrOk.weaken {s:Shared} {ms ms' mine:List Addr} {own:Str ->Option Addr} {sc:Scope} {env:Env} {ρ:Rho} (F:FrOk w s ms mine own sc env ρ) (h: ∀b∈ms',b∈ms) (hm: ∀b∈mine,b∈ms'):FrOk w s ms' mine own sc env ρ:=
 F.move ⟨Nat.le_refl _,λ_ _ e n=>⟨e,λm=>n (h _ m)⟩⟩ hm λ_ _ _ e=>e
theorem FrOk.grow {s:Shared} {ms wr mine:List Addr} {own:Str ->Option Addr} {sc:Scope} {env:Env} {ρ:Rho} (F:FrOk w s ms mine own sc env ρ) (h: ∀b∈wr,s.heap.get? b=none):FrOk w s (wr++ms) mine own sc env ρ:=
 F.move ⟨Nat.le_refl _,λb o e n=>⟨e,λm=>by
  rcases List.mem_append.mp m with m|m
  ·rw[h b m]at e;cases e
  ·exact n m⟩⟩ (λb hb=>List.mem_append.mpr (.inr (F.sub b hb))) λ_ _ _ e=>e
theorem Jd9 {s:Shared} {ms mine:List Addr} {sc:Scope} {env:Env} {ρ:Rho} (F:FrOk w s ms mine noOwn sc env ρ) (hc: ∀x c,env.cells.lookup x=some c -> ∃o,s.heap.get? c=some o) {b:Addr} (h:Fa noOwn env b): ∃o,s.heap.get? b=some o:=by
 rcases h with rfl|⟨x,h⟩|⟨x,h⟩
 ·exact let⟨m,o,_,_,e,_⟩:=F.locNs;⟨o,e⟩
 ·exact hc x b h
 ·cases h
structure Mid (w:World) (mg mb:Str ->Option Value) (Acc:List Addr ->Shared ->List α ->Prop) (D:Addr) (csc:Scope) (cenv:Env) (mine:List Addr) (M:List Addr) (ρ:Rho) (xs:List α) (s:Shared):Prop where
 C:Cx w mg mb s M
 F:FrOk w s M mine noOwn csc cenv ρ
 Dm:D∈M
 acc:Acc M s xs
 cells: ∀x c,cenv.cells.lookup x=some c -> ∃o,s.heap.get? c=some o
theorem Mid.kl {s s':Shared} {mine M:List Addr} {ρ:Rho} {xs:List α} (AC:AccOk D Acc) (m:Mid w mg mb Acc D csc cenv mine M ρ xs s) {tu:List Addr} (k:Kl [] tu s s') (hm: ∀b∈tu,b∈M) (hD:D∉tu) (hf: ∀b∈tu,¬Fa noOwn cenv b):Mid w mg mb Acc D csc cenv mine M ρ xs s' where
 C:=k.cx m.C hm
 F:=m.F.move (k.past (by simp) hm) m.F.sub λb hb o e=>k.h b o (by simp) (λq=>hf b q hb) e
 Dm:=m.Dm
 acc:=AC.frame M s s' xs m.acc k.t λb o hb e=>k.h b o (by simp) (λq=>by
  rcases hb with rfl|hb
  ·exact hD q
  ·exact hb (hm b q)) e
 cells:=λx c h=>o10 (m.cells x c h) λo e=>k.al c o (by simp) e
end
section
variable {α:Type} {L:Lv} {n:Nat} {w:World} {mg mb:Str ->Option Value} {A:Around} {csc:Scope} {cenv:Env} {D:Addr} {Acc:List Addr ->Shared ->List α ->Prop} {emitD:Rho ->Option (List α)} {emit:Sem Unit} {e:PySem.Expr} {gens:List Comprehension}
 {mine M wr:List Addr} {I:Addr} {pairs:Bool} {ds:List Internal.D} {St:Nat ->Shared ->Prop} {ρ ρ':Rho} {xs:List α} {s:Shared}
theorem Kf (S:SoundE L n) (hA:AOk n A) (AC:AccOk D Acc) (hDn:D∉mine) {t:PySem.Expr} {ifs:List PySem.Expr} {p:Pos} {d:Internal.D} {b:Bool} {i:Nat} {tail:Bool ->Sem Fin} {Post:Fin ->Shared ->Prop} {E:Value ->Shared ->Prop}
  (W:Wk w A M I wr pairs ds St) (hst:St i s) (hd:ds[i]?=some d) (hok:okT pairs t=true) (hb:bindT 9 csc t d ρ=some ρ') (ht:J5M L csc ρ' ifs=some b) (m:Mid w mg mb Acc D csc cenv mine M ρ xs s)
  (hwr: ∀b∈wr,¬Fa noOwn cenv b/\ b∉mine/\ b≠D)
  (h: ∀s',Kl [] (mine++wr) s s' ->St (i+1) s' ->Mid w mg mb Acc D csc cenv mine M ρ' xs s' ->wpAny (model pw w) A (tail b) Post E s'):
  wpAny (model pw w) A (standAt p>>=λ_=>pyNext (.ref I)>>=λr=>match r with
   |none=>pure (.done .next)
   |some v=>letOwnedTupleGo t (.ref I) v>>=λ_=>assign t cenv v>>=λ_=>(forIn ifs true λc r=>if r=true then do let ok<-isTrue c cenv (eval c cenv);pure (ForInStep.yield ok)else pure (ForInStep.yield r))>>=tail) Post E s:=by
 have key: ∀v s₂,Kw wr s s₂ ->St (i+1) s₂ ->ItemIs w s₂ M pairs v d ->wpAny (model pw w) A (assign t cenv v>>=λ_=>(forIn ifs true λc r=>if r=true then do let ok<-isTrue c cenv (eval c cenv);pure (ForInStep.yield ok)else pure (ForInStep.yield r))>>=tail) Post E s₂:=λv s₂ k2 st2 it2=>by
  have l2:=W.live _ _ st2
  have kl2:Kl [] wr s s₂:=k2.toKl' l2 (λb hb=>hb)
  have m2:Mid w mg mb Acc D csc cenv mine M ρ xs s₂:=m.kl AC kl2 W.sub (λhm=>(hwr D hm).2.2 rfl) λb hb=>(hwr b hb).1
  refine wpAny_bind (Vn hb hA.handled m2.F m2.C.live it2 hok λs₃ k3 F3=>?_)
  have kl3:Kl [] mine s₂ s₃:=k3.toKl λb hb=>hb
  have st3:St (i+1) s₃:=W.frame _ _ _ st2 k3.t λb o hb e=>k3.keep b o e (λhm=>by
   rcases hb with hb|hb
   ·exact(hwr b hb).2.1 hm
   ·exact hb (m2.F.sub b hm))
  have m3:Mid w mg mb Acc D csc cenv mine M ρ' xs s₃:=⟨kl3.cx m2.C m2.F.sub,F3,m2.Dm,AC.frame M _ _ xs m2.acc k3.t λb o hb e=>k3.keep b o e (λhm=>by
   rcases hb with rfl|hb
   ·exact hDn hm
   ·exact hb (m2.F.sub b hm)),λx c hx=>let⟨o,e⟩:=m2.cells x c hx;k3.alive c o e⟩
  refine wpAny_bind (Kb S ifs ht hA m3.C m3.F.en λs₄ k4=>?_)
  have kl4:Kl [] [] s₃ s₄:=k4.toKl [] []
  refine h s₄ (((kl2.more (by simp) (λb hb=>List.mem_append.mpr (.inr hb))).tr (kl3.more (by simp) λb hb=>List.mem_append.mpr (.inl hb))).tr (kl4.more (by simp) (by simp))) ?_ ?_
  ·exact W.frame _ _ _ st3 k4.t λb o _ e=>k4.hp b o e
  ·exact m3.kl AC kl4 (by simp) (by simp) (by simp)
 refine wpAny_bind (wpAny_standAt (wpAny_bind (wpAny_mono (W.step i s d t _ E E hd hst m.C.tk hok key) (λr s1 h1=>?_) λ_ _ x=>x)))
 obtain⟨v,rfl,h1⟩:=h1
 exact wpAny_bind h1
theorem J3X {f:Internal.D ->Option (List α)} {d:Internal.D} {r:List Internal.D} {out:List α} (h:J6 f (d::r)=some out): ∃a b,f d=some a/\ J6 f r=some b/\ out=a++b:=
 bnd h λa h1 h2=>bnd h2 λb h3 h4=>⟨a,b,h1,h3,(Option.some.inj h4).symm⟩
theorem J1j {ds rem:List Internal.D} {d:Internal.D} {i:Nat} (h:ds.drop i=d::rem):ds[i]?=some d/\ ds.drop (i+1)=rem/\ i+1<=ds.length:=J0t h
theorem J7W {gs:List Comprehension} {g:Comprehension} {depth:Nat} (h:gens.drop depth=g::gs):gens[depth]?=some g/\ gens.drop (depth+1)=gs:=⟨(J0t h).1,(J0t h).2.1⟩
theorem J3k {p:Pos} {rest:Value ->Sem Fin} {Post:Fin ->Shared ->Prop} {E:Value ->Shared ->Prop} (W:Wk w A M I wr pairs ds St) (hst:St ds.length s) (h: ∀s',Kw wr s s' ->Post (.done .next) s'):
  wpAny (model pw w) A (standAt p>>=λ_=>pyNext (.ref I)>>=λr=>match r with
   |none=>pure (.done .next)
   |some v=>rest v) Post E s:=
 wpAny_bind (wpAny_standAt (wpAny_bind (W.done s _ _ hst λs' k=>wpAny_pure (h s' k))))
noncomputable def Jfb {α:Type} (L:Lv) (sc:Scope) (emit:Rho ->Option (List α)) (gs:List Comprehension) (ρ:Rho):Option (List α):=match gs with
 |[]=>emit ρ
 |h::_=>if okT (isPairs sc h.iter) h.target&&Zb h.iter then(itE L sc ρ h.iter).bind λits=>Jd L sc emit gs its ρ else none
theorem J1a {emitD:Rho ->Option (List α)} {g:Comprehension} {gs:List Comprehension} {d:Internal.D} {rem:List Internal.D} {ρ:Rho} {out:List α} {G:Prop} (h:Jd L csc emitD (g::gs) (d::rem) ρ=some out)
  (k:freshT g.target ρ=true -> ∀ρ' b a r,bindT 9 csc g.target d ρ=some ρ' ->J5M L csc ρ' g.ifs=some b ->(if b then Jfb L csc emitD gs ρ' else some [])=some a ->Jd L csc emitD (g::gs) rem ρ=some r ->out=a++r ->G):G:=
 J9 h λhf h=>o22 (J3X h) λa r h1 h2 e=>bnd h1 λρ' h4 h5=>bnd h5 λb h6 h7=>k hf ρ' b a r h4 h6 h7 ((if_pos hf).trans h2) e
theorem YQ {e:PySem.Expr} (h:Zb e=true) (env:Env) (x:Value):foldedSetIterable e env x=pure x:=by
 cases e<;>first|rfl|cases h
theorem Above.lo {w:World} {mg mb:Str ->Option Value} {s:Shared} {ms:List Addr} {b:Addr} (h:Above s b) (C:Cx w mg mb s ms):N0<=b:=by
 obtain⟨o,e⟩:=C.last
 exact h _ o e
theorem Kl.freshT {wr tu:List Addr} {s s':Shared} (x:Kl wr (tu++wr) s s') (h: ∀b∈wr,s.heap.get? b=none):Kl [] tu s s':=
 ⟨x.same,x.t,λb o _ n' e=>x.h b o (λm=>by rw[h b m]at e;cases e) (λm=>(List.mem_append.mp m).elim n' λm=>by rw[h b m]at e;cases e) e,λb o _ e=>x.al b o (λm=>by rw[h b m]at e;cases e) e⟩
theorem Cx.grow {w:World} {mg mb:Str ->Option Value} {s:Shared} {ms wr:List Addr} (C:Cx w mg mb s ms) (h: ∀b∈wr,N0<=b/\ ∃o,s.heap.get? b=some o):Cx w mg mb s (wr++ms):=
 ⟨C.top,λb hb=>(List.mem_append.mp hb).elim (λm=>(h b m).2) (C.live b),λb hb=>(List.mem_append.mp hb).elim (λm=>(h b m).1) (C.hi b),C.tk,C.last⟩
theorem Cx.less {w:World} {mg mb:Str ->Option Value} {s:Shared} {ms ms':List Addr} (C:Cx w mg mb s ms) (h: ∀b∈ms',b∈ms):Cx w mg mb s ms':=
 ⟨C.top,λb hb=>C.live b (h b hb),λb hb=>C.hi b (h b hb),C.tk,C.last⟩
theorem J0q {g:Comprehension} (h:g.is_async=0):g=⟨g.target,g.iter,g.ifs,0⟩:=by
 obtain⟨t,i,f,a⟩:=g
 exact congrArg (Comprehension.mk t i f) h
theorem Jb8 {s4 s5:Shared} {ys:List α} (AC:AccOk D Acc) (W:Wk w A M I wr pairs ds St) (hwr: ∀b∈wr,¬Fa noOwn cenv b/\ b∉mine/\ b≠D) (hDf: ¬Fa noOwn cenv D) (ext:Ext ρ ρ') {i:Nat} (st4:St i s4) (m4:Mid w mg mb Acc D csc cenv mine M ρ' xs s4) (k5:Kw [D] s4 s5) (acc5:Acc M s5 ys):
  Kl [] [D] s4 s5/\ St i s5/\ Mid w mg mb Acc D csc cenv mine M ρ ys s5:=by
 have one: ∀{P:Addr ->Prop},P D -> ∀b∈[D],P b:=λh b hb=>List.mem_singleton.mp hb▸h
 have kl5:Kl [] [D] s4 s5:=k5.toKl' (one (AC.live _ _ _ acc5)) λb hb=>hb
 exact⟨kl5,W.frame _ _ _ st4 k5.t λb o hb e=>k5.h b o (λhm=>hb.elim (λhb=>(hwr _ hb).2.2 (List.mem_singleton.mp hm)) λhb=>hb (List.mem_singleton.mp hm▸m4.Dm)) e,
  kl5.cx m4.C (one m4.Dm),(m4.F.kw k5 (one m4.Dm) (one hDf)).less ext,m4.Dm,acc5,λx c hx=>o10 (m4.cells x c hx) λo e=>kl5.al c o (by simp) e⟩
theorem Jfu {s4 s5:Shared} {wr':List Addr} (AC:AccOk D Acc) (m4:Mid w mg mb Acc D csc cenv mine M ρ' xs s4) (k5:Kp s4 s5) (hw': ∀b∈wr',Above s4 b/\ ∃o,s5.heap.get? b=some o):
  (∀b∈wr',s4.heap.get? b=none)/\ Mid w mg mb Acc D csc cenv mine (wr'++M) ρ' xs s5/\ ∀b∈wr',¬Fa noOwn cenv b/\ b∉mine/\ b≠D:=by
 have hno: ∀b∈wr',s4.heap.get? b=none:=λb hb=>(hw' b hb).1.none
 have clash: ∀{b} {P:Prop},b∈wr' ->(∃o,s4.heap.get? b=some o) ->P:=λhb h=>o10 h λo e=>nn ((hno _ hb).symm.trans e)
 exact⟨hno,⟨(m4.C.keeps k5).grow λb hb=>⟨(hw' b hb).1.lo m4.C,(hw' b hb).2⟩,(m4.F.grow hno).kp k5,List.mem_append.mpr (.inr m4.Dm),AC.frame _ s4 s5 xs (AC.grow _ _ _ _ m4.acc hno) k5.t λb o _ e=>k5.hp b o e,
   λx c hx=>o10 (m4.cells x c hx) λo e=>⟨o,k5.hp _ _ e⟩⟩,
  λb hb=>⟨λhfa=>clash hb (Jd9 m4.F m4.cells hfa),λhm=>clash hb (m4.C.live b (m4.F.sub b hm)),λhD=>clash hb (hD▸AC.live _ _ _ m4.acc)⟩⟩
theorem JdM {s4 s5 s6:Shared} {wr':List Addr} {ys:List α} (AC:AccOk D Acc) (W:Wk w A M I wr pairs ds St) (hwr: ∀b∈wr,¬Fa noOwn cenv b/\ b∉mine/\ b≠D) (ext:Ext ρ ρ') {i:Nat} (st4:St i s4) (m4:Mid w mg mb Acc D csc cenv mine M ρ' xs s4) (hno: ∀b∈wr',s4.heap.get? b=none)
  (k5:Kp s4 s5) (k6:Kl wr' (D::mine++wr') s5 s6) (acc6:Acc (wr'++M) s6 ys) (F6:FrOk w s6 (wr'++M) mine noOwn csc cenv ρ'):Kl [] (D::mine) s4 s6/\ St i s6/\ Mid w mg mb Acc D csc cenv mine M ρ ys s6:=by
 have kl:Kl [] (D::mine) s4 s6:=((k5.toKl wr' (D::mine++wr')).tr k6).freshT hno
 have hDm: ∀b∈D::mine,b∈M:=λb hb=>(List.mem_cons.mp hb).elim (λe=>e▸m4.Dm) (m4.F.sub b)
 exact⟨kl,W.frame _ _ _ st4 kl.t λb o hb e=>kl.h b o (by simp) (λhm=>hb.elim (λhb=>(List.mem_cons.mp hm).elim (hwr _ hb).2.2 (hwr _ hb).2.1) λhb=>hb (hDm b hm)) e,
  kl.cx m4.C hDm,(F6.weaken (λb hb=>List.mem_append.mpr (.inr hb)) m4.F.sub).less ext,m4.Dm,AC.less _ _ _ _ acc6,λx c hx=>o10 (m4.cells x c hx) λo e=>kl.al c o (by simp) e⟩
theorem J7D (S:SoundE L n) (hA:AOk n A) (AC:AccOk D Acc) (EM:EmitOk w mg mb A csc cenv D Acc emitD emit) (T:TurnEq e gens (.ref D) cenv emit) (hDn:D∉mine) (hDf: ¬Fa noOwn cenv D) (has: ∀g∈gens,g.is_async=0) (gs:List Comprehension):
  ∀(depth:Nat),gens.drop depth=gs -> ∀(rem:List Internal.D) (ds:List Internal.D) (i:Nat) (ρ:Rho) (out:List α) (s:Shared) (M:List Addr) (I:Addr) (wr:List Addr) (pairs:Bool) (St:Nat ->Shared ->Prop) (xs:List α) (R:Result ->Shared ->Prop),
   ds.drop i=rem ->i<=ds.length ->Jd L csc emitD gs rem ρ=some out ->(∀g gs',gs=g::gs' ->okT pairs g.target=true) ->Wk w A M I wr pairs ds St ->St i s ->Mid w mg mb Acc D csc cenv mine M ρ xs s ->
   (∀b∈wr,¬Fa noOwn cenv b/\ b∉mine/\ b≠D) ->xs.length+out.length<=1000000 ->
   (∀s',Kl wr (D::mine++wr) s s' ->Acc M s' (xs++out) ->FrOk w s' M mine noOwn csc cenv ρ ->R (.ok .next) s') ->codeAny (model pw w) A (.compLoop e depth (.ref I) (.ref D) cenv) R s:=by
 induction gs with
 |nil=>exact λdepth hgs rem ds i ρ out s M I wr pairs St xs R _ _ h=>nn h
 |cons g gs ihg=>
  intro depth hgs rem
  refine o01 (J7W hgs) λhg hgs'=>?_
  rw[J0q (has _ (List.mem_of_getElem? hg))]at hg
  clear hgs
  induction rem with
  |nil=>
   intro ds i ρ out s M I wr pairs St xs R hds hi h hok W hst m hwr hlen hR
   have hout:out=[]:=J9 h λ_ h=>(Option.some.inj h).symm
   have hin:i=ds.length:=Nat.le_antisymm hi (List.drop_eq_nil_iff.mp hds)
   rw[hin]at hst
   rw[hout]at hR
   have fin: ∀s',Kw wr s s' ->R (.ok .next) s':=λs' k=>hR s' ((k.toKl []).more (λb hb=>hb) (by simp)) ((List.append_nil xs).symm▸AC.frame M s s' xs m.acc k.t λb o hb e=>k.h b o (λhm=>hb.elim (hwr b hm).2.2 λhb=>hb (W.sub b hm)) e) (m.F.kw k W.sub λb hb=>(hwr b hb).1)
   clear h hok hwr hlen hR hout hin hi hds
   refine codeAny_of_tree ?_
   rw[T.den,T.und]
   refine wpAny_noted ?_
   cases hn:gens[depth+1]? with
   |none=>
    rw[T.last depth _ _ _ _ hg hn]
    exact J3k W hst fin
   |some g'=>
    rw[J0q (has _ (List.mem_of_getElem? hn))]at hn
    rw[T.more depth _ _ _ _ _ _ _ hg hn]
    exact J3k W hst fin
  |cons d rem ihr=>
   intro ds i ρ out s M I wr pairs St xs R hds hi h hok W hst m hwr hlen hR
   refine o02 (J1j hds) λhd hds' hi'=>J1a h λhf ρ' b a r hb ht hin hr hout=>?_
   have hokt:=hok _ _ rfl
   have ext:Ext ρ ρ':=J7m hb hf
   rw[hout]at hlen hR
   rw[List.length_append]at hlen
   have hla:xs.length+a.length<=1000000:=by lia
   have next: ∀s5,Kl [] (D::mine++wr) s s5 ->St (i+1) s5 ->Mid w mg mb Acc D csc cenv mine M ρ (xs++a) s5 ->codeAny (model pw w) A (.compLoop e depth (.ref I) (.ref D) cenv) R s5:=λs5 k5 st5 m5=>
    ihr ds (i+1) ρ r s5 M I wr pairs St (xs++a) R hds' hi' hr hok W st5 m5 hwr (by rw[List.length_append];lia) λs' k acc F=>hR s' ((k5.more (by simp) λb hb=>hb).tr k) (List.append_assoc xs a r▸acc) F
   clear ihr h hout hlen hR hr hds hds' hi hi' hok
   have tu1: ∀b∈mine++wr,b∈D::mine++wr:=λb hb=>List.mem_cons_of_mem _ hb
   have no:b=false -> ∀s5,Kl [] (mine++wr) s s5 ->St (i+1) s5 ->Mid w mg mb Acc D csc cenv mine M ρ' xs s5 ->codeAny (model pw w) A (.compLoop e depth (.ref I) (.ref D) cenv) R s5:=λhb s5 k5 st5 m5=>by
    rw[hb]at hin
    have ha:[]=a:=Option.some.inj hin
    exact next s5 (k5.more (by simp) tu1) st5 (by rw[<-ha,List.append_nil];exact⟨m5.C,m5.F.less ext,m5.Dm,m5.acc,m5.cells⟩)
   refine codeAny_of_tree ?_
   rw[T.den,T.und]
   refine wpAny_noted ?_
   cases gs with
   |nil=>
    have hn:gens[depth+1]?=none:=List.getElem?_eq_none (List.drop_eq_nil_iff.mp hgs')
    rw[T.last depth _ _ _ _ hg hn]
    refine Kf S hA AC hDn W hst hd hokt hb ht m hwr (tail:=λok=>_) λs4 k4 st4 m4=>?_
    cases b with
    |false=>exact wpAny_pure ⟨rfl,no rfl s4 k4 st4 m4⟩
    |true=>exact wpAny_bind (EM s4 M ρ' xs a _ _ hin m4.C m4.F.en m4.Dm hla m4.acc λs5 k5 acc5=>wpAny_pure ⟨rfl,o02 (Jb8 AC W hwr hDf ext st4 m4 k5 acc5) λkl st5 m5=>next s5 ((k4.more (by simp) tu1).tr (kl.more (by simp) (by simp))) st5 m5⟩)
   |cons g' gs'=>
    refine o01 (J7W hgs') λhg' _=>?_
    rw[J0q (has _ (List.mem_of_getElem? hg'))]at hg'
    rw[T.more depth _ _ _ _ _ _ _ hg hg']
    refine Kf S hA AC hDn W hst hd hokt hb ht m hwr (tail:=λok=>_) λs4 k4 st4 m4=>?_
    cases b with
    |false=>exact wpAny_pure ⟨rfl,no rfl s4 k4 st4 m4⟩
    |true=>
     refine J9 hin λhk hin=>o01 (Bool.and_eq_true_iff.mp hk) λhok' hns=>bnd hin λits hits hcl=>?_
     clear hin hk no hb ht hf hokt hd hst
     have key: ∀it5 s5,Begun w A M s4 s5 it5 (isPairs csc g'.iter) its ->wpAny (model pw w) A (runOwn (.compStart e (depth+1) it5 (.ref D) cenv) cenv>>=λ_=>again (.compLoop e depth (.ref I) (.ref D) cenv))
       (λfin s'=>match fin with
        | .done f=>R (.ok f) s'
        | .again c'=>c'.quiet=true/\ codeAny (model pw w) A c' R s') (notedBy (model pw w) A cenv λe s'=>R (.error e) s') s5:=λit5 s5 hbeg=>by
      refine o34 hbeg λI' wr' StM q5 k5 hw' WM st0=>o02 (Jfu AC m4 k5 hw') λhno m5 hwr'=>?_
      have W':=WM.at' _ _ _ st0
      rw[q5]
      refine wpAny_bind (wpAny_runOwn ?_)
      rw[Around.mark_none]
      have h0:codeAny (model pw w) A (.compLoop e (depth+1) (.ref I') (.ref D) cenv) (λr s'=>match r with
       | .ok _=>wpAny (model pw w) A (again (.compLoop e depth (.ref I) (.ref D) cenv)) (λfin s'=>match fin with
        | .done f=>R (.ok f) s'
        | .again c'=>c'.quiet=true/\ codeAny (model pw w) A c' R s') (notedBy (model pw w) A cenv λe s'=>R (.error e) s') s'
       | .error e=>cameBackBy (model pw w) A cenv (notedBy (model pw w) A cenv λe s'=>R (.error e) s') e s') s5:=
       ihg (depth+1) hgs' its its 0 ρ' a s5 (wr'++M) I' wr' _ _ xs _ rfl (Nat.zero_le _) hcl (λg gs' he=>(List.cons.inj he).1▸hok') W' st0 m5 hwr' hla λs6 k6 acc6 F6=>wpAny_pure ⟨rfl,
        o02 (JdM AC W hwr ext st4 m4 hno k5 k6 acc6 F6) λkl st6 m6=>next s6 ((k4.more (by simp) tu1).tr (kl.more (by simp) λb hb=>List.mem_append.mpr (.inl hb))) st6 m6⟩
      exact KO T hg' h0 (W'.self 0 s5 _ _ st0 h0)
     refine wpAny_bind (wpAny_mono (YW S hits hA m4.C m4.F.en key) (λx s1 hx=>?_) λ_ _ x=>x)
     refine wpAny_bind (wpAny_standAt ?_)
     rw[YQ hns]
     exact wpAny_bind (wpAny_pure (wpAny_bind (wpAny_holding hx)))
end
noncomputable def closeOf (env:Env):List (Str×NameKind) ->List (Str×Addr) ->List (Str×Addr)
 |[],acc=>acc
 |(n,k)::r,acc=>if k== .free then closeOf env r ((n,(env.cells.lookup n).getD 0)::acc)else closeOf env r acc
theorem KM {env:Env} (f:Str×NameKind ->List (Str×Addr) ->Sem (ForInStep (List (Str×Addr))))
  (hf: ∀n k cs,f (n,k) cs=if k== .free then(do let c<-cellOf env n;pure (.yield ((n,c)::cs)))else pure (.yield cs)):
  ∀(names:List (Str×NameKind)) (acc:List (Str×Addr)),(∀p∈names,p.2= .free -> ∃c,env.cells.lookup p.1=some c) ->(forIn names acc f:Sem _)=pure (closeOf env names acc)
 |[],acc,_=>by rw[List.forIn_nil];rfl
 |(n,k)::r,acc,h=>by
  rw[List.forIn_cons,hf]
  have ih:=λacc=>KM f hf r acc λp hp=>h p (List.mem_cons_of_mem _ hp)
  show _=pure (if k== .free then closeOf env r ((n,(env.cells.lookup n).getD 0)::acc)else closeOf env r acc)
  by_cases hk:(k== .free)=true
  ·rw[if_pos hk,if_pos hk]
   refine o10 (h (n,k) List.mem_cons_self (beq_iff_eq.mp hk)) λc hc=>?_
   have e:cellOf env n=pure c:=by unfold cellOf;rw[show env.cells.lookup n=some c from hc]
   rw[e,show env.cells.lookup n=some c from hc]
   exact ih _
  ·rw[if_neg hk,if_neg hk];exact ih _
theorem J5T {env:Env} {scope:Scope} (h: ∀p∈scope.names,p.2= .free -> ∃c,env.cells.lookup p.1=some c):closureFor scope env=pure (closeOf env scope.names []):=by
 unfold closureFor
 simp only[bind_pure]
 exact KM _ (λn k cs=>by cases k<;>rfl) _ _ h
theorem Zm {env:Env} {nk:Str×NameKind} {r:List (Str×NameKind)} {acc:List (Str×Addr)}:(nk.2= .free/\ closeOf env (nk::r) acc=closeOf env r ((nk.1,(env.cells.lookup nk.1).getD 0)::acc))∨closeOf env (nk::r) acc=closeOf env r acc:=by
 by_cases hk:(nk.2== .free)=true
 ·exact .inl ⟨beq_iff_eq.mp hk,if_pos hk⟩
 ·exact .inr (if_neg hk)
theorem J7z {env:Env} {names:List (Str×NameKind)} {acc:List (Str×Addr)} {p:Str×Addr} (h:p∈closeOf env names acc):p∈acc∨((p.1,NameKind.free)∈names/\ p.2=(env.cells.lookup p.1).getD 0):=by
 induction names generalizing acc with
 |nil=>exact .inl h
 |cons nk r ih=>
  have out: ∀{acc},p∈closeOf env r acc ->p∈acc∨((p.1,NameKind.free)∈nk::r/\ p.2=(env.cells.lookup p.1).getD 0):=λh=>(ih h).imp id λq=>⟨List.mem_cons_of_mem _ q.1,q.2⟩
  exact Zm.elim (λe=>(out (e.2▸h)).elim (λh=>(List.mem_cons.mp h).elim (λq=> .inr ⟨q▸e.1▸List.mem_cons_self,q▸rfl⟩) .inl) .inr) λe=>out (e▸h)
theorem J3L {env:Env} {names:List (Str×NameKind)} {acc:List (Str×Addr)} {p:Str×Addr} (h:p∈acc):p∈closeOf env names acc:=by
 induction names generalizing acc with
 |nil=>exact h
 |cons nk r ih=>exact Zm.elim (λe=>e.2▸ih (List.mem_cons_of_mem _ h)) λe=>e▸ih h
theorem J7y {env:Env} {names:List (Str×NameKind)} {acc:List (Str×Addr)} {n:Str} (h:(n,NameKind.free)∈names): ∃c,(n,c)∈closeOf env names acc:=by
 induction names generalizing acc with
 |nil=>exact absurd h List.not_mem_nil
 |cons nk r ih=>
  exact(List.mem_cons.mp h).elim (λe=>by rw[<-e];exact⟨_,J3L (acc:=(n,(env.cells.lookup n).getD 0)::acc) List.mem_cons_self⟩) λh=>Zm.elim (λe=>e.2▸ih h) λe=>e▸ih h
theorem J5 {α:Type} {l:List (Str×α)} {n:Str} {c:α} (h:(n,c)∈l): ∃c',l.lookup n=some c':=by
 induction l with
 |nil=>exact absurd h List.not_mem_nil
 |cons x r ih=>
  rw[Jv]
  by_cases e:n=x.1
  ·exact⟨x.2,if_pos e⟩
  ·rw[if_neg e];exact ih ((List.mem_cons.mp h).resolve_left λq=>e (q▸rfl))
theorem Ja {α:Type} (l l':List (Str×α)) (n:Str):(l++l').lookup n=(match l.lookup n with|some c=>some c|none=>l'.lookup n):=by
 induction l with
 |nil=>rfl
 |cons x r ih=>
  rw[List.cons_append,Jv,Jv]
  by_cases e:n=x.1
  ·rw[if_pos e,if_pos e]
  ·rw[if_neg e,if_neg e];exact ih
theorem ZL {env:Env} {names:List (Str×NameKind)} {n:Str} {c:Addr} (h:(closeOf env names []).lookup n=some c) (hb: ∀p∈names,p.2= .free -> ∃c,env.cells.lookup p.1=some c):(n,NameKind.free)∈names/\ env.cells.lookup n=some c:=by
 rcases J7z (mem_of_lookup h)with h|⟨h1,h2⟩
 ·cases h
 ·obtain⟨c',e⟩:=hb _ h1 rfl
  have h1':(n,NameKind.free)∈names:=h1
  have h2':c=(env.cells.lookup n).getD 0:=h2
  have e':env.cells.lookup n=some c':=e
  rw[e']at h2'
  exact⟨h1',by rw[e',h2'];rfl⟩
theorem Zl {xk:Str×NameKind} {r:List (Str×NameKind)} {n:Nat}:(xk.2= .cell/\ ∀acc,cellsFrom n (xk::r) acc=cellsFrom (n+1) r ((xk.1,n)::acc))∨(xk.2≠ .cell/\ ∀acc,cellsFrom n (xk::r) acc=cellsFrom n r acc):=by
 by_cases h:(xk.2== .cell)=true
 ·exact .inl ⟨beq_iff_eq.mp h,λ_=>if_pos h⟩
 ·exact .inr ⟨λe=>h (beq_iff_eq.mpr e),λ_=>if_neg h⟩
theorem Y4 (names:List (Str×NameKind)) (n:Nat) (acc:List (Str×Addr)):cellsFrom n names acc=cellsFrom n names []++acc:=by
 induction names generalizing n acc with
 |nil=>rfl
 |cons xk r ih=>
  refine(Zl (xk:=xk) (r:=r) (n:=n)).elim (λe=>?_) λe=>?_
  ·rw[e.2,e.2,ih,ih _ [(xk.1,n)],List.append_assoc];rfl
  ·rw[e.2,e.2];exact ih ..
theorem J7v {names:List (Str×NameKind)} {n:Nat} {p:Str×Addr} (h:p∈cellsFrom n names []):(p.1,NameKind.cell)∈names:=by
 induction names generalizing n with
 |nil=>exact absurd h List.not_mem_nil
 |cons xk r ih=>
  refine(Zl (xk:=xk) (r:=r) (n:=n)).elim (λe=>?_) λe=>List.mem_cons_of_mem _ (ih (e.2 []▸h))
  rw[e.2,Y4]at h
  exact(List.mem_append.mp h).elim (λh=>List.mem_cons_of_mem _ (ih h)) λh=>List.mem_singleton.mp h▸e.1▸List.mem_cons_self
theorem YO {names:List (Str×NameKind)} {n:Nat} {x:Str} (h:(x,NameKind.cell)∈names): ∃c,(x,c)∈cellsFrom n names []:=by
 induction names generalizing n with
 |nil=>exact absurd h List.not_mem_nil
 |cons yk r ih=>
  refine(Zl (xk:=yk) (r:=r) (n:=n)).elim (λe=>?_) λe=>?_
  ·rw[e.2,Y4]
   exact(List.mem_cons.mp h).elim (λq=>⟨n,q▸List.mem_append.mpr (.inr (List.mem_singleton.mpr rfl))⟩) λh=>o10 (ih (n:=n+1) h) λc hc=>⟨c,List.mem_append.mpr (.inl hc)⟩
  ·rw[e.2]
   exact(List.mem_cons.mp h).elim (λq=>absurd (q▸rfl) e.1) ih
theorem YE {sc csc:Scope} {ρ:Rho} (h:Js sc csc ρ=true):csc.kind= .function:=by
 unfold Js at h
 rw[Bool.and_eq_true]at h
 exact beq_iff_eq.mp h.1
theorem YD {sc csc:Scope} {ρ:Rho} (h:Js sc csc ρ=true) {x:Str} (hx:(x,NameKind.free)∈csc.names):
  (sc.names.lookup x=some .cell∨sc.names.lookup x=some .free)/\ J9V x=true/\ (∃u,ρ.lookup x=some u)/\ csc.names.lookup x=some .free:=by
 have z:=List.all_eq_true.mp (Bool.and_eq_true_iff.mp (show(_&&List.all _ _)=true from h)).2 _ hx
 clear h
 have fin: ∀{P:Prop},P ->(J9V x&&(ρ.lookup x).isSome&&csc.names.lookup x==some .free)=true ->P/\ J9V x=true/\ (∃u,ρ.lookup x=some u)/\ csc.names.lookup x=some .free:=λhp z=>by
  simp only[Bool.and_eq_true,beq_iff_eq]at z
  exact⟨hp,z.1.1,Option.isSome_iff_exists.mp z.1.2,z.2⟩
 replace z:(match sc.names.lookup x with|some .cell|some .free=>J9V x&&(ρ.lookup x).isSome&&csc.names.lookup x==some .free|_=>false)=true:=z
 cases e:sc.names.lookup x with
 |none=>rw[e]at z;exact Bool.noConfusion z
 |some k=>
  rw[e]at z
  cases k with
  |cell=>exact fin (.inl rfl) z
  |free=>exact fin (.inr rfl) z
  |_=>exact Bool.noConfusion z
theorem ZM {sc csc:Scope} {ρ:Rho} (h:Js sc csc ρ=true) {x:Str} (hx:(x,NameKind.local)∈csc.names):csc.names.lookup x=some .local:=by
 unfold Js at h
 rw[Bool.and_eq_true]at h
 exact beq_iff_eq.mp (List.all_eq_true.mp h.2 _ hx)
theorem J3M {sc csc:Scope} {ρ:Rho} (h:Js sc csc ρ=true) {x:Str} (hx:(x,NameKind.cell)∈csc.names):csc.names.lookup x=some .cell:=by
 unfold Js at h
 rw[Bool.and_eq_true]at h
 exact beq_iff_eq.mp (List.all_eq_true.mp h.2 _ hx)
noncomputable def J0R (env:Env) (n:Str) (k:NameKind):NameKind:=if(k== .free&&env.scope.kind== .function&&env.kindOf n==some .cell)=true then .cell else k
theorem J6H {env:Env} (p:Str×NameKind):(match p with|(n,k)=>if(k==NameKind.free&&env.scope.kind== .function&&env.kindOf n==some .cell)=true then(n,NameKind.cell)else(n,k))=(p.1,J0R env p.1 p.2):=by
 obtain⟨n,k⟩:=p
 unfold J0R
 dsimp only
 split<;>rfl
theorem ZW {env:Env}: ∀(names:List (Str×NameKind)) (x:Str),(names.map λp=>(p.1,J0R env p.1 p.2)).lookup x=(names.lookup x).map (J0R env x)
 |[],_=>rfl
 |(n,k)::r,x=>by
  rw[List.map_cons,List.lookup_cons,List.lookup_cons,ZW r x]
  cases hx:x==n with
  |true=>rw[beq_iff_eq.mp hx];rfl
  |false=>rfl
theorem KC {env:Env} (names:List (Str×NameKind)) (x:Str):
  (names.map λ(n,k)=>if(k==NameKind.free&&env.scope.kind== .function&&env.kindOf n==some .cell)then(n,NameKind.cell)else(n,k)).lookup x=(names.lookup x).map (J0R env x):=by
 rw[<-ZW names x]
 congr 1
 exact List.map_congr_left λp _=>J6H p
section
variable {w:World} {mg mb:Str ->Option Value} {A:Around} {E:Value ->Shared ->Prop} {s:Shared} {ms:List Addr} {own:Str ->Option Addr} {sc csc:Scope} {env:Env} {ρ:Rho}
noncomputable abbrev cC (s:Shared) (csc:Scope):List (Str×Addr):=cellsFrom (s.heap.objs.size+1) csc.names []
noncomputable abbrev cS (s:Shared) (csc:Scope):Shared:={s with heap:=pushCells (s.heap.push {cls:= .type "dict",data:= .dict #[]}) csc.names}
noncomputable abbrev cEnv (s:Shared) (csc:Scope) (env:Env):Env:=compEnvC csc (cC s csc++closeOf env csc.names []) s.heap.objs.size env
noncomputable abbrev cMine (s:Shared) (csc:Scope):List Addr:=s.heap.objs.size::(cC s csc).map (·.2)
theorem Jaq {Q:Env ->Shared ->Prop} (h: ∀e,{e with scope:=relabel csc env}=cEnv s csc env ->e.locals=s.heap.objs.size ->Q e (cS s csc)):
  wpAny (model pw w) A (newFunctionEnv csc env.globals (closeOf env csc.names []) [] env.qual none .none (some env)) Q E s:=by
 simp only[newFunctionEnv,Option.isSome_some,if_true]
 refine wpAny_bind (wpAny_alloc ?_)
 refine wpAny_bind (wpAny_layCells _ (λname kind cells=>by cases hkc:kind==NameKind.cell<;>simp[hkc]) _ _ _ _ ?_)
 rw[show({s with heap:=s.heap.push {cls:= .type "dict",data:= .dict #[]}}:Shared).heap.objs.size=s.heap.objs.size+1 from Heap.size_push ..,Y4]
 exact wpAny_bind (wpAny_pure (wpAny_pure (h _ rfl rfl)))
theorem J7I (s:Shared) (csc:Scope):Kp s (cS s csc):=⟨Keeps.mk' λb o e=>pushCells_keeps _ _ b o (Heap.get?_push_of_some _ e),Nat.le_refl _⟩
theorem Jd1 (s:Shared) (csc:Scope):CellsOk (cS s csc).heap (s.heap.objs.size+1) (cC s csc):=by
 have ok:=cellsFrom_ok csc.names (s.heap.push {cls:= .type "dict",data:= .dict #[]}) (s.heap.objs.size+1) [] ⟨λ_ _ hm=>(absurd hm List.not_mem_nil),List.Pairwise.nil⟩ (by rw[Heap.size_push];exact Nat.le_refl _)
 rw[Heap.size_push]at ok
 exact ok
set_option tactic.hygienic true in
theorem J4s {x:Str} {u:Slot} (h:(J9W csc ρ).lookup x=some u):(x,NameKind.free)∈csc.names/\ ∃d,u= .val d/\ ρ.lookup x=some (.val d):=by
 refine o11 (List.mem_filterMap.mp (mem_of_lookup h)) λq hp he=>?_
 clear h
 obtain⟨y,k⟩:=q
 dsimp only at he
 cases e:ρ.lookup y with
 |none=>rw[e]at he;cases k<;>exact nn he
 |some u'=>
  rw[e]at he
  cases u' with
  |val d=>cases k with
   |free=>
    have q:=Prod.mk.inj (Option.some.inj he)
    rw[<-q.1]
    exact⟨hp,d,q.2.symm,e⟩
   |_=>exact nn he
  |_=>cases k<;>exact nn he
theorem J1g (s:Shared) (csc:Scope) {b:Addr} (hb:b∈cMine s csc):s.heap.objs.size<=b/\ ∃o,(cS s csc).heap.get? b=some o:=by
 rcases List.mem_cons.mp hb with rfl|hb
 ·exact⟨Nat.le_refl _,_,pushCells_keeps _ _ _ _ (Heap.get?_push_size _ rfl)⟩
 ·refine o11 (List.mem_map.mp hb) λq1 hm q2=>?_;obtain⟨n,c⟩:=q1;subst q2
  refine o01 ((Jd1 s csc).empty n c hm) λq3 h=>?_;obtain⟨o,e,_⟩:=q3
  exact⟨Nat.le_of_succ_le h,o,e⟩
theorem Y6 (K:EnvOk w s ms own sc env ρ) (hc:Js sc csc ρ=true) {x:Str} (hx:(x,NameKind.free)∈csc.names):
  ∃c v,env.cells.lookup x=some c/\ s.heap.IsCell c (some v)/\ ∀d,ρ.lookup x=some (.val d) ->Rep w s ms v d:=by
 refine o03 (YD hc hx) λh1 h2 q1 h4=>?_;obtain⟨u,h3⟩:=q1
 have hv:Jg sc x=true:=by
  unfold Jg
  rcases h1 with e|e<;>rw[e]<;>exact h2
 refine o11 (K.var x u h3 hv) λv a r=>?_
 have nl:env.kindOf x≠some .local:=λe=>by
  rcases h1 with q|q
  ·rw[K.fit.cel x q]at e;cases e
  ·rcases K.fit.fre x q with q|q<;>(rw[q]at e;cases e)
 rcases a with⟨k,_⟩|⟨_,c,e1,e2⟩
 ·exact absurd k nl
 ·refine⟨c,v,e1,e2,λd hd=>?_⟩
  rw[h3]at hd;clear h3;cases hd
  exact r
theorem J0c {env:Env} {x:Str}:J0R env x .free= .free∨J0R env x .free= .cell:=by
 unfold J0R
 split
 ·exact .inr rfl
 ·exact .inl rfl
theorem J6s {β:Type} {l l':List (Str×β)} {x:Str} (h:(∃c,l.lookup x=some c)∨ ∃c,l'.lookup x=some c): ∃c,(l++l').lookup x=some c:=by
 rw[Ja]
 cases e:l.lookup x with
 |some c=>exact⟨c,rfl⟩
 |none=>exact h.elim (λh=>o10 h λc h=>nn (e.symm.trans h)) id
theorem J4J {x:Str} (hx:csc.names.lookup x=some .cell∨(x,NameKind.free)∈csc.names): ∃c,(cEnv s csc env).cells.lookup x=some c:=
 J6s (hx.imp (λhx=>o10 (YO (n:=s.heap.objs.size+1) (mem_of_lookup hx)) λc h1=>J5 h1) λhx=>o10 (J7y (env:=env) (acc:=[]) hx) λc h1=>J5 h1)
theorem J7C (K:EnvOk w s ms own sc env ρ) (hc:Js sc csc ρ=true) {x:Str} {c:Addr} (h:(cEnv s csc env).cells.lookup x=some c):(csc.names.lookup x=some .cell/\ (x,c)∈cC s csc)∨
  (csc.names.lookup x=some .free/\ (∃o,s.heap.get? c=some o)/\ ∃v,s.heap.IsCell c (some v)/\ ∀d,ρ.lookup x=some (.val d) ->Rep w s ms v d):=by
 replace h:(cC s csc++closeOf env csc.names []).lookup x=some c:=h
 rw[Ja]at h
 cases e:(cC s csc).lookup x with
 |some c'=>
  rw[e]at h
  have m:=mem_of_lookup e
  rw[Option.some.inj h]at m
  exact .inl ⟨J3M hc (J7v m),m⟩
 |none=>
  rw[e]at h
  refine o01 (ZL h λp hp hk=>o21 (Y6 K hc (x:=p.1) (by rw[<-hk];exact hp)) λc v e _=>⟨c,e⟩) λh1 h2=>o22 (Y6 K hc h1) λc' v e e2 r=>?_
  rw[Option.some.inj (e.symm.trans h2)]at e2
  exact .inr ⟨(YD hc h1).2.2.2,o11 e2 λo e _=>⟨o,e⟩,v,e2,r⟩
set_option tactic.hygienic true in
theorem J5W (K:EnvOk w s ms own sc env ρ) (hc:Js sc csc ρ=true):
  FrOk w (cS s csc) (cMine s csc++ms) (cMine s csc) noOwn csc (cEnv s csc env) (J9W csc ρ)/\ ∀x c,(cEnv s csc env).cells.lookup x=some c -> ∃o,(cS s csc).heap.get? c=some o:=by
 have ok:=Jd1 s csc
 have kp:=J7I s csc
 have look:=λ{x c}=>J7C (s:=s) (x:=x) (c:=c) K hc
 have kindIs: ∀{x k},csc.names.lookup x=some k ->(cEnv s csc env).kindOf x=some (J0R env x k):=λhx=>(KC csc.names _).trans (congrArg (Option.map _) hx)
 have loc:(cS s csc).heap.Ns s.heap.objs.size λ_=>none:=(Heap.Ns.new s.heap (.type "dict")).keeps (pushCells_keeps _ _)
 have pst:Past s ms (cS s csc) (cMine s csc++ms):=⟨kp.t,λb o e n=>⟨kp.hp b o e,λm=>(List.mem_append.mp m).elim (λm=>absurd (Heap.lt_size e) (Nat.not_lt.mpr (J1g s csc m).1)) n⟩⟩
 refine⟨⟨⟨⟨K.fit.globals,K.fit.builtins,(show csc.kind= .function from YE hc),λx hx=>kindIs hx,λx hx=>kindIs hx,λx hx=>(J0c (env:=env) (x:=x)).elim (λe=> .inl (e▸kindIs hx)) λe=> .inr (e▸kindIs hx),λx hx=>kindIs hx,λx hx=>J4J (hx.imp id mem_of_lookup)⟩,λx u hu hv=>?_⟩,
  λb hb=>List.mem_append.mpr (.inl hb),⟨_,loc⟩,List.mem_cons_self,λx c hx h=>?_,λx c h=>?_,λx y c hx h h'=>?_,λ_ _ h=>(nn h),λ_ _ _ h=>(nn h)⟩,λx c h=>?_⟩
 ·refine o01 (J4s hu) λhm q1=>o11 q1 λd q2 hd=>o10 (J4J (s:=s) (env:=env) (.inr hm)) λc h1=>?_
  have hl:=(YD hc hm).2.2.2
  refine(look h1).elim (λh=>nomatch hl.symm.trans h.1) λh=>o11 h.2.2 λv hcell r=>⟨v,.inr ⟨(J0c (env:=env) (x:=x)).elim (λe=> .inr (e▸kindIs hl)) λe=> .inl (e▸kindIs hl),c,h1,hcell.keeps kp.hp⟩,?_⟩
  rw[q2]
  exact Rep.past pst (r d hd)
 ·exact(look h).elim (λq=>⟨List.mem_cons_of_mem _ (List.mem_map.mpr ⟨(x,c),q.2,rfl⟩),none,(ok.empty x c q.2).1⟩) λq=>nomatch hx.symm.trans q.1
 ·exact(look h).elim (λq=>Nat.ne_of_gt (ok.empty x c q.2).2) λq=>o10 q.2.1 λo e=>Nat.ne_of_lt (Heap.lt_size e)
 ·exact(look h).elim (λq=>(look h').elim (λq'=>name_of_addr ok.apart q.2 q'.2) λq'=>o10 q'.2.1 λo e=>absurd (Heap.lt_size e) (Nat.not_lt.mpr (Nat.le_of_succ_le (ok.empty x c q.2).2))) λq=>nomatch hx.symm.trans q.1
 ·exact(look h).elim (λq=>o11 (ok.empty x c q.2).1 λo e _=>⟨o,e⟩) λq=>o10 q.2.1 λo e=>⟨o,kp.hp _ _ e⟩
end
section
variable {α:Type} {L:Lv} {n:Nat} {w:World} {mg mb:Str ->Option Value} {A:Around} {E:Value ->Shared ->Prop} {s s':Shared} {ms ms':List Addr} {own:Str ->Option Addr} {sc csc:Scope} {env:Env} {ρ:Rho}
theorem EnvOk.past (K:EnvOk w s ms own sc env ρ) (k:Kp s s') (p:Past s ms s' ms'):EnvOk w s' ms' own sc env ρ:=
 ⟨K.fit,λy u e hv=>o11 (K.var y u e hv) λv e1 e2=>⟨v,e1.keeps k.hp,e2.move p λa _ o q=>k.hp a o q⟩⟩
structure CompDone (s s':Shared) (ms:List Addr) (D C:Addr):Prop where
 k:Kp s s'
 ns: ∃m,s'.heap.Ns C m
 fD:s.heap.get? D=none
 fC:s.heap.get? C=none
 ne:D≠C
 nD:N0<=D
 nC:N0<=C
theorem clash {a b c:Nat} (h1:a<=b) (h2:b<c) (h3:a=c+1):False:=by lia
theorem J7x {a c:Nat} (h1:a<=c) (h3:a=c+1):False:=by lia
set_option tactic.hygienic true in
theorem JcN (K:EnvOk w s ms own sc env ρ) (hc:Js sc csc ρ=true) {s₃:Shared} {b:Addr} (h:Fa noOwn (cEnv s₃ csc env) b):s₃.heap.objs.size<=b∨ ∃o,s.heap.get? b=some o:=by
 rcases h with rfl|⟨x,h⟩|⟨x,h⟩
 ·exact .inl (Nat.le_refl _)
 ·have h':(cC s₃ csc++closeOf env csc.names []).lookup x=some b:=h
  rw[Ja]at h'
  split at h'
  ·rename_i c' e
   cases h'
   exact .inl (Nat.le_of_succ_le ((Jd1 s₃ csc).empty x b (mem_of_lookup e)).2)
  ·have hb: ∀p∈csc.names,p.2= .free -> ∃c,env.cells.lookup p.1=some c:=λp hp hk=>by
    refine o21 (Y6 K hc (x:=p.1) (by rw[<-hk];exact hp)) λc v e _=>?_
    exact⟨c,e⟩
   refine o01 (ZL h' hb) λh1 h2=>?_
   refine o22 (Y6 K hc h1) λc' v e q1 _=>?_;obtain⟨o,e2,_⟩:=q1
   rw[h2]at e;cases e
   exact .inr ⟨o,e2⟩
 ·cases h
theorem J1d (S:SoundE L n) (hA:AOk n A) {e:PySem.Expr} {t it:PySem.Expr} {ifs:List PySem.Expr} {gs:List Comprehension} {Acc:Addr ->List Addr ->Shared ->List α ->Prop} {emit:Addr ->Env ->Sem Unit} {emitD:Rho ->Option (List α)} {newAcc:Sem Value}
  {ob:Obj} (AC: ∀D,AccOk D (Acc D)) (EM: ∀D cenv,EmitOk w mg mb A csc cenv D (Acc D) emitD (emit D cenv)) (T: ∀D cenv,TurnEq e (⟨t,it,ifs,0⟩::gs) (.ref D) cenv (emit D cenv))
  (hnew: ∀(s₂:Shared) (Q:Value ->Shared ->Prop),Q (.ref s₂.heap.objs.size) {s₂ with heap:=s₂.heap.push ob} ->wpAny (model pw w) A newAcc Q E s₂)
  (hacc: ∀(s₂:Shared) (M:List Addr),N0<=s₂.heap.objs.size ->Acc s₂.heap.objs.size M {s₂ with heap:=s₂.heap.push ob} [])
  (hob:ob.isFreed=false) (hc:Js sc csc ρ=true) (has: ∀g∈gs,g.is_async=0) {pairs:Bool} (hok:okT pairs t=true) (C:Cx w mg mb s ms) (K:EnvOk w s ms own sc env ρ)
  {items:List D} {out:List α} (hcl:Jd L csc emitD (⟨t,it,ifs,0⟩::gs) items (J9W csc ρ)=some out) (hlen:out.length<=1000000)
  {itv:Value} {s₂:Shared} (hb:Begun w A ms s s₂ itv pairs items) {RR:Value ->Addr ->Result ->Shared ->Prop}
  (hRR: ∀D C s',CompDone s s' ms D C ->Acc D (C::D::ms) s' out ->RR (.ref D) C (.ok .next) s'):
  wpAny (model pw w) A newAcc (λacc s₃=>wpAny (model pw w) A (newFunctionEnv csc env.globals (closeOf env csc.names []) [] env.qual none .none (some env)) (λcenv s₄=>
   codeAny (model pw w) A (.compStart e 0 itv acc {cenv with scope:=relabel csc env}) (RR acc cenv.locals) s₄) E s₃) E s₂:=by
 refine o34 hb λI wr StM q1 k2 hw WM st0=>?_;clear hb;subst q1
 have C2:=C.keeps k2
 refine hnew s₂ _ ?_
 generalize hs3:({s₂ with heap:=s₂.heap.push ob}:Shared)=s₃
 have k3:Kp s₂ s₃:=hs3▸Kp.push s₂ ob
 have hsz3:s₃.heap.objs.size=s₂.heap.objs.size+1:=by rw[<-hs3];exact Heap.size_push ..
 generalize hD:s₂.heap.objs.size=D at hsz3⊢
 have hDo: ∃o,s₃.heap.get? D=some o:=by rw[<-hs3,<-hD];exact⟨_,Heap.get?_push_size _ hob⟩
 have hD0:s₂.heap.get? D=none:=by rw[<-hD];exact(Ju s₂).none
 have hDs:s.heap.get? D=none:=by
  cases q:s.heap.get? D with
  |none=>rfl
  |some o=>rw[k2.hp _ _ q]at hD0;cases hD0
 have hDN:N0<=D:=by rw[<-hD];exact C2.big
 have k23:=k2.tr k3
 have wrlt: ∀b∈wr,b<D:=λb hb=>by
  refine o10 ((hw b hb).2) λo e=>?_
  rw[<-hD];exact Heap.lt_size e
 have p3:Past s ms s₃ (D::(wr++ms)):=⟨k23.t,λb o e n=>⟨k23.hp b o e,λm=>(List.mem_cons.mp m).elim (λq=>nn ((q▸hDs).symm.trans e)) λm=>(List.mem_append.mp m).elim (λm=>nn ((hw b m).1.none.symm.trans e)) n⟩⟩
 have K3:EnvOk w s₃ (D::(wr++ms)) own sc env ρ:=K.past k23 p3
 refine o01 (J5W (s:=s₃) K3 hc) λF4 cells4=>?_
 have k4:=J7I s₃ csc
 have hcl':s₃.heap.objs.size=D+1:=hsz3
 refine Jaq λce hce hloc=>?_
 rw[hce,hloc]
 generalize hs4:cS s₃ csc=s₄ at F4 k4⊢
 have cells4': ∀x c,(cEnv s₃ csc env).cells.lookup x=some c -> ∃o,s₄.heap.get? c=some o:=by rw[<-hs4];exact cells4
 have mine4: ∀b∈cMine s₃ csc,s₃.heap.objs.size<=b/\ ∃o,s₄.heap.get? b=some o:=by rw[<-hs4];exact λb hb=>J1g s₃ csc hb
 generalize hcenv:cEnv s₃ csc env=cenv at F4 cells4'⊢
 have hloc4:cenv.locals=s₃.heap.objs.size:=by rw[<-hcenv];rfl
 have fa4: ∀{b},Fa noOwn cenv b ->s₃.heap.objs.size<=b∨ ∃o,s.heap.get? b=some o:=λ{b} h=>by rw[<-hcenv]at h;exact JcN K hc h
 generalize hmine:cMine s₃ csc=mine at F4 mine4
 generalize hcells:(cC s₃ csc).map (·.2)=cl at*
 have hmineEq:mine=s₃.heap.objs.size::cl:=by rw[<-hmine,<-hcells]
 let M:List Addr:=(cl++wr)++s₃.heap.objs.size::D::ms
 have hM: ∀b,b∈M↔b∈mine++D::(wr++ms):=λb=>by
  simp only[M,hmineEq,List.mem_append,List.mem_cons]
  constructor
  ·rintro((h|h)|h|h|h)
   ·exact .inl (.inr h)
   ·exact .inr (.inr (.inl h))
   ·exact .inl (.inl h)
   ·exact .inr (.inl h)
   ·exact .inr (.inr (.inr h))
  ·rintro((h|h)|h|h|h)
   ·exact .inr (.inl h)
   ·exact .inl (.inl h)
   ·exact .inr (.inr (.inl h))
   ·exact .inl (.inr h)
   ·exact .inr (.inr (.inr h))
 have FM:FrOk w s₄ M mine noOwn csc cenv (J9W csc ρ):=F4.weaken (λb hb=>(hM b).mp hb) λb hb=>(hM b).mpr (List.mem_append.mpr (.inl hb))
 have CM:Cx w mg mb s₄ M:=by
  have C4:Cx w mg mb s₄ ms:=(C2.keeps k3).keeps k4
  have C5:Cx w mg mb s₄ ((mine++D::wr)++ms):=C4.grow λb hb=>by
   rcases List.mem_append.mp hb with hb|hb
   ·refine o01 (mine4 b hb) λh1 h2=>?_
    exact⟨Nat.le_trans hDN (Nat.le_trans (by rw[hsz3];exact Nat.le_succ D) h1),h2⟩
   ·rcases List.mem_cons.mp hb with rfl|hb
    ·refine o10 hDo λo e=>?_;clear hDo
     exact⟨hDN,o,k4.hp _ _ e⟩
    ·refine o10 ((hw b hb).2) λo e=>?_
     exact⟨(hw b hb).1.lo C,o,(k3.tr k4).hp _ _ e⟩
  exact C5.less λb hb=>by
   have:=(hM b).mp hb
   simpa only[List.mem_append,List.mem_cons,or_assoc]using this
 have hDM:D∈M:=(hM D).mpr (by simp)
 have acc3:Acc D M s₃ []:=by rw[<-hs3,<-hD];exact hacc s₂ M C2.big
 have acc4:Acc D M s₄ []:=(AC D).frame M s₃ s₄ [] acc3 k4.t λb o _ e=>k4.hp b o e
 have hDn:D∉mine:=λhm=>J7x (mine4 D hm).1 hsz3
 have hDf: ¬Fa noOwn cenv D:=λh=>by
  rcases fa4 h with h|⟨o,h⟩
  ·exact J7x h hsz3
  ·rw[hDs]at h;cases h
 have mid:Mid w mg mb (Acc D) D csc cenv mine M (J9W csc ρ) [] s₄:=⟨CM,FM,hDM,acc4,cells4'⟩
 have stM:StM M 0 s₄:=WM.mv (wr++ms) M 0 s₂ s₄ st0 ⟨(k3.tr k4).t,λb hb=>(hM b).mpr (by simp[hb]),λb _ o e=>(k3.tr k4).hp b o e,λb o e hn=>⟨(k3.tr k4).hp b o e,λhm=>by
  have:=(hM b).mp hm
  rcases List.mem_append.mp this with h|h
  ·exact clash (mine4 b h).1 (hD▸Heap.lt_size e) hsz3
  ·rcases List.mem_cons.mp h with rfl|h
   ·rw[hD0]at e;cases e
   ·exact hn h⟩⟩
 have hwr: ∀b∈wr,¬Fa noOwn cenv b/\ b∉mine/\ b≠D:=λb hb=>by
  have hlt:=wrlt b hb
  refine⟨λh=>?_,λhm=>?_,Nat.ne_of_lt hlt⟩
  ·rcases fa4 h with h|⟨o,h⟩
   ·exact clash h hlt hsz3
   ·rw[(hw b hb).1.none]at h;cases h
  ·exact clash (mine4 b hm).1 hlt hsz3
 have loop:codeAny (model pw w) A (.compLoop e 0 (.ref I) (.ref D) cenv) (RR (.ref D) s₃.heap.objs.size) s₄:=by
  refine J7D S hA (AC D) (EM D cenv) (T D cenv) hDn hDf (λg hg=>?_) (⟨t,it,ifs,0⟩::gs) 0 rfl items items 0 (J9W csc ρ) out s₄ M I wr pairs (StM M) [] _ rfl (Nat.zero_le _) hcl (λg gs' h=>(List.cons.inj h).1▸hok) (WM.at' _ _ _ stM) stM mid hwr (by simpa using hlen) λs' k acc F=>?_
  ·exact(List.mem_cons.mp hg).elim (λq=>q▸rfl) (has g)
  ·have k04:=k23.tr k4
   refine hRR D s₃.heap.objs.size s' ⟨⟨?_,Nat.le_trans k04.t k.t⟩,o10 F.locNs λm e=>⟨m,hloc4▸e⟩,hDs,?_,λq=>J7x (Nat.le_of_eq q.symm) hsz3,hDN,Nat.le_trans hDN (by rw[hsz3];exact Nat.le_succ D)⟩ ?_
   ·refine o21 k04.k λh4 t4 e4 _=>o20 k.same λh5 t5 e5=>⟨h5,t5,by rw[e5,e4],λb o e=>?_⟩
    have no: ∀{P:Prop},s.heap.get? b=none ->P:=λh=>nn (h.symm.trans e)
    rw[<-show s'.heap=h5 by rw[e5]]
    exact k.h b o (λhm=>no (hw b hm).1.none) (λhm=>(List.mem_append.mp hm).elim (λhm=>(List.mem_cons.mp hm).elim (λq=>no (q▸hDs)) λhm=>absurd (Heap.lt_size (k23.hp b o e)) (Nat.not_lt.mpr (mine4 b hm).1)) λhm=>no (hw b hm).1.none) (k04.hp b o e)
   ·cases q:s.heap.get? s₃.heap.objs.size with
    |none=>rfl
    |some o=>exact absurd (Heap.lt_size (k23.hp _ _ q)) (Nat.lt_irrefl _)
   ·exact(AC D).less _ (cl++wr) s' out acc
 have hg:(⟨t,it,ifs,0⟩::gs:List Comprehension)[0]?=some ⟨t,it,ifs,0⟩:=rfl
 exact KO (T D cenv) hg loop ((WM.at' _ _ _ stM).self 0 s₄ _ _ stM loop)
end
noncomputable def putV (k:Key) (v:Value):List (Key×Value) ->List (Key×Value)
 |[]=>[(k,v)]
 |(j,x)::r=>if j=k then(j,v)::r else(j,x)::putV k v r
theorem VY (k:Key) (v:Value) (kvs:List (Key×Value)) (hn:(kvs.map (·.1)).Nodup):stored kvs k v=putV k v kvs:=by
 induction kvs with
 |nil=>rfl
 |cons jx r ih=>
  obtain⟨j,x⟩:=jx
  refine o01 (List.nodup_cons.mp hn) λh1 h2=>?_
  replace ih:=ih h2
  show _=if j=k then(j,v)::r else(j,x)::putV k v r
  by_cases hj:j=k
  ·rw[if_pos hj]
   unfold stored
   rw[if_pos (by simp[hj]),List.map_cons,if_pos hj]
   congr 1
   conv=>rhs;rw[<-List.map_id r]
   refine List.map_congr_left λkv hkv=>?_
   rw[if_neg]
   ·rfl
   ·intro e
    exact h1 (by rw[hj,<-e];exact List.mem_map.mpr ⟨kv,hkv,rfl⟩)
  ·rw[if_neg hj,<-ih]
   unfold stored
   by_cases ha:r.any (λkv=>kv.1=k)=true
   ·rw[if_pos (by rw[List.any_cons,ha,Bool.or_true]),if_pos ha,List.map_cons,if_neg hj]
   ·rw[if_neg (by rw[List.any_cons];simp only[hj,decide_false,Bool.false_or];exact ha),if_neg ha]
    rfl
section
variable {w:World} {s:Shared} {ms:List Addr}
theorem RepK.put {k:Key} {v:Value} {d:D} {kvs:List (Key×Value)} {ds:List (Key×D)} (y:RepK w s ms kvs ds) (r:Rep w s ms v d):RepK w s ms (putV k v kvs) (JY k d ds):=by
 refine y.ind (P:=λkvs ds=>RepK w s ms (putV k v kvs) (JY k d ds)) (.cons r .nil) λj u e us es x y ih=>?_
 show RepK w s ms (if j=k then(j,v)::us else(j,u)::putV k v us) (if j=k then(j,d)::es else(j,e)::JY k d es)
 by_cases h:j=k
 ·rw[if_pos h,if_pos h];exact .cons r y
 ·rw[if_neg h,if_neg h];exact .cons x ih
end
theorem J3R (k:Key) (d:D) (ds:List (Key×D)):(JY k d ds).length<=ds.length+1:=by
 induction ds with
 |nil=>exact Nat.le_refl _
 |cons x r ih=>
  show(if x.1=k then(x.1,d)::r else x::JY k d r).length<=_
  by_cases h:x.1=k
  ·rw[if_pos h];exact Nat.le_succ _
  ·rw[if_neg h];exact Nat.succ_le_succ ih
theorem ZQ: ∀(kvs ds:List (Key×D)),(kvs.foldl (λl kv=>JY kv.1 kv.2 l) ds).length<=ds.length+kvs.length
 |[],ds=>Nat.le_refl _
 |kv::r,ds=>by
  have:=ZQ r (JY kv.1 kv.2 ds)
  have:=J3R kv.1 kv.2 ds
  simp only[List.foldl_cons,List.length_cons]at*
  lia
theorem DictOf.nodup {w:World} {h:Heap} {a:Addr} {kvs:List (Key×Value)} (x:h.DictOf (mixKind pw w) a kvs):(kvs.map (·.1)).Nodup:=let⟨_,_,_,_,_,_,_,_,n⟩:=x;n
theorem J0s {w:World} {A:Around} {E:Value ->Shared ->Prop} {s:Shared} {D:Addr} {kvs:List (Key×Value)} {k:Key} {key v:Value} {Q:Unit ->Shared ->Prop} (hkey:(mixKind pw w).is k key=true) (hm:DcAt w s.heap D kvs) (hsz:kvs.length<=1000000)
  (hQ: ∀h',DcAt w h' D (putV k v kvs) ->Heap.SameBut D s.heap h' ->Q () {s with heap:=h',toks:=s.toks+1}):wpAny (model pw w) A (dictSet D key v) Q E s:=
 wpAny_dictSet_pairs hkey hm.1 (λh' hd hs=>hQ h' ⟨by rw[<-VY k v kvs (DictOf.nodup hm.1)];exact hd,hm.2⟩ hs) (by rw[sizeLine_eq];lia)
noncomputable def AccL (w:World) (D:Addr) (M:List Addr) (s:Shared) (xs:List Internal.D):Prop:= ∃vs,LsAt s.heap D vs/\ RepL w s M vs xs
noncomputable def AccD (w:World) (D:Addr) (M:List Addr) (s:Shared) (xs:List (Key×Internal.D)):Prop:= ∃kvs,DcAt w s.heap D kvs/\ RepK w s M kvs (xs.foldl (λl kv=>JY kv.1 kv.2 l) [])
theorem J0a {M:List Addr} {s s':Shared} {D:Addr} (t:s.toks<=s'.toks) (h: ∀b o,(b=D∨b∉M) ->s.heap.get? b=some o ->s'.heap.get? b=some o):Past s M s' M:=⟨t,λb o e n=>⟨h b o (.inr n) e,n⟩⟩
theorem J2R {M wr:List Addr} {s:Shared} (h: ∀b∈wr,s.heap.get? b=none):Past s M s (wr++M):=⟨Nat.le_refl _,λb o e n=>⟨e,λm=>(List.mem_append.mp m).elim (λm=>by rw[h b m]at e;cases e) n⟩⟩
theorem J7b (w:World) (D:Addr):AccOk D (AccL w D) where
 frame:=λM s s' xs ⟨vs,⟨n,e⟩,r⟩ t h=>⟨vs,⟨n,h D _ (.inl rfl) e⟩,r.past (J0a t h)⟩
 grow:=λM wr s xs ⟨vs,l,r⟩ h=>⟨vs,l,r.past (J2R h)⟩
 less:=λM wr s xs ⟨vs,l,r⟩=>⟨vs,l,r.weaken λb hb=>List.mem_append.mpr (.inr hb)⟩
 live:=λM s xs ⟨vs,⟨n,e⟩,r⟩=>⟨_,e⟩
theorem J7a (w:World) (D:Addr):AccOk D (AccD w D) where
 frame:=λM s s' xs ⟨kvs,⟨⟨o,es,ep,ho,q⟩,q'⟩,r⟩ t h=>⟨kvs,⟨⟨o,es,ep,h D _ (.inl rfl) ho,q⟩,q'⟩,r.past (J0a t h)⟩
 grow:=λM wr s xs ⟨vs,l,r⟩ h=>⟨vs,l,r.past (J2R h)⟩
 less:=λM wr s xs ⟨vs,l,r⟩=>⟨vs,l,r.weaken λb hb=>List.mem_append.mpr (.inr hb)⟩
 live:=λM s xs ⟨vs,⟨⟨o,es,ep,ho,q⟩,q'⟩,r⟩=>⟨_,ho⟩
theorem JS {s:Shared} {D:Addr} {h':Heap} {tk:Nat} (t:s.toks<=tk) (h:Heap.SameBut D s.heap h'):Kw [D] s {s with heap:=h',toks:=tk}:=⟨⟨_,_,rfl⟩,t,λb o n e=>h.extBut b o (λq=>n (by rw[q];exact List.mem_singleton.mpr rfl)) e⟩
section
variable {L:Lv} {n:Nat} {w:World} {mg mb:Str ->Option Value} {A:Around} {csc:Scope}
theorem ZI {E:Value ->Shared ->Prop} {s:Shared} {M:List Addr} {D:Addr} {vs:List Value} {v:Value} {Q:Value ->Shared ->Prop} (hl:LsAt s.heap D vs) (hD:D∈M) (hsz:vs.length<=1000000)
  (hQ: ∀s',Kw [D] s s' ->LsAt s'.heap D (vs++[v]) ->Q .none s'):wpAny (model pw w) A (call (.builtin "list.append") [.ref D,v]) Q E s:=by
 refine wpAny_list_append_plain (items:=vs.toArray) hl (λh' hp hs=>?_) (by rw[sizeLine_eq];simp;lia)
 refine hQ _ (JS (tk:=s.toks) (Nat.le_refl _) hs) ?_
 refine o10 hp λn e=>?_;clear hp
 exact⟨n,by rw[e];simp⟩
theorem Jau (S:SoundE L n) (hA:AOk n A) (elt:PySem.Expr) (D:Addr) (cenv:Env):
  EmitOk w mg mb A csc cenv D (AccL w D) (λρ'=>(L.ev csc ρ' elt).map λd=>[d]) (do let _<-call (.builtin "list.append") [.ref D,<-eval elt cenv]):=by
 intro s M ρ xs ys E Q h C K hD hlen acc hQ
 refine mpd h λd h1 q1=>?_;clear h;subst q1
 refine wpAny_bind (S.ev h1 hA C K λv s1 k1 r1=>wpAny_bind ?_)
 refine o11 ((J7b w D).frame M s s1 xs acc k1.t λb o _ e=>k1.hp b o e) λvs hl r=>?_
 have hxs:=r.length
 have hl1:xs.length+1<=1000000:=by simpa using hlen
 refine ZI hl hD (by lia) λs2 k2 hl2=>wpAny_pure ?_
 have kp:Past s1 M s2 M:=k2.past λb hb=>by rw[List.mem_singleton.mp hb];exact hD
 exact hQ s2 ((k1.toKw [D]).tr k2) ⟨vs++[v],hl2,(r.past kp).append (.cons (r1.past kp) .nil)⟩
theorem Jat (S:SoundE L n) (hA:AOk n A) (kx vx:PySem.Expr) (D:Addr) (cenv:Env):
  EmitOk w mg mb A csc cenv D (AccD w D) (λρ'=>(L.ev csc ρ' kx).bind λa=>(Vb a).bind λa=>(L.ev csc ρ' vx).map λd=>[(a,d)]) (do
   let kv<-eval kx cenv
   let vv<-holding [kv] (eval vx cenv)
   standAt {kx.pos with endLine:=vx.pos.endLine,endCol:=vx.pos.endCol}
   holding [kv,vv] (dictSet D kv vv)):=by
 intro s M ρ xs ys E Q h C K hD hlen acc hQ
 refine bnd h λa h1 h2=>?_
 refine bnd h2 λk h3 h4=>?_
 refine mpd h4 λd h5 q1=>?_;clear h h2 h4;subst q1
 refine wpAny_bind (S.ev h1 hA C K λkv s1 k1 r1=>wpAny_bind (wpAny_holding (S.ev h5 hA (C.keeps k1) (K.keeps k1) λvv s2 k2 r2=>?_)))
 have k12:=k1.tr k2
 refine o11 ((J7a w D).frame M s s2 xs acc k12.t λb o _ e=>k12.hp b o e) λkvs hd r=>?_
 have hl:=r.length
 have hl2:=ZQ xs []
 simp only[List.length_nil,List.length_cons]at hl2 hlen
 refine wpAny_bind (wpAny_standAt (wpAny_holding (J0s (Y8 h3 (r1.kp k2)) hd (by lia) λh' hd' hs=>?_)))
 have k3:Kw [D] s2 {s2 with heap:=h',toks:=s2.toks+1}:=JS (Nat.le_succ _) hs
 have kp:=k3.past (ms:=M) λb hb=>by rw[List.mem_singleton.mp hb];exact hD
 refine hQ _ ((k12.toKw [D]).tr k3) ⟨putV k vv kvs,hd',?_⟩
 rw[List.foldl_append]
 exact(r.past kp).put (r2.past kp)
end
section
variable {L:Lv} {n:Nat} {w:World} {mg mb:Str ->Option Value} {A:Around} {E:Value ->Shared ->Prop} {s:Shared} {ms mine:List Addr} {own:Str ->Option Addr} {sc:Scope} {env:Env} {ρ:Rho}
structure LcAsk (L:Lv) (sc:Scope) (ρ:Rho) (elt:PySem.Expr) (g:Comprehension) (gs:List Comprehension) (csc:Scope) (items out:List D):Prop where
 ok:Js sc csc ρ=true
 as0: ∀x∈g::gs,x.is_async=0
 okt:okT (isPairs sc g.iter) g.target=true
 ns:Zb g.iter=true
 its:itE L sc ρ g.iter=some items
 cl:Jd L csc (λρ'=>(L.ev csc ρ' elt).map λd=>[d]) (g::gs) items (J9W csc ρ)=some out
 len:out.length<=1000000
theorem Jcs {elt:PySem.Expr} {gens:List Comprehension} {csc:Scope} {pos:Pos} {d:D} (h:evS theTop L sc ρ (.ListComp elt gens csc pos)=some d): ∃g gs items out,gens=g::gs/\ d= .lst out/\ LcAsk L sc ρ elt g gs csc items out:=by
 cases gens with
 |nil=>exact nn h
 |cons g gs=>
  refine J9 h λhc h=>bnd h λitems h1 h2=>mpd h2 λout h3 e=>bnd h3 λout' h4 h5=>J9 h5 λhl h5=>?_
  simp only[Bool.and_eq_true]at hc
  obtain⟨⟨⟨c1,c2⟩,c3⟩,c4⟩:=hc
  replace h5:=Option.some.inj h5
  subst h5 e
  exact⟨g,gs,items,_,rfl,rfl,c1,λx hx=>beq_iff_eq.mp (List.all_eq_true.mp c2 x hx),c3,c4,h1,h4,hl⟩
structure DcAsk (L:Lv) (sc:Scope) (ρ:Rho) (kx vx:PySem.Expr) (g:Comprehension) (csc:Scope) (items:List D) (out:List (Key×D)):Prop where
 ok:Js sc csc ρ=true
 as0:g.is_async=0
 okt:okT (isPairs sc g.iter) g.target=true
 ns:Zb g.iter=true
 its:itE L sc ρ g.iter=some items
 cl:Jd L csc (λρ'=>(L.ev csc ρ' kx).bind λa=>(Vb a).bind λa=>(L.ev csc ρ' vx).map λd=>[(a,d)]) [g] items (J9W csc ρ)=some out
 len:out.length<=1000000
theorem Jci {kx vx:PySem.Expr} {gens:List Comprehension} {csc:Scope} {pos:Pos} {d:D} (h:evS theTop L sc ρ (.DictComp kx vx gens csc pos)=some d):
  ∃g items out,gens=[g]/\ d= .dct (out.foldl (λl kv=>JY kv.1 kv.2 l) [])/\ DcAsk L sc ρ kx vx g csc items out:=by
 cases gens with
 |nil=>exact nn h
 |cons g gs=>
  cases gs with
  |cons=>exact nn h
  |nil=>
   refine J9 h λhc h=>bnd h λitems h1 h2=>mpd h2 λout h3 e=>bnd h3 λout' h4 h5=>J9 h5 λhl h5=>?_
   simp only[Bool.and_eq_true]at hc
   obtain⟨⟨⟨c1,c2⟩,c3⟩,c4⟩:=hc
   replace h5:=Option.some.inj h5
   subst h5 e
   exact⟨g,items,_,rfl,rfl,c1,beq_iff_eq.mp c2,c3,c4,h1,h4,hl⟩
theorem ZN {csc:Scope} (K:EnvOk w s ms own sc env ρ) (hc:Js sc csc ρ=true):closureFor csc env=pure (closeOf env csc.names []):=
 J5T λp hp hk=>by
  refine o21 (Y6 K hc (x:=p.1) (by rw[<-hk];exact hp)) λc v e _=>?_
  exact⟨c,e⟩
theorem J1f (S:SoundE L n) (hA:AOk n A) {elt:PySem.Expr} {g:Comprehension} {gs:List Comprehension} {csc:Scope} {pos:Pos} {items out:List D} (h:LcAsk L sc ρ elt g gs csc items out) (C:Cx w mg mb s ms) (K:EnvOk w s ms own sc env ρ)
  {use:Option (Value ->Sem Unit)} {Q:Value ->Shared ->Prop}
  (hQ: ∀D C s',CompDone s s' ms D C ->AccL w D (C::D::ms) s' out ->compPost (model pw w) A E use Q (.ref D) C (.ok .next) s'):
  wpAny (model pw w) A (comprehension (.ListComp elt (g::gs) csc pos) csc env (firstIterPos (g::gs) pos) (newList []) (firstAsync (g::gs)) (firstIter (g::gs) env) use) Q E s:=by
 obtain⟨t,it,ifs,as⟩:=g
 have h0:as=0:=h.as0 _ List.mem_cons_self
 subst h0
 refine wpAny_comprehension_free (gs:=gs) (g:=⟨t,it,ifs,0⟩) rfl (YQ h.ns env) (ZN K h.ok) (YE h.ok) (λx hx hl=>ZM h.ok (by rw[<-hl];exact hx)) ?_
 refine YW S h.its hA C K λitv s2 hb=>?_
 refine J1d S hA (Acc:=AccL w) (emit:=λD cenv=>(do let _<-call (.builtin "list.append") [.ref D,<-eval elt cenv])) (ob:={cls:= .type "list",data:= .seq #[] 0}) (J7b w) (λD cenv=>Jau S hA elt D cenv) (λD cenv=>J9y elt (⟨t,it,ifs,0⟩::gs) csc pos (.ref D) cenv)
  (λs₂ Q h=>wpAny_newObj_type h) (λs₂ M _=>⟨[],⟨0,Heap.get?_push_size _ rfl⟩,.nil⟩) rfl h.ok (λg hg=>h.as0 g (List.mem_cons_of_mem _ hg)) h.okt C K h.cl h.len hb λD C s' hd acc=>hQ D C s' hd acc
theorem J1e (S:SoundE L n) (hA:AOk n A) {kx vx:PySem.Expr} {g:Comprehension} {csc:Scope} {pos:Pos} {items:List D} {out:List (Key×D)} (h:DcAsk L sc ρ kx vx g csc items out) (C:Cx w mg mb s ms) (K:EnvOk w s ms own sc env ρ)
  {use:Option (Value ->Sem Unit)} {Q:Value ->Shared ->Prop}
  (hQ: ∀D C s',CompDone s s' ms D C ->AccD w D (C::D::ms) s' out ->compPost (model pw w) A E use Q (.ref D) C (.ok .next) s'):
  wpAny (model pw w) A (comprehension (.DictComp kx vx [g] csc pos) csc env (firstIterPos [g] pos) newDict (firstAsync [g]) (firstIter [g] env) use) Q E s:=by
 obtain⟨t,it,ifs,as⟩:=g
 have h0:as=0:=h.as0
 subst h0
 refine wpAny_comprehension_free (gs:=[]) (g:=⟨t,it,ifs,0⟩) rfl (YQ h.ns env) (ZN K h.ok) (YE h.ok) (λx hx hl=>ZM h.ok (by rw[<-hl];exact hx)) ?_
 refine YW S h.its hA C K λitv s2 hb=>?_
 refine J1d S hA (Acc:=AccD w) (emit:=λD cenv=>(do
   let kv<-eval kx cenv
   let vv<-holding [kv] (eval vx cenv)
   standAt {kx.pos with endLine:=vx.pos.endLine,endCol:=vx.pos.endCol}
   holding [kv,vv] (dictSet D kv vv))) (ob:={cls:= .type "dict",data:= .dict #[]}) (J7a w) (λD cenv=>Jat S hA kx vx D cenv) (λD cenv=>J9x kx vx [⟨t,it,ifs,0⟩] csc pos D cenv)
  (λs₂ Q h=>wpAny_newObj_type h) (λs₂ M hN=>⟨[],⟨Heap.DictOf.new s₂.heap,?_⟩,.nil⟩) rfl h.ok (λg hg=>absurd hg List.not_mem_nil) h.okt C K h.cl h.len hb λD C s' hd acc=>hQ D C s' hd acc
 have:sysModules<s₂.heap.objs.size:=Nat.lt_of_lt_of_le (by decide) hN
 exact beq_eq_false_iff_ne.mpr (Nat.ne_of_gt this)
theorem past_let {s':Shared} {C:Addr} {M:List Addr} {h':Heap} (hs:Heap.SameBut C s'.heap h') (hC:C∈M) {ms:List Addr} (hm: ∀b∈ms,b∈M):Past s' M {s' with heap:=h'} ms:=
 ⟨Nat.le_refl _,λb o e n=>⟨hs.extBut b o (λq=>n (q▸hC)) e,λm=>n (hm b m)⟩⟩
theorem CompDone.let {s':Shared} {D C:Addr} (x:CompDone s s' ms D C) {h':Heap} (hs:Heap.SameBut C s'.heap h'):Kp s {s' with heap:=h'}:=by
 obtain⟨⟨⟨h1,t1,rfl,k⟩,t⟩,_,_,fC,_,_,_⟩:=x
 exact⟨⟨h',t1,rfl,λb o e=>hs.extBut b o (λq=>by rw[q,fC]at e;cases e) (k b o e)⟩,t⟩
theorem Jct (S:SoundE L n) {elt:PySem.Expr} {gens:List Comprehension} {csc:Scope} {pos:Pos} {d:D} {Q:Value ->Shared ->Prop} (h:evS theTop L sc ρ (.ListComp elt gens csc pos)=some d) (hA:AOk n A) (C:Cx w mg mb s ms) (K:EnvOk w s ms own sc env ρ)
  (hQ: ∀D out s',Kp s s' ->s.heap.get? D=none ->N0<=D ->d= .lst out ->AccL w D (D::ms) s' out ->Q (.ref D) s'):wpAny (model pw w) A (eval (.ListComp elt gens csc pos) env) Q E s:=by
 refine o42 (Jcs h) λg gs items out q1 q2 ask=>?_;subst q1;clear h;subst q2
 rw[arm_eval_ListComp]
 refine J1f (use:=none) S hA ask C K λD C s' hd ⟨vs,⟨nn,hl⟩,r⟩=>?_
 refine o10 hd.ns λm hns=>?_
 refine⟨m,hns,λh' hs=>hQ D out _ (hd.let hs) hd.fD hd.nD rfl ⟨vs,⟨nn,hs.extBut D _ hd.ne hl⟩,r.past (past_let hs List.mem_cons_self λb hb=>List.mem_cons_of_mem _ hb)⟩⟩
theorem JeT (S:SoundE L n) {kx vx:PySem.Expr} {gens:List Comprehension} {csc:Scope} {pos:Pos} {d:D} {Q:Value ->Shared ->Prop} (h:evS theTop L sc ρ (.DictComp kx vx gens csc pos)=some d) (hA:AOk n A) (C:Cx w mg mb s ms) (K:EnvOk w s ms own sc env ρ)
  (hQ: ∀D out s',Kp s s' ->s.heap.get? D=none ->N0<=D ->d= .dct (out.foldl (λl kv=>JY kv.1 kv.2 l) []) ->AccD w D (D::ms) s' out ->Q (.ref D) s'):wpAny (model pw w) A (eval (.DictComp kx vx gens csc pos) env) Q E s:=by
 refine o32 (Jci h) λg items out q1 q2 ask=>?_;subst q1;clear h;subst q2
 rw[arm_eval_DictComp]
 refine J1e (use:=none) S hA ask C K λD C s' hd ⟨vs,⟨⟨o,es,ep,ho,q⟩,q'⟩,r⟩=>?_
 refine o10 hd.ns λm hns=>?_
 refine⟨m,hns,λh' hs=>hQ D out _ (hd.let hs) hd.fD hd.nD rfl ⟨vs,⟨⟨o,es,ep,hs.extBut D _ hd.ne ho,q⟩,q'⟩,r.past (past_let hs List.mem_cons_self λb hb=>List.mem_cons_of_mem _ hb)⟩⟩
theorem Cx.notin {D:Addr} (C:Cx w mg mb s ms) (h:s.heap.get? D=none):D∉ms:=λm=>by
 obtain⟨o,e⟩:=C.live D m
 rw[h]at e;cases e
theorem J9Z {D:Addr} {out:List Internal.D} {M:List Addr} (h:AccL w D M s out) (hm: ∀b∈ms,b∈M) (hD:D∉ms):Rep w s ms (.ref D) (.lst out):=by
 refine o11 h λvs hl r=>?_;clear h
 exact .lst hl hD (r.weaken hm)
theorem J9Y {D:Addr} {out:List (Key×Internal.D)} {M:List Addr} (h:AccD w D M s out) (hm: ∀b∈ms,b∈M) (hD:D∉ms):Rep w s ms (.ref D) (.dct (out.foldl (λl kv=>JY kv.1 kv.2 l) [])):=by
 refine o11 h λvs hl r=>?_;clear h
 exact .dct hl hD (r.weaken hm)
theorem KA (S:SoundE L n) {elt:PySem.Expr} {gens:List Comprehension} {csc:Scope} {pos:Pos} {d:D} {Q:Value ->Shared ->Prop} (h:evS theTop L sc ρ (.ListComp elt gens csc pos)=some d) (hA:AOk n A) (C:Cx w mg mb s ms) (K:EnvOk w s ms own sc env ρ)
  (hQ: ∀v s',Kp s s' ->Rep w s' ms v d ->Q v s'):wpAny (model pw w) A (eval (.ListComp elt gens csc pos) env) Q E s:=
 Jct S h hA C K λD out s' k hf _ e acc=>hQ _ s' k (by rw[e];exact J9Z acc (λb hb=>List.mem_cons_of_mem _ hb) (C.notin hf))
theorem Ks (S:SoundE L n) {kx vx:PySem.Expr} {gens:List Comprehension} {csc:Scope} {pos:Pos} {d:D} {Q:Value ->Shared ->Prop} (h:evS theTop L sc ρ (.DictComp kx vx gens csc pos)=some d) (hA:AOk n A) (C:Cx w mg mb s ms) (K:EnvOk w s ms own sc env ρ)
  (hQ: ∀v s',Kp s s' ->Rep w s' ms v d ->Q v s'):wpAny (model pw w) A (eval (.DictComp kx vx gens csc pos) env) Q E s:=
 JeT S h hA C K λD out s' k hf _ e acc=>hQ _ s' k (by rw[e];exact J9Y acc (λb hb=>List.mem_cons_of_mem _ hb) (C.notin hf))
end
noncomputable def Vk (w:World) (s:Shared) (M:List Addr) (D:Addr):Slot ->Prop
 | .val _=>False
 | .mls l=> ∃vs,LsAt s.heap D vs/\ RepL w s M vs l
 | .mdc l=> ∃kvs,DcAt w s.heap D kvs/\ RepK w s M kvs l
structure SoundN (L:Lv) (n:Nat):Prop where
 lst: ∀{sc:Scope} {ρ:Rho} {es:List PySem.Expr} {p:Pos} {d:D},L.ev sc ρ (.List es p)=some d -> ∃l,d= .lst l
 new: ∀{sc:Scope} {ρ:Rho} {e:PySem.Expr} {d:D} {u:Slot},L.ev sc ρ e=some d ->JaR e=true ->J3h d=some u -> ∀{w:World} {mg mb:Str ->Option Value} {A:Around} {E:Value ->Shared ->Prop} {s:Shared} {ms:List Addr} {own:Str ->Option Addr} {env:Env} {Q:Value ->Shared ->Prop},
  AOk n A ->Cx w mg mb s ms ->EnvOk w s ms own sc env ρ ->(∀D s',Kp s s' ->s.heap.get? D=none ->N0<=D ->Vk w s' (D::ms) D u ->Q (.ref D) s') ->wpAny (model pw w) A (eval e env) Q E s
 use: ∀{sc:Scope} {ρ:Rho} {elt:PySem.Expr} {gens:List Comprehension} {csc:Scope} {pos:Pos} {d:D},L.ev sc ρ (.ListComp elt gens csc pos)=some d -> ∀{w:World} {mg mb:Str ->Option Value} {A:Around} {E:Value ->Shared ->Prop} {s:Shared} {ms:List Addr} {own:Str ->Option Addr} {env:Env} {us:Value ->Sem Unit} {Q:Unit ->Shared ->Prop},
  AOk n A ->Cx w mg mb s ms ->EnvOk w s ms own sc env ρ ->(∀D C out s',CompDone s s' ms D C ->d= .lst out ->AccL w D (C::D::ms) s' out ->
   wpAny (model pw w) A (us (.ref D)) (λ_ s''=> ∃m,s''.heap.Ns C m/\ ∀h',Heap.SameBut C s''.heap h' ->Q () {s'' with heap:=h'}) E s') ->wpAny (model pw w) A (evalThenUse (.ListComp elt gens csc pos) env us) Q E s
 useD: ∀{sc:Scope} {ρ:Rho} {kx vx:PySem.Expr} {gens:List Comprehension} {csc:Scope} {pos:Pos} {d:D},L.ev sc ρ (.DictComp kx vx gens csc pos)=some d -> ∀{w:World} {mg mb:Str ->Option Value} {A:Around} {E:Value ->Shared ->Prop} {s:Shared} {ms:List Addr} {own:Str ->Option Addr} {env:Env} {us:Value ->Sem Unit} {Q:Unit ->Shared ->Prop},
  AOk n A ->Cx w mg mb s ms ->EnvOk w s ms own sc env ρ ->(∀D C out s',CompDone s s' ms D C ->d= .dct (out.foldl (λl kv=>JY kv.1 kv.2 l) []) ->AccD w D (C::D::ms) s' out ->
   wpAny (model pw w) A (us (.ref D)) (λ_ s''=> ∃m,s''.heap.Ns C m/\ ∀h',Heap.SameBut C s''.heap h' ->Q () {s'' with heap:=h'}) E s') ->wpAny (model pw w) A (evalThenUse (.DictComp kx vx gens csc pos) env us) Q E s
 sete: ∀(sc:Scope) (ρ:Rho) e gens csc pos,L.ev sc ρ (.SetComp e gens csc pos)=none
 slice: ∀(sc:Scope) (ρ:Rho) a b c p,L.ev sc ρ (.Slice a b c p)=none
section
variable {L:Lv} {n:Nat} {w:World} {mg mb:Str ->Option Value} {A:Around} {E:Value ->Shared ->Prop} {s s':Shared} {ms mine:List Addr} {own:Str ->Option Addr} {sc:Scope} {env:Env} {ρ:Rho}
theorem Jb2 (S:SoundE L n) {es:List PySem.Expr} {d:D} {pos:Pos} {Q:Value ->Shared ->Prop} (h:evS theTop L sc ρ (.List es pos)=some d) (hA:AOk n A) (C:Cx w mg mb s ms) (K:EnvOk w s ms own sc env ρ)
  (hQ: ∀D ds s',Kp s s' ->s.heap.get? D=none ->N0<=D ->d= .lst ds ->AccL w D (D::ms) s' ds ->Q (.ref D) s'):wpAny (model pw w) A (eval (.List es pos) env) Q E s:=by
 refine J9 h λhl h=>mpd h λds h1 e=>?_
 ·subst e
  refine wpAny_List (JD S h1 hA C K λvs s1 k1 r1=>⟨?_,hQ _ ds _ (k1.tr (Kp.push s1 _)) ?_ (C.keeps k1).big rfl ⟨vs,⟨_,Heap.get?_push_size _ rfl⟩,r1.past (Zf s1 ms _)⟩⟩)
  ·have e1:=r1.length
   have e2:=Yj h1
   rw[sizeLine_eq];lia
  ·cases q:s.heap.get? s1.heap.objs.size with
   |none=>rfl
   |some o=>exact absurd (Heap.lt_size (k1.hp _ _ q)) (Nat.lt_irrefl _)
theorem Jir {l:List D} {b d:D} (h:binD .Mult (.lst l) b=some d): ∃x y,l=[x]/\ b= .int y/\ 0<=y/\ y<=1000/\ d= .lst (List.replicate y.toNat x):=by
 cases b with
 |int y=>
  cases l with
  |nil=>exact nn h
  |cons x l=>
   cases l with
   |nil=>
    refine J9 (show(if JhC x&&(decide (0<=y)&&decide (y<=1000))then some (D.lst (List.replicate y.toNat x))else none)=some d from h) λq e=>?_
    simp only[Bool.and_eq_true,decide_eq_true_eq]at q
    exact⟨x,y,rfl,rfl,q.2.1,q.2.2,(Option.some.inj e).symm⟩
   |cons=>exact nn h
 |_=>cases l with
  |nil=>exact nn h
  |cons x l=>cases l with
   |nil=>exact nn h
   |cons=>exact nn h
theorem JdP (S:SoundE L n) (N:SoundN L n) {es:List PySem.Expr} {r:PySem.Expr} {d:D} {u:Slot} {pos p:Pos} {Q:Value ->Shared ->Prop} (h:evS theTop L sc ρ (.BinOp (.List es p) .Mult r pos)=some d) (hu:J3h d=some u) (hA:AOk n A) (C:Cx w mg mb s ms) (K:EnvOk w s ms own sc env ρ)
  (hQ: ∀D s',Kp s s' ->s.heap.get? D=none ->N0<=D ->Vk w s' (D::ms) D u ->Q (.ref D) s'):wpAny (model pw w) A (eval (.BinOp (.List es p) .Mult r pos) env) Q E s:=by
 refine bnd h λa h1 h2=>bnd h2 λb h3 h4=>?_
 obtain⟨l,rfl⟩:=N.lst h1
 refine o24 (Jir h4) λx y q2 q3 c1 c2 q4=>?_;subst q2;subst q3;clear h h2 h4;subst q4
 refine wpAny_BinOp (S.ev h1 hA C K λva s1 k1 ra=>S.ev h3 hA (C.keeps k1) (K.keeps k1) λvb s2 k2 rb=>?_)
 have fr:s.heap.get? s2.heap.objs.size=none:=by
  cases q:s.heap.get? s2.heap.objs.size with
  |none=>rfl
  |some o=>exact absurd (Heap.lt_size ((k1.tr k2).hp _ _ q)) (Nat.lt_irrefl _)
 refine rb.iE λu'=>(ra.kp k2).lE λla vs ha hn hl=>?_
 obtain⟨k,ha⟩:=ha
 cases hl with|cons r hl=>
 cases hl
 cases hu
 exact J1Q ha c1 c2 (hQ _ _ ((k1.tr k2).tr (Kp.push s2 _)) fr ((C.keeps k1).keeps k2).big ⟨_,⟨_,Heap.get?_push_size _ rfl⟩,RepL.replicate (r.past (Zf s2 ms _)) _⟩)
theorem JeY (S:SoundE L n) (N:SoundN L n) {e:PySem.Expr} {d:D} {u:Slot} {Q:Value ->Shared ->Prop} (h:evS theTop L sc ρ e=some d) (hn:JaR e=true) (hu:J3h d=some u) (hA:AOk n A) (C:Cx w mg mb s ms) (K:EnvOk w s ms own sc env ρ)
  (hQ: ∀D s',Kp s s' ->s.heap.get? D=none ->N0<=D ->Vk w s' (D::ms) D u ->Q (.ref D) s'):wpAny (model pw w) A (eval e env) Q E s:=by
 replace hn:Jfw (Je8 e)=true:=hn
 generalize Je8 e=z at hn
 induction z with
 |list=>exact Jb2 S h hA C K λD ds s' k hf hN hd acc=>hQ D s' k hf hN (by clear h;subst hd;clear hQ;cases hu;exact acc)
 |dict ks vs pos=>
  cases ks with
  |cons _ _=>exact nn h
  |nil=>
   cases vs with
   |cons _ _=>exact nn h
   |nil=>
    cases h
    cases hu
    have hN:N0<=s.heap.objs.size:=C.big
    have:sysModules<s.heap.objs.size:=Nat.lt_of_lt_of_le (by decide) hN
    exact wpAny_Dict_empty (hQ _ _ (Kp.push s _) (Ju s).none C.big ⟨[],⟨Heap.DictOf.new s.heap,beq_eq_false_iff_ne.mpr (Nat.ne_of_gt this)⟩,.nil⟩)
 |lcomp=>exact Jct S h hA C K λD ds s' k hf hN hd acc=>hQ D s' k hf hN (by clear h;subst hd;clear hQ;cases hu;exact acc)
 |mul=>exact JdP S N h hu hA C K hQ
 |other=>cases hn
theorem Jfh (S:SoundE L n) {elt:PySem.Expr} {gens:List Comprehension} {csc:Scope} {pos:Pos} {d:D} {us:Value ->Sem Unit} {Q:Unit ->Shared ->Prop} (h:evS theTop L sc ρ (.ListComp elt gens csc pos)=some d) (hA:AOk n A) (C:Cx w mg mb s ms) (K:EnvOk w s ms own sc env ρ)
  (hQ: ∀D C out s',CompDone s s' ms D C ->d= .lst out ->AccL w D (C::D::ms) s' out ->
   wpAny (model pw w) A (us (.ref D)) (λ_ s''=> ∃m,s''.heap.Ns C m/\ ∀h',Heap.SameBut C s''.heap h' ->Q () {s'' with heap:=h'}) E s'):wpAny (model pw w) A (evalThenUse (.ListComp elt gens csc pos) env us) Q E s:=by
 refine o42 (Jcs h) λg gs items out q1 q2 ask=>?_;subst q1;clear h;subst q2
 rw[arm_evalThenUse_ListComp]
 refine wpAny_bind (J1f (use:=some us) (Q:=λ_ s'=>wpAny (model pw w) A (pure ()) Q E s') S hA ask C K λD C s' hd acc=>wpAny_mono (hQ D C out s' hd rfl acc) (λ_ s'' h=>?_) λ_ _ x=>x)
 refine o11 h λm hns hq=>?_;clear h
 exact⟨m,hns,λh' hs=>wpAny_pure (hq h' hs)⟩
theorem JeU (S:SoundE L n) {kx vx:PySem.Expr} {gens:List Comprehension} {csc:Scope} {pos:Pos} {d:D} {us:Value ->Sem Unit} {Q:Unit ->Shared ->Prop} (h:evS theTop L sc ρ (.DictComp kx vx gens csc pos)=some d) (hA:AOk n A) (C:Cx w mg mb s ms) (K:EnvOk w s ms own sc env ρ)
  (hQ: ∀D C out s',CompDone s s' ms D C ->d= .dct (out.foldl (λl kv=>JY kv.1 kv.2 l) []) ->AccD w D (C::D::ms) s' out ->
   wpAny (model pw w) A (us (.ref D)) (λ_ s''=> ∃m,s''.heap.Ns C m/\ ∀h',Heap.SameBut C s''.heap h' ->Q () {s'' with heap:=h'}) E s'):wpAny (model pw w) A (evalThenUse (.DictComp kx vx gens csc pos) env us) Q E s:=by
 refine o32 (Jci h) λg items out q1 q2 ask=>?_;subst q1;clear h;subst q2
 rw[arm_evalThenUse_DictComp]
 refine wpAny_bind (J1e (use:=some us) (Q:=λ_ s'=>wpAny (model pw w) A (pure ()) Q E s') S hA ask C K λD C s' hd acc=>wpAny_mono (hQ D C out s' hd rfl acc) (λ_ s'' h=>?_) λ_ _ x=>x)
 refine o11 h λm hns hq=>?_;clear h
 exact⟨m,hns,λh' hs=>wpAny_pure (hq h' hs)⟩
end
theorem ZH {xs:List Str} {vs:List Value} (hn:xs.Nodup) (hl:vs.length=xs.length) {i:Nat} {x:Str} {v:Value} (h:xs[i]?=some x) (h':vs[i]?=some v):(xs.zip vs).lookup x=some v:=by
 induction xs generalizing vs i with
 |nil=>exact nn h
 |cons y ys ih=>cases vs with
  |nil=>exact nn h'
  |cons u us=>
   rw[List.zip_cons_cons,List.lookup_cons]
   cases i with
   |zero=>rw[Option.some.inj h,Option.some.inj h',beq_self_eq_true]
   |succ i=>rw[beq_eq_false_iff_ne.mpr λ(e:x=y)=>(List.nodup_cons.mp hn).1 (e▸List.mem_of_getElem? h)];exact ih (List.nodup_cons.mp hn).2 (Nat.succ.inj hl) h h'
theorem J0Z (xs:List Str) (vs:List Value) (l:List (Str×Value)) (hl:vs.length=xs.length) (h: ∀(i:Nat) (x:Str) (v:Value),xs[i]?=some x ->vs[i]?=some v ->l.lookup x=some v):xs.filterMap (λn=>(l.lookup n).map (n,·))=xs.zip vs:=by
 induction xs generalizing vs with
 |nil=>rfl
 |cons y ys ih=>cases vs with
  |nil=>exact Nat.noConfusion hl
  |cons u us=>
   rw[List.filterMap_cons,h 0 y u rfl rfl]
   exact congrArg ((y,u):: ·) (ih us (Nat.succ.inj hl) λi=>h (i+1))
theorem J9R: ∀(xs:List Str) (vs:List Value),xs.Nodup ->vs.length=xs.length ->xs.filter (λn=>((xs.zip vs).lookup n).isNone)=[]:=λxs vs hn hl=>by
 rw[List.filter_eq_nil_iff]
 intro x hx
 obtain⟨i,hi,rfl⟩:=List.mem_iff_getElem.mp hx
 rw[ZH hn hl (List.getElem?_eq_getElem hi) (List.getElem?_eq_getElem (by lia:i<vs.length))]
 simp
theorem Yu {fd:FuncData} {f:Fn} (K:FdOk fd f) {vs:List Value} (hl:vs.length=f.params.length):bindArgs fd ⟨vs,[]⟩=pure (f.params.zip vs):=by
 have e1:=K.params;have e2:=K.posonly;have e3:=K.vararg;have e4:=K.kwonly;have e5:=K.kwarg;have e6:=K.dflt;have hn:=K.nodup
 generalize f.params=ps at e1 hl hn⊢
 clear K
 obtain⟨a1,a2,a3,a4,a5,a6,a7,a8,a9⟩:=fd
 obtain⟨b1,b2,b3,b4,b5,b6,b7⟩:=a3
 replace e1:b2.map (·.arg)=ps:=e1
 cases e2;cases e3;cases e4;cases e5;cases e6
 refine(if_neg ?_).trans ((if_neg ?_).trans ?_)
 ·show¬(decide (vs.length>(b2.map (·.arg)).length)&&true)=true
  rw[e1,decide_eq_false (by lia)];decide
 ·show¬(!(((b2.map (·.arg)).take ((b2.map (·.arg)).length-(([]:List Value).drop (0-(b2.map (·.arg)).length)).length)).filter λn=>(((b2.map (·.arg)).zip vs).lookup n).isNone).isEmpty)=true
  rw[e1,List.drop_nil,show([]:List Value).length=0 from rfl,Nat.sub_zero,List.take_length,J9R _ _ hn hl];decide
 ·show(forIn (((b2.map (·.arg)).drop ((b2.map (·.arg)).length-(([]:List Value).drop (0-(b2.map (·.arg)).length)).length)).zip (([]:List Value).drop (0-(b2.map (·.arg)).length))) ((b2.map (·.arg)).zip vs) _>>=_)=_
  rw[List.drop_nil,List.zip_nil_right,e1]
  exact congrArg (pure:List (Str×Value) ->Sem _) ((congrArg (List.filterMap _) (List.append_nil ps)).trans (J0Z _ _ _ hl λ_ _ _ a b=>ZH hn hl a b))
theorem J7l {k:Str ->Option NameKind} {x:Str} {binds:List (Str×Value)} {m:Str ->Option Value} (h: ∀p∈binds,p.1≠x):bindL k binds m x=m x:=by
 induction binds generalizing m with
 |nil=>rfl
 |cons p r ih=>
  obtain⟨n,v⟩:=p
  unfold bindL
  rw[ih λp hp=>h p (List.mem_cons_of_mem _ hp)]
  have hn:x≠n:=λe=>h _ List.mem_cons_self e.symm
  split
  ·exact if_neg hn
  ·rfl
theorem J7k {k:Str ->Option NameKind} {x:Str} {binds:List (Str×Value)} {m:Str ->Option Value} (h: ∀p∈binds,p.1≠x):bindC k binds m x=m x:=by
 induction binds generalizing m with
 |nil=>rfl
 |cons p r ih=>
  obtain⟨n,v⟩:=p
  unfold bindC
  rw[ih λp hp=>h p (List.mem_cons_of_mem _ hp)]
  have hn:x≠n:=λe=>h _ List.mem_cons_self e.symm
  split
  ·rfl
  ·exact if_neg hn
theorem ZX {n x:Str} {v:Value} {r:List (Str×Value)} (h:(((n,v)::r).map (·.1)).Nodup) (e:x=n): ∀p∈r,p.1≠x:=λp hp q=>by
 rw[List.map_cons]at h
 exact(List.nodup_cons.mp h).1 (List.mem_map.mpr ⟨p,hp,q.trans e⟩)
theorem J0i {k:Str ->Option NameKind} {x:Str} {v:Value} {binds:List (Str×Value)} {m:Str ->Option Value} (hn:(binds.map (·.1)).Nodup) (hk:k x=some .local) (h:binds.lookup x=some v):bindL k binds m x=some v:=by
 induction binds generalizing m with
 |nil=>exact nn h
 |cons p r ih=>
  obtain⟨n,u⟩:=p
  unfold bindL
  rw[List.lookup_cons]at h
  cases e:x==n with
  |true=>
   rw[e]at h
   have e:=eq_of_beq e
   rw[J7l (ZX hn e),if_pos (e▸hk)]
   exact(if_pos e).trans h
  |false=>rw[e]at h;exact ih (List.nodup_cons.mp hn).2 h
theorem Ja4 {k:Str ->Option NameKind} {x:Str} {v:Value} {binds:List (Str×Value)} {m:Str ->Option Value} (hn:(binds.map (·.1)).Nodup) (hk:k x≠some .local) (h:binds.lookup x=some v):bindC k binds m x=some v:=by
 induction binds generalizing m with
 |nil=>exact nn h
 |cons p r ih=>
  obtain⟨n,u⟩:=p
  unfold bindC
  rw[List.lookup_cons]at h
  cases e:x==n with
  |true=>
   rw[e]at h
   have e:=eq_of_beq e
   rw[J7k (ZX hn e),if_neg (e▸hk)]
   exact(if_pos e).trans h
  |false=>rw[e]at h;exact ih (List.nodup_cons.mp hn).2 h
theorem J5I {xs:List Str} {vs:List Value} (h:vs.length=xs.length):(xs.zip vs).map (·.1)=xs:=by
 induction xs generalizing vs with
 |nil=>rfl
 |cons x xs ih=>cases vs with
  |nil=>exact Nat.noConfusion h
  |cons v vs=>exact congrArg (x:: ·) (ih (Nat.succ.inj h))
structure FrA (w:World) (s:Shared) (ms mine:List Addr) (own:Str ->Option Addr) (sc:Scope) (env:Env) (ρ:Rho):Prop where
 f:FrOk w s ms mine own sc env ρ
 cells: ∀x c,env.cells.lookup x=some c -> ∃o,s.heap.get? c=some o
noncomputable def JeE (w:World) (s:Shared) (ms:List Addr):Flow ->Fl ->Prop
 | .next,.next=>True
 | .cont,.cont=>True
 | .ret v,.ret d=>Rep w s ms v d
 |_,_=>False
structure Stepped (w:World) (mg mb:Str ->Option Value) (s:Shared) (ms mine:List Addr) (own:Str ->Option Addr) (sc:Scope) (env:Env) (hs:Str ->Bool) (ρ':Rho) (fl:Fl) (f:Flow) (s':Shared) (ms' mine':List Addr) (own':Str ->Option Addr):Prop where
 mv:Mv s ms mine s' ms' mine'
 C:Cx w mg mb s' ms'
 F:FrA w s' ms' mine' own' sc env ρ'
 fl:JeE w s' ms' f fl
 own: ∀x,hs x=false ->own' x=own x
structure SoundX (L:Lv) (n:Nat):Prop where
 ex: ∀{sc:Scope} {ρ ρ':Rho} {b:List Stmt} {fl:Fl},L.ex sc ρ b=some (ρ',fl) -> ∀{w:World} {mg mb:Str ->Option Value} {A:Around} {E:Value ->Shared ->Prop} {s:Shared} {ms mine:List Addr} {own:Str ->Option Addr} {env:Env} {Q:Flow ->Shared ->Prop},
  AOk n A ->Cx w mg mb s ms ->FrA w s ms mine own sc env ρ ->(∀f s' ms' mine' own',Stepped w mg mb s ms mine own sc env (λx=>hasSts theTop x b) ρ' fl f s' ms' mine' own' ->Q f s') ->wpAny (model pw w) A (execs b env) Q E s
section
variable {L:Lv} {n:Nat} {w:World} {mg mb:Str ->Option Value} {A:Around} {E:Value ->Shared ->Prop} {s s':Shared} {ms mine:List Addr} {own:Str ->Option Addr} {sc:Scope} {env:Env} {ρ:Rho}
theorem J0b {M:List Addr} (k:Kp s s') (h: ∀b∈M,s.heap.get? b=none):Past s ms s' (M++ms):=⟨k.t,λb o e nn=>⟨k.hp b o e,λm=>(List.mem_append.mp m).elim (λm=>by rw[h b m]at e;cases e) nn⟩⟩
theorem J3U {b:Addr} (h:s.heap.objs.size<=b):s.heap.get? b=none:=(Jz h).none
theorem JaD {f:Fn} {fd:FuncData} {a:Addr} (K:FdOk fd f) {vs:List Value} (hl:vs.length=f.params.length) (C:Cx w mg mb s ms) {s₁:Shared} (k:Kp s s₁) (henv:env=callEnvC fd s.heap.objs.size a)
  (x:InCallC s env.locals (bindL env.kindOf (f.params.zip vs) λ_=>none) env.cells (bindC env.kindOf (f.params.zip vs) λ_=>none) s₁) {ρ0:Rho} {own0:Str ->Option Addr} {ols:List Addr}
  (hols: ∀z b,own0 z=some b ->b∈ols) (holm: ∀b∈ols,b∈ms) (hinj: ∀y z b,own0 y=some b ->own0 z=some b ->y=z)
  (hρ: ∀y u,ρ0.lookup y=some u -> ∃v,(f.params.zip vs).lookup y=some v/\ SlotRep w s ms own0 y v u):
  ∃fr,(∀b∈fr,s.heap.get? b=none)/\ Cx w mg mb s₁ (fr++ms)/\ FrA w s₁ (fr++ms) (fr++ols) own0 f.scope env ρ0:=by
 have hloc:env.locals=s.heap.objs.size:=by rw[henv];rfl
 have hcs:env.cells=cellsFrom (s.heap.objs.size+1) fd.scope.names []:=by rw[henv];rfl
 have hkind: ∀y,env.kindOf y=f.scope.names.lookup y:=λy=>by rw[henv,<-K.scope];rfl
 have ha: ∀y c,env.cells.lookup y=some c ->s.heap.objs.size<=c/\ env.locals<c/\ ∃o,s₁.heap.get? c=some o:=λy c h=>by
  have hlt:=x.above y c (mem_of_lookup h)
  refine o11 (x.cell y c h) λo e _=>?_
  exact⟨Nat.le_of_lt (hloc▸hlt),hlt,o,e⟩
 let fr:List Addr:=env.locals::f.scope.names.filterMap λp=>env.cells.lookup p.1
 have hfr: ∀b∈fr,s.heap.objs.size<=b/\ ∃o,s₁.heap.get? b=some o:=λb hb=>by
  rcases List.mem_cons.mp hb with rfl|hb
  ·refine o31 x.toInCall.ns λo _ _ e _=>?_
   exact⟨Nat.le_of_eq hloc.symm,o,e⟩
  ·refine o11 (List.mem_filterMap.mp hb) λq1 _ h=>?_;obtain⟨y,q⟩:=q1
   refine o02 (ha y b h) λh1 _ h2=>?_
   exact⟨h1,h2⟩
 have hno: ∀b∈fr,s.heap.get? b=none:=λb hb=>J3U (hfr b hb).1
 have p1:Past s ms s₁ (fr++ms):=J0b k hno
 have hlt: ∀b∈ms,b<s.heap.objs.size:=λb hb=>let⟨o,e⟩:=C.live b hb;Heap.lt_size e
 have hkeys:=J5I hl
 refine⟨fr,hno,(C.keeps k).grow λb hb=>⟨Nat.le_trans C.big (hfr b hb).1,(hfr b hb).2⟩,⟨⟨⟨⟨?_,?_,?_,?_,?_,?_,?_,?_⟩,?_⟩,?_,⟨_,x.toInCall.ns⟩,?_,?_,?_,?_,?_,hinj⟩,λy c h=>(ha y c h).2.2⟩⟩
 ·rw[henv];exact K.globals
 ·rw[henv];exact K.builtins
 ·rw[henv];exact K.kind
 ·intro y hy;rw[hkind,hy]
 ·intro y hy;rw[hkind,hy]
 ·intro y hy;exact absurd hy (K.nofree y)
 ·intro y hy;rw[hkind,hy]
 ·intro y hy
  rcases hy with hy|hy
  ·rw[hcs]
   refine o10 (YO (n:=s.heap.objs.size+1) (mem_of_lookup (show fd.scope.names.lookup y=some .cell by rw[K.scope];exact hy))) λc hc=>?_
   exact J5 hc
  ·exact absurd hy (K.nofree y)
 ·intro y u hu hv
  refine o11 (hρ y u hu) λv h1 h2=>?_
  refine⟨v,?_,h2.move p1 λb hb o e=>k.hp b o e⟩
  have hyp:y∈f.params:=by
   rw[<-hkeys]
   exact List.mem_map.mpr ⟨(y,v),mem_of_lookup h1,rfl⟩
  have hnd:((f.params.zip vs).map (·.1)).Nodup:=by rw[hkeys];exact K.nodup
  rcases K.bnd y hyp with hy|hy
  ·have hy':env.kindOf y=some .local:=by rw[hkind,hy]
   exact .inl ⟨hy',_,x.toInCall.ns,J0i hnd hy' h1⟩
  ·have hy':env.kindOf y=some .cell:=by rw[hkind,hy]
   refine o10 (YO (n:=s.heap.objs.size+1) (mem_of_lookup (show fd.scope.names.lookup y=some .cell by rw[K.scope];exact hy))) λc hc=>?_
   refine o10 (J5 hc) λc' hc'=>?_
   rw[<-hcs]at hc'
   have hcell:=x.cell y c' hc'
   rw[Ja4 hnd (by rw[hy'];decide) h1]at hcell
   exact .inr ⟨.inl hy',c',hc',hcell⟩
 ·intro b hb
  rcases List.mem_append.mp hb with h|h
  ·exact List.mem_append.mpr (.inl h)
  ·exact List.mem_append.mpr (.inr (holm b h))
 ·exact List.mem_append.mpr (.inl List.mem_cons_self)
 ·intro y c hy h
  refine⟨List.mem_append.mpr (.inl (List.mem_cons_of_mem _ (List.mem_filterMap.mpr ⟨_,mem_of_lookup hy,h⟩))),_,x.cell y c h⟩
 ·intro y c h
  exact Nat.ne_of_gt (ha y c h).2.1
 ·intro y z c hy h h'
  exact name_of_addr x.apart (mem_of_lookup h) (mem_of_lookup h')
 ·intro y b h
  have hb:=holm b (hols y b h)
  refine o10 (C.live b hb) λo e=>?_
  refine⟨List.mem_append.mpr (.inr (hols y b h)),?_,λz hz=>?_,o,k.hp b o e⟩
  ·rw[hloc];exact Nat.ne_of_lt (hlt b hb)
  ·exact absurd (hlt b hb) (Nat.not_lt.mpr (ha z b hz).1)
theorem J7s (X:SoundX L n) {f:Fn} {a:Addr} {vs:List Value} {ρ0 ρ':Rho} {d:D} {own0:Str ->Option Addr} {ols:List Addr} (h:L.ex f.scope ρ0 f.body=some (ρ',.ret d)) (hA:AOk (n+1) A) (C:Cx w mg mb s ms) (hf:Zh s.heap a f)
  (hl:vs.length=f.params.length) (hols: ∀z b,own0 z=some b ->b∈ols) (holm: ∀b∈ols,b∈ms) (hinj: ∀y z b,own0 y=some b ->own0 z=some b ->y=z)
  (hρ: ∀y u,ρ0.lookup y=some u -> ∃v,(f.params.zip vs).lookup y=some v/\ SlotRep w s ms own0 y v u) {Q:Value ->Shared ->Prop}
  (hQ: ∀v s' ms' mine' own' env,Kw ols s s' ->(∀b∈ms,b∉ols ->b∈ms') ->Cx w mg mb s' ms' ->FrA w s' ms' mine' own' f.scope env ρ' ->(∀z,hasSts theTop z f.body=false ->own' z=own0 z) ->Rep w s' ms' v d ->Q v s'):
  wpAny (model pw w) A (call (.ref a) vs) Q E s:=by
 refine o24 hf λo fd ho hc hd K hrec=>?_;clear hf
 refine wpAny_call (codeAny_call_function hA.room ho hd K.co K.gen K.body hrec ?_)
 rw[Yu K hl,K.closure]
 refine wpAny_pure ?_
 have hbk: ∀x∈f.params.zip vs,fd.scope.names.lookup x.1=some .local∨(fd.scope.names.lookup x.1=some .cell/\ ((cellsFrom (s.heap.objs.size+1) fd.scope.names []).lookup x.1).isSome=true):=λx hx=>by
  have hxp:x.1∈f.params:=J5I hl▸List.mem_map.mpr ⟨x,hx,rfl⟩
  rw[K.scope]
  exact(K.bnd x.1 hxp).imp id λhy=>o10 (YO (n:=s.heap.objs.size+1) (mem_of_lookup hy)) λc hc=>o10 (J5 hc) λc' hc'=>⟨hy,by rw[hc'];rfl⟩
 refine up (wpAny_newFunctionEnv_cells K.kind hbk (Q:=λenv s₁=>env=callEnvC fd s.heap.objs.size a/\ InCallC s env.locals (bindL env.kindOf (f.params.zip vs) λ_=>none) env.cells (bindC env.kindOf (f.params.zip vs) λ_=>none) s₁) λenv he s₁ x=>⟨he,x⟩) λenv s₁ ht q=>?_
 have x:=q.2
 have k:Kp s s₁:=⟨o20 x.toInCall.same λh' tk e=>⟨h',tk,e,λb o hb=>by rw[<-show s₁.heap=h' by rw[e]];exact x.toInCall.keep b o hb⟩,ht⟩
 refine⟨C.glob.nolim.keeps k.hp,codeAny_func ?_⟩
 refine o12 (JaD K hl C k q.1 x hols holm hinj hρ) λfr hno C1 F1=>X.ex h hA.deeper C1 F1 λfl s' ms' mine' own' st=>?_
 have hfl:=st.fl
 clear hbk q x hols holm hinj hρ ho hd hrec F1 C1
 cases fl with
 |ret v=>
  have cl: ∀{b o} {P:Prop},s.heap.get? b=some o ->b∈fr ->P:=λe hm=>nn ((hno _ hm).symm.trans e)
  exact hQ v s' ms' mine' own' env ⟨o21 k.k λh0 t0 e0 _=>o20 st.mv.same λh' tk e'=>⟨h',tk,by rw[e',e0]⟩,Nat.le_trans k.t st.mv.t,λb o hb e=>st.mv.keep b o (k.hp b o e) λhm=>(List.mem_append.mp hm).elim (cl e) hb⟩
   (λb hb hn=>o10 (C.live b hb) λo e=>st.mv.still b (List.mem_append.mpr (.inr hb)) λhm=>(List.mem_append.mp hm).elim (cl e) hn) st.C st.F st.own hfl
 |_=>exact hfl.elim
theorem Vp {xs:List Str} {vs:List Value} {ds:List D} {y:Str} {u:Slot} (rs:RepL w s ms vs ds) (h:(bindAll xs ds).lookup y=some u): ∃v,(xs.zip vs).lookup y=some v/\ SlotRep w s ms own y v u:=by
 refine rs.ind (P:=λvs ds=> ∀xs,(bindAll xs ds).lookup y=some u -> ∃v,(xs.zip vs).lookup y=some v/\ SlotRep w s ms own y v u) (λxs h=>?_) (λv d vs ds r _ ih xs h=>?_) xs h
 ·cases xs<;>exact nn h
 ·cases xs with
  |nil=>exact nn h
  |cons x xs=>
   replace h:((x,Slot.val d)::bindAll xs ds).lookup y=some u:=h
   rw[List.lookup_cons]at h
   rw[List.zip_cons_cons,List.lookup_cons]
   cases e:y==x with
   |true=>rw[e]at h;exact⟨v,rfl,Option.some.inj h▸r⟩
   |false=>rw[e]at h;exact ih xs h
theorem YB (X:SoundX L n) {f:Fn} {a:Addr} {vs:List Value} {ds:List D} {d:D} (h:callF L f ds=some d) (hA:AOk (n+1) A) (C:Cx w mg mb s ms) (hf:Zh s.heap a f) (rs:RepL w s ms vs ds) {Q:Value ->Shared ->Prop}
  (hQ: ∀v s',Kp s s' ->Rep w s' ms v d ->Q v s'):wpAny (model pw w) A (call (.ref a) vs) Q E s:=
 J9 h λhl h=>bnd h λr hex hr=>J7s X (show L.ex f.scope _ f.body=some (r.1,.ret d) by rw[<-J5r hr];exact hex) hA C hf (rs.length.trans (eq_of_beq hl).symm) (own0:=noOwn) (ols:=[]) (λ_ _ h=>nn h) (λ_ h=>absurd h List.not_mem_nil) (λ_ _ _ h=>nn h) (λy u h=>Vp rs h)
  λv s' ms' mine' own' env k hm _ _ _ r=>hQ v s' k.toKp (r.weaken λb hb=>hm b hb List.not_mem_nil)
end
section
variable {L:Lv} {n:Nat} {w:World} {mg mb:Str ->Option Value} {A:Around} {E:Value ->Shared ->Prop} {s s':Shared} {ms mine:List Addr} {own:Str ->Option Addr} {sc:Scope} {env:Env} {ρ:Rho}
theorem ObAt.inst {x:Addr} {v:Value} {h:Heap} (o:ObAt h ms x v): ∃mA,h.Inst x clsA mA/\ mA (nm "comp_select_list")=some v/\ mA (nm "compare")=none:=by
 obtain⟨mA,o,d,e1,e2,e3,e4,e5,e6,e7,e8,e9,e10,e11⟩:=o
 exact⟨mA,⟨o,e1,e2,e3,.inr ⟨d,e4,e5,e6⟩⟩,e10,e11⟩
theorem Jf7 {v:Value} {d:D} (r:Rep w s ms v d):handedOut v=pure v:=by cases r<;>rfl
theorem J0O (name:Str) (h:(name==nm "comp_select_list"||name==nm "compare")=true):typeLookup (.type "object") name=pure none:=by
 rcases Bool.or_eq_true_iff.mp h with h|h<;>rw[beq_iff_eq.mp h]
 ·rw[typeLookup_type,builtinLookup_eq_fast];kernel_rfl
 ·rw[typeLookup_type,builtinLookup_eq_fast];kernel_rfl
theorem J5N (S:SoundE L n) {o name:Str} {p pos:Pos} {d:D} {Q:Value ->Shared ->Prop} (h:evS theTop L sc ρ (.Attribute (.Name o p) name pos)=some d) (hA:AOk n A) (C:Cx w mg mb s ms) (K:EnvOk w s ms own sc env ρ)
  (hQ: ∀v s',Kp s s' ->Rep w s' ms v d ->Q v s'):wpAny (model pw w) A (eval (.Attribute (.Name o p) name pos) env) Q E s:=by
 refine J9 h λhn h=>bnd h λx h1 h2=>?_
 have hn:=eq_of_beq hn
 subst hn
 cases x with
 |obj x=>
  replace h2:=Option.some.inj h2
  subst h2
  refine Attribute_Name_ (S.ev h1 hA C K λv s1 k1 r1=>r1.oE λa u hob r=>?_) rfl
  refine o12 hob.inst λmA hI hv _=>?_
  have C1:=C.keeps k1
  refine o60 C1.glob.cls λN mN _ _ _ _ q=>o08 q λe1 e3 _ _ e6 _ _ _ _=>o90 e1.obj λ_ _ _ _ _ _ _ _ _ q=>o30 q λ_ _ _ e=>?_
  have e2:=e1.ns
  clear r1 hob C1 q e1
  obtain⟨hh,g,dr,t,os⟩:=s1
  exact load_attr e e2 e3 e6 (J0O _ (by decide+kernel)) hI hv (Jf7 r) (hQ _ _ (k1.tr (Kp.tok1 _)) (r.kp (Kp.tok1 _)))
 |_=>exact nn h2
theorem J0r (S:SoundE L n) (X:SoundX L n) {o:PySem.Expr} {es:List PySem.Expr} {x d:D} {ds:List D} {fn:Fn} {apos pos:Pos} {Q:Value ->Shared ->Prop} (hs:JO o=true) (hline:(apos.endLine==pos.line)=true) (hl:es.length<=4)
  (h1:J12 L sc ρ o=some (.obj x)) (h2:evL L sc ρ es=some ds) (hf:theTop.cmp=some fn) (h3:callF L fn (.obj x::ds)=some d) (hA:AOk (n+1) A) (C:Cx w mg mb s ms) (K:EnvOk w s ms own sc env ρ)
  (hQ: ∀v s',Kp s s' ->Rep w s' ms v d ->Q v s'):wpAny (model pw w) A (eval (.Call (.Attribute o (nm "compare") apos) es [] pos) env) Q E s:=by
 rw[arm_eval_Call,Vo hs]
 refine wpAny_bind (JA S h1 hA.pred C K λvo s1 k1 r1=>wpAny_bind (wpAny_standAt ?_))
 refine o22 r1.obj' λa v qv hob r=>?_
 rw[qv]
 refine o12 hob.inst λmA hI hv hnc=>?_
 have C1:=C.keeps k1
 refine o60 C1.glob.cls λN mN fI fC oI oC q=>o08 q λe1 e3 e4 _ _ _ _ _ q'=>o04 q' λ_ e11 e12 e13 e14=>?_
 have hform:methodCallForm (es.length+([]:List Keyword).length) (backTo pos (starEach es env)) (backToKw pos (keywordEach [] env))=true:=Zx S h2 hl
 have hpos:methodCallPos true o env apos pos=pure pos:=by unfold methodCallPos;simp[hline]
 unfold methodCall
 rw[hform]
 have hfn:Zh s1.heap fC fn:=e14 fn hf
 have hm:wpAny (model pw w) A (calleeOf true o env (.ref a) (nm "compare")) (λr s'=>s'=s1/\ r=(.ref fC,[.ref a])) E s1:=by
  refine o90 e1.obj λ_ _ _ _ _ _ _ _ _ q=>o30 q λ_ _ _ e=>?_
  have e2:=e1.ns
  clear k1 hob r1 r C1 q q' e14 hfn e1
  obtain⟨hh,g,dr,t,os⟩:=s1
  exact method_of e e2 e3 e4 e11 e12 e13 (J0O _ (by decide+kernel)) hI hnc ⟨rfl,rfl⟩
 refine wpAny_bind (wpAny_holding (wpAny_mono hm (λr' s' hr=>?_) λ_ _ x=>x))
 rw[hr.1,hr.2]
 refine wpAny_bind (wpAny_of_eq hpos ?_)
 exact o24 hfn λof' fd ho hc hd K' hrec=>Calls.callWith_function (o:=of') (fd:=fd) (Jt S h2 hA.pred C1 (K.keeps k1) λvs s2 k2' rs=>⟨⟨k2'.hp _ _ ho,hd⟩,
  YB X h3 hA (C1.keeps k2') ⟨of',fd,k2'.hp _ _ ho,hc,hd,K',hrec.keeps k2'.hp⟩ (.cons ((Rep.obj hob r).kp k2') rs) λv s3 k3' r3=>hQ v s3 ((k1.tr k2').tr k3') r3⟩)
theorem JaA (S:SoundE L n) (X:SoundX L n) {f:Str} {fn:Fn} {es:List PySem.Expr} {ds:List D} {d:D} {p pos:Pos} {Q:Value ->Shared ->Prop} (hg:isGlob sc f=true) (hf:theTop.fns f=some fn) (h2:evL L sc ρ es=some ds) (h3:callF L fn ds=some d)
  (hA:AOk (n+1) A) (C:Cx w mg mb s ms) (K:EnvOk w s ms own sc env ρ) (hQ: ∀v s',Kp s s' ->Rep w s' ms v d ->Q v s'):wpAny (model pw w) A (eval (.Call (.Name f p) es [] pos) env) Q E s:=by
 refine o11 (C.glob.fn f fn hf) λa e1 e2=>?_
 refine o24 e2 λo fd ho hc hd K' hrec=>?_;clear e2
 show wpAny _ A (do callWith pos (<-eval (.Name f p) env) [] (backTo pos (starEach es env)) (backToKw pos (keywordEach [] env))) Q E s
 refine wpAny_bind (YY C K.fit hg e1 ?_)
 refine Calls.callWith_function (o:=o) (fd:=fd) (Jt S h2 hA.pred C K λvs s2 k2 rs=>⟨⟨k2.hp _ _ ho,hd⟩,?_⟩)
 exact YB X h3 hA (C.keeps k2) ⟨o,fd,k2.hp _ _ ho,hc,hd,K',hrec.keeps k2.hp⟩ rs λv s3 k3 r3=>hQ v s3 (k2.tr k3) r3
end
noncomputable def fInit:Fn:=(meth 1 0).getD ⟨[],[],pw.main.scope⟩
theorem Jay:meth 1 0=some fInit:=rfl
noncomputable abbrev nSelf:Str:=nm "self"
noncomputable abbrev nCsl:Str:=nm "comp_select_list"
theorem ZR:fInit.params=[nSelf,nCsl]:=by kernel_rfl
theorem J65: ∃p1 p2 p3 p4,fInit.body=[.Assign [.Attribute (.Name nSelf p1) nCsl p2] (.Name nCsl p3) p4]:=⟨_,_,_,_,rfl⟩
theorem Zr:fInit.scope.names.lookup nSelf=some .local:=by decide+kernel
theorem Vx:fInit.scope.names.lookup nCsl=some .local:=by decide+kernel
section
variable {L:Lv} {n:Nat} {w:World} {mg mb:Str ->Option Value} {A:Around} {E:Value ->Shared ->Prop} {s s':Shared} {ms mine:List Addr} {own:Str ->Option Addr} {sc:Scope} {env:Env} {ρ:Rho}
theorem J74:Within (λ_=>none) []:=by within_ways
theorem J6R {x dx:Addr} {v:Value} (C:Cx w mg mb s ms) (hI:s.heap.Inst x clsA λ_=>none) (hdx: ∀{o},s.heap.get? x=some o ->o.dict=some dx) (hxC:x≠clsA):
  wpAny (model pw w) A (setAttr (.ref x) nCsl v) (λ_ s3=>(∃h' tk,s3={s with heap:=h',toks:=tk})/\ s3.heap.Inst x clsA (λy=>if y=nCsl then some v else none)/\
   (∀b o,b≠x ->b≠dx ->s.heap.get? b=some o ->s3.heap.get? b=some o)/\ ∀{o},s3.heap.get? x=some o ->o.dict=some dx) E s:=by
 refine o60 C.glob.cls λN mN _ _ _ _ q=>o08 q λe1 _ _ e5 e6 _ _ _ _=>o13 hI λox hox hoxc hoxn hoxd=>o90 e1.obj λ_ _ _ _ _ _ _ _ _ q=>o30 q λ_ _ _ e=>?_
 have e2:=e1.ns
 clear C q e1
 obtain⟨hh,g,dr,t,os⟩:=s
 exact store_attr F.store_object e e2 e5 e6 (J0O _ (by decide+kernel)) hxC hI (λh' tk' I' hk hsame=>⟨⟨h',tk',rfl⟩,I',λb o h1 h2 e=>hk b o h1 (λo₀ d' e₀ ed=>Option.some.inj ((hdx e₀).symm.trans ed)▸h2) e,
  λeo=>o11 (hsame ox hox) λo1 ho1 hr=>Option.some.inj (ho1.symm.trans eo)▸hr.2.2.2 dx (hdx hox)⟩) J74 (by decide)
theorem J6e {x dx:Addr} {v:Value} {d:D} (hroom:A.depth<recursionLimit) (C:Cx w mg mb s ms) (r:Rep w s ms v d) {s₁:Shared} (k:Kp s s₁) (hI:s₁.heap.Inst x clsA λ_=>none) (hdx: ∀o,s₁.heap.get? x=some o ->o.dict=some dx)
  (hx:s.heap.get? x=none) (hd:s.heap.get? dx=none) {fI:Addr} (hf:Zh s₁.heap fI fInit) {Q:Value ->Shared ->Prop} (hQ: ∀s',Kp s s' ->Rep w s' ms (.ref x) (.obj d) ->Q .none s'):
  wpAny (model pw w) A (call (.ref fI) [.ref x,v]) Q E s₁:=by
 refine o24 hf λo fd ho hc hdat K hrec=>?_;clear hf
 have hl:([.ref x,v]:List Value).length=fInit.params.length:=by rw[ZR];rfl
 refine wpAny_call (codeAny_call_function hroom ho hdat K.co K.gen K.body hrec ?_)
 rw[Yu K hl,K.closure,ZR]
 refine wpAny_pure ?_
 have hz:[nSelf,nCsl].zip [Value.ref x,v]=[(nSelf,.ref x),(nCsl,v)]:=rfl
 rw[hz]
 have hbk: ∀y∈[(nSelf,Value.ref x),(nCsl,v)],fd.scope.names.lookup y.1=some .local∨(fd.scope.names.lookup y.1=some .cell/\ ((cellsFrom (s₁.heap.objs.size+1) fd.scope.names []).lookup y.1).isSome=true):=by
  rw[K.scope]
  exact List.forall_mem_cons.mpr ⟨.inl Zr,List.forall_mem_cons.mpr ⟨.inl Vx,λ_ h=>absurd h List.not_mem_nil⟩⟩
 refine up (wpAny_newFunctionEnv_cells K.kind hbk (Q:=λenv s₂=>env=callEnvC fd s₁.heap.objs.size fI/\ InCallC s₁ env.locals (bindL env.kindOf [(nSelf,Value.ref x),(nCsl,v)] λ_=>none) env.cells (bindC env.kindOf [(nSelf,Value.ref x),(nCsl,v)] λ_=>none) s₂) λenv he s₁ x=>⟨he,x⟩) λenv s₂ ht q=>?_
 have X:=q.2
 have hkind: ∀y,env.kindOf y=fInit.scope.names.lookup y:=λy=>by rw[q.1,<-K.scope];rfl
 have hfk:env.scope.kind= .function:=by rw[q.1];exact K.kind
 have k2:Kp s₁ s₂:=⟨o20 X.toInCall.same λh' tk e=>⟨h',tk,e,λb o hb=>by rw[<-show s₂.heap=h' by rw[e]];exact X.toInCall.keep b o hb⟩,ht⟩
 have C2:=(C.keeps k).keeps k2
 refine⟨(C.keeps k).glob.nolim.keeps k2.hp,codeAny_func ?_⟩
 clear q hbk hl hz hrec K hdat hc ho hroom
 have hnd:([(nSelf,Value.ref x),(nCsl,v)].map (·.1)).Nodup:=(show[nSelf,nCsl].Nodup by decide+kernel)
 have hself:bindL env.kindOf [(nSelf,Value.ref x),(nCsl,v)] (λ_=>none) nSelf=some (.ref x):=J0i hnd (by rw[hkind];exact Zr) (by rw[List.lookup_cons,show(nSelf==nSelf)=true by decide+kernel])
 have hcsl:bindL env.kindOf [(nSelf,Value.ref x),(nCsl,v)] (λ_=>none) nCsl=some v:=J0i hnd (by rw[hkind];exact Vx) (by
  rw[List.lookup_cons,show(nCsl==nSelf)=false by decide+kernel,List.lookup_cons,show(nCsl==nCsl)=true by decide+kernel])
 obtain⟨p1,p2,p3,p4,hb⟩:=J65
 rw[hb]
 refine wpAny_execs_cons ?_
 refine plainObj_wpAny_Assign_Attribute ?_ rfl
 refine NameLC X hfk (by rw[hkind];exact Vx) hcsl ?_ (by decide+kernel)
 refine NameLC X hfk (by rw[hkind];exact Zr) hself ?_ (by decide+kernel)
 clear hself hcsl hnd hkind hfk X hb ht
 have k02:=k.tr k2
 have hI2:s₂.heap.Inst x clsA λ_=>none:=Heap.Inst.keeps hI k2.hp
 have hdx2: ∀{o},s₂.heap.get? x=some o ->o.dict=some dx:=λe=>o10 hI λo h=>(Option.some.inj ((k2.hp _ _ h.1).symm.trans e))▸hdx o h.1
 clear k2 hI hdx k
 have hxC:x≠clsA:=λe=>o10 C.glob.cls.live λo ec=>nn ((e▸hx).symm.trans ec)
 have st:=J6R (A:=A.deeper env) (E:=λe s'=>wpAny (model pw w) (A.deeper env) (leaving env e) (λ_ s''=>E e s'') (λe' s''=>E e' s'') s') (v:=v) C2 hI2 hdx2 hxC
 refine up st λ_ s3 ht3 h3=>wpAny_execs_nil ?_
 refine o03 h3 λhs I3 hk3 hd3=>?_
 have k3:Kp s s3:=⟨o21 k02.k λh0 t0 e0 hk0=>o20 hs λh' tk e=>⟨h',tk,by rw[e,e0],λb o eb=>by
  rw[<-show s3.heap=h' by rw[e]]
  exact hk3 b o (λq=>nn ((q▸hx).symm.trans eb)) (λq=>nn ((q▸hd).symm.trans eb)) (k02.hp b o eb)⟩,Nat.le_trans k02.t ht3⟩
 refine hQ _ k3 (.obj ?_ (r.kp k3))
 refine o13 I3 λo1 ho1 c' nc' hd'=>hd'.elim (λh=>nn (h.1.symm.trans (hd3 ho1))) λh=>o12 h λd' hd' hne hns=>?_
 rw[<-Option.some.inj ((hd3 ho1).symm.trans hd')]at hne hns
 exact⟨_,o1,dx,ho1,c',nc',hd3 ho1,hne,hns,C.notin hx,C.notin hd,hxC,by simp,by rw[if_neg];decide+kernel⟩
theorem J38 {e:PySem.Expr} (h: ∀x p,e≠ .Starred x p):starEach [e] env=(false,eval e env)::starEach [] env:=by
 cases e<;>first|rfl|exact absurd rfl (h _ _)
theorem J6u (S:SoundE L n) {a:PySem.Expr} {x:D} {p pos:Pos} {Q:Value ->Shared ->Prop} (hg:isGlob sc (nm "TupleComp")=true) (h:L.ev sc ρ a=some x) (hA:AOk (n+1) A) (C:Cx w mg mb s ms) (K:EnvOk w s ms own sc env ρ)
  (hQ: ∀v s',Kp s s' ->Rep w s' ms v (.obj x) ->Q v s'):wpAny (model pw w) A (eval (.Call (.Name (nm "TupleComp") p) [a] [] pos) env) Q E s:=by
 show wpAny _ A (do callWith pos (<-eval (.Name (nm "TupleComp") p) env) [] (backTo pos (starEach [a] env)) (backToKw pos (keywordEach [] env))) Q E s
 refine wpAny_bind (YY C K.fit hg C.glob.maker ?_)
 refine o60 C.glob.cls λN mN fI' fC oI oC q=>o08 q λX _ _ _ _ e7 e8 e9 q'=>?_
 have e10:=q'.1
 clear q q'
 refine callWith_cls X ?_ (J38 (Je S h)) rfl
 refine JD S (Vu h) hA.pred C K λvs s1 k1 rs=>⟨k1.hp,?_⟩
 refine o11 (Vd rs) λv q2 r=>?_;subst q2
 have C1:=C.keeps k1
 have hinit:Zh s1.heap fI' fInit:=(e10 fInit Jay).keeps k1.hp
 have e8':=k1.hp _ _ e8
 have X':=X.keeps k1.hp
 have go: ∀(h':Heap) (x' dx:Addr),Heap.MadeObj s1.heap h' x' dx clsA ->wpAny (model pw w) (A.under (.builtin "type.__call__" ⟨.ref clsA::[v],[]⟩)) (call (.ref fI') (.ref x'::[v])) (λr s'=>r= .none/\ Q (.ref x') s') E {s1 with heap:=h'}:=λh' x' dx Mk=>by
  have k2:Kp s1 {s1 with heap:=h'}:=⟨⟨h',s1.toks,rfl,Mk.keeps⟩,Nat.le_refl _⟩
  have room:(A.under (.builtin "type.__call__" ⟨.ref clsA::[v],[]⟩)).depth<recursionLimit:=by
   have:(A.under (.builtin "type.__call__" ⟨.ref clsA::[v],[]⟩)).depth=A.depth+1:=rfl
   rw[this]
   have:=hA.depth
   show A.depth+1<1000
   lia
  exact J6e (x:=x') (dx:=dx) room C1 r k2 Mk.inst Mk.dict Mk.newX Mk.newD (hinit.keeps Mk.keeps) λs3 k3 r3=>⟨rfl,hQ _ s3 (k1.tr k3) r3⟩
 clear k1 r rs C1 hinit X;obtain⟨hh,g,dr,t,os⟩:=s1
 exact o90 X'.obj λ_ _ _ _ _ _ _ _ _ q=>o30 q λ_ _ _ e=>wpAny_call_obj_init PySem.F.objNew e X'.ns e7 e8' e9 go
end
noncomputable def notRef:Value ->Bool
 | .ref _=>false
 |_=>true
theorem J7o: ∀p∈bltFn,((bltOf.lookup p.1).elim false notRef&&(p.2 []).isNone)=true:=List.all_eq_true.mp (by decide+kernel)
theorem J3G {f:Str} {as:List D} {d:D} (h:J4 f as=some d):(∃fv,bltOf.lookup f=some fv/\ ∀a,fv≠ .ref a)/\ as≠[]:=by
 refine bnd h λg h1 h2=>o01 (Bool.and_eq_true_iff.mp (J7o _ (JT h1))) λq1 q2=>⟨?_,λe=>?_⟩
 ·cases e:bltOf.lookup f with
  |none=>rw[e]at q1;exact nomatch q1
  |some fv=>rw[e]at q1;exact⟨fv,rfl,λa h=>by rw[h]at q1;exact nomatch q1⟩
 ·replace q2:(g []).isNone=true:=q2
  rw[e]at h2;rw[h2]at q2;exact nomatch q2
section
variable {L:Lv} {n:Nat} {w:World} {mg mb:Str ->Option Value} {A:Around} {E:Value ->Shared ->Prop} {s s':Shared} {ms mine:List Addr} {own:Str ->Option Addr} {sc:Scope} {env:Env} {ρ:Rho}
@[elab_as_elim] theorem tcE {P:List PySem.Expr ->Prop} {as:List PySem.Expr} {d:D} (h:(match as with|[a]=>(L.ev sc ρ a).map D.obj|_=>none)=some d) (k: ∀a x,L.ev sc ρ a=some x ->D.obj x=d ->P [a]):P as:=by
 cases as with
 |nil=>exact nn h
 |cons a as=>cases as with
  |nil=>exact mpd h (k a)
  |cons=>exact nn h
@[elab_as_elim] theorem JgR {P:List PySem.Expr ->Prop} {as:List PySem.Expr} {d:D} (h:(match as with|[.Call (.Name g _) [a,b] [] _]=>if isGlob sc g&&g==nm "range"then(L.ev sc ρ a).bind λd=>(L.ev sc ρ b).bind λd'=>(match d,d' with| .int x,.int y=>(Jn x y 1).bind λl=>if l.length<=1000000 then some (.lst l)else none|_,_=>none)else none|_=>none)=some d)
  (k: ∀g p a b r x y l,isGlob sc g=true ->g=nm "range" ->L.ev sc ρ a=some (.int x) ->L.ev sc ρ b=some (.int y) ->Jn x y 1=some l ->l.length<=1000000 -> .lst l=d ->P [.Call (.Name g p) [a,b] [] r]):P as:=by
 cases as with
 |nil=>exact nn h
 |cons c rest=>cases c with
  |Call f as ks r=>cases f with
   |Name g p=>cases as with
    |nil=>exact nn h
    |cons a as=>cases as with
     |nil=>exact nn h
     |cons b as=>cases as with
      |cons=>exact nn h
      |nil=>cases ks with
       |cons=>exact nn h
       |nil=>cases rest with
        |cons=>exact nn h
        |nil=>
         refine J9 h λhc h=>o01 (Bool.and_eq_true_iff.mp hc) λc1 c2=>bnd h λd1 h4 h=>bnd h λd2 h5 h=>?_
         cases d1 with
         |int x=>cases d2 with
          |int y=>exact bnd h λl h8 h=>J9 h λhl h=>k g p a b r x y l c1 (eq_of_beq c2) h4 h5 h8 hl (Option.some.inj h)
          |_=>exact nn h
         |_=>exact nn h
   |_=>exact nn h
  |_=>exact nn h
@[elab_as_elim] theorem Jh2 {P:List PySem.Expr ->Prop} {as:List PySem.Expr} {o:PySem.Expr} {d:D} (h:(match as with|[e1,e2]=>(L.ev sc ρ o).bind λd=>(L.ev sc ρ e1).bind λx=>(KS L sc ρ e2).bind λy=>(match d with| .str t=>ZE t [x,y]|_=>none)|_=>none)=some d)
  (k: ∀e1 e2 t x y,L.ev sc ρ o=some (.str t) ->L.ev sc ρ e1=some x ->KS L sc ρ e2=some y ->ZE t [x,y]=some d ->P [e1,e2]):P as:=by
 cases as with
 |nil=>exact nn h
 |cons a as=>cases as with
  |nil=>exact nn h
  |cons b as=>cases as with
   |cons=>exact nn h
   |nil=>
    refine bnd h λd1 h1 h=>bnd h λx h2 h=>bnd h λy h3 h=>?_
    cases d1 with
    |str t=>exact k a b t x y h1 h2 h3 h
    |_=>exact nn h
theorem Kq (S:SoundE L n) (X:SoundX L n) {f:Str} {as:List PySem.Expr} {d:D} {p pos:Pos} {Q:Value ->Shared ->Prop} (h:evS theTop L sc ρ (.Call (.Name f p) as [] pos)=some d) (hA:AOk (n+1) A) (C:Cx w mg mb s ms) (K:EnvOk w s ms own sc env ρ)
  (hQ: ∀v s',Kp s s' ->Rep w s' ms v d ->Q v s'):wpAny (model pw w) A (eval (.Call (.Name f p) as [] pos) env) Q E s:=by
 refine J6g h λhg h=>?_
 replace hg:isGlob sc f=true:=by simpa using hg
 by_cases h1:(f==nm "TupleComp")=true
 ·rw[if_pos h1]at h
  refine tcE h λa x h3 h4=>?_
  rw[eq_of_beq h1]
  exact J6u S (eq_of_beq h1▸hg) h3 hA C K (h4▸hQ)
 rw[if_neg h1]at h
 clear h1
 by_cases h1:(f==nm "list")=true
 ·rw[if_pos h1]at h
  exact JgR h λg p a b r x y l c1 c2 h4 h5 h8 hl e=>Vc S hg (eq_of_beq h1) c1 c2 h4 h5 h8 hl hA.pred C K (e▸hQ)
 rw[if_neg h1]at h
 clear h1
 cases hf:theTop.fns f with
 |some fn=>
  rw[hf]at h
  exact bnd h λds h2 h3=>JaA S X hg hf h2 h3 hA C K hQ
 |none=>
  rw[hf]at h
  refine bnd h λds h2 h3=>o01 (J3G h3) λq2 hne=>o11 q2 λfv hfv hr=>YN S hg hfv (λe=>hne ?_) h2 hA.pred C K hr λvs s1 k1 rs=>J3H hfv h3 hA.pred (C.keeps k1) rs λv s2 k2 r2=>hQ v s2 (k1.tr k2) r2
  rw[e]at h2
  exact(Option.some.inj h2).symm
theorem Ko (S:SoundE L n) (X:SoundX L n) {o:PySem.Expr} {name:Str} {as:List PySem.Expr} {d:D} {apos pos:Pos} {Q:Value ->Shared ->Prop} (h:evS theTop L sc ρ (.Call (.Attribute o name apos) as [] pos)=some d) (hA:AOk (n+1) A) (C:Cx w mg mb s ms) (K:EnvOk w s ms own sc env ρ)
  (hQ: ∀v s',Kp s s' ->Rep w s' ms v d ->Q v s'):wpAny (model pw w) A (eval (.Call (.Attribute o name apos) as [] pos) env) Q E s:=by
 refine J6g h λhc h=>?_
 simp only[Bool.not_eq_true,Bool.not_eq_false',Bool.and_eq_true,decide_eq_true_eq]at hc
 by_cases h1:(name==nm "replace")=true
 ·rw[if_pos h1]at h
  refine Jh2 h λe1 e2 t x y h3 h4 h5 h6=>?_
  rw[eq_of_beq h1]
  exact J6I S hc.1.2 hc.1.1 h3 h4 h5 h6 hA.pred C K hQ
 ·rw[if_neg h1]at h
  refine bnd h λx h2 h=>bnd h λds h3 h=>?_
  cases x with
  |obj x=>
   refine J9 h λh6 h=>bnd h λfn h7 h8=>?_
   rw[eq_of_beq h6]
   exact J0r S X hc.1.2 hc.1.1 hc.2 h2 h3 h7 h8 hA C K hQ
  |_=>exact J6v S hc.1.2 hc.1.1 hc.2 h2 h3 h hA.pred C K hQ
theorem J7M (S:SoundE L n) (X:SoundX L n) {e:PySem.Expr} {d:D} {Q:Value ->Shared ->Prop} (h:evS theTop L sc ρ e=some d) (hA:AOk (n+1) A) (C:Cx w mg mb s ms) (K:EnvOk w s ms own sc env ρ)
  (hQ: ∀v s',Kp s s' ->Rep w s' ms v d ->Q v s'):wpAny (model pw w) A (eval e env) Q E s:=by
 have hA':=hA.pred
 have sub: ∀v i p,(∀o k,subscripted i false o k=operate [o,k] (getItem o k)) ->((J12 L sc ρ v).bind λo=>(L.ev sc ρ i).bind λk=>itemD o k)=some d ->wpAny (model pw w) A (eval (.Subscript v i p) env) Q E s:=λv i p hi h=>J9j S hi h hA' C K hQ
 cases e with
 |Constant c k p=>exact J3N h C hQ
 |Name x p=>exact J6x h C K hQ
 |BinOp l op r p=>exact J3C S h hA' C K hQ
 |UnaryOp op x p=>exact J6Y S h hA' C K hQ
 |IfExp t b o p=>exact J44 S h hA' C K hQ
 |List es p=>exact J6p S h hA' C K hQ
 |Tuple es k p=>exact J9u S h hA' C K hQ
 |Dict ks vs p=>
  cases ks with
  |nil=>cases vs with
   |nil=>exact J3Q h C hQ
   |cons _ _=>exact nn h
  |cons _ _=>exact nn h
 |ListComp elt gens csc p=>exact KA S h hA' C K hQ
 |DictComp kx vx gens csc p=>exact Ks S h hA' C K hQ
 |Compare l ops rs p=>
  cases ops with
  |nil=>exact nn h
  |cons op ops=>cases ops with
   |nil=>cases rs with
    |nil=>exact nn h
    |cons r rs=>cases rs with
     |nil=>exact J7A S h hA' C K hQ
     |cons=>exact nn h
   |cons=>cases rs<;>exact nn h
 |Subscript v i p=>
  cases i with
  |Slice lo hi st q=>
   cases st with
   |none=>exact J4t S h hA' C K hQ
   |some st=>exact sub _ _ _ (λ_ _=>rfl) h
  |_=>exact sub _ _ _ (λ_ _=>rfl) h
 |Attribute v name p=>
  cases v with
  |Name o q=>exact J5N S h hA' C K hQ
  |_=>exact nn h
 |Call f as ks p=>
  cases ks with
  |cons _ _=>cases f<;>exact nn h
  |nil=>
   cases f with
   |Name f q=>exact Kq S X h hA C K hQ
   |Attribute o name q=>exact Ko S X h hA C K hQ
   |_=>exact nn h
 |_=>exact nn h
theorem Jfk (n:Nat) (S:SoundE (level theTop n) n) (X:SoundX (level theTop n) n):SoundE (level theTop (n+1)) (n+1) where
 ev:=λ{sc ρ e d} h {w mg mb A E s ms own env Q} hA C K hQ=>J7M S X h hA C K hQ
 star:=λsc ρ e p=>rfl
theorem Jfl (n:Nat) (S:SoundE (level theTop n) n) (N:SoundN (level theTop n) n):SoundN (level theTop (n+1)) (n+1) where
 lst:=λ{sc ρ es p d} h=>by
  exact J9 (show(if es.length<=1000 then(evL (level theTop n) sc ρ es).map D.lst else none)=some d from h) λ_ h=>mpd h λl _ e=>⟨l,e.symm⟩
 new:=λ{sc ρ e d u} h hn hu {w mg mb A E s ms own env Q} hA C K hQ=>JeY S N h hn hu hA.pred C K hQ
 use:=λ{sc ρ elt gens csc pos d} h {w mg mb A E s ms own env us Q} hA C K hQ=>Jfh S h hA.pred C K hQ
 useD:=λ{sc ρ kx vx gens csc pos d} h {w mg mb A E s ms own env us Q} hA C K hQ=>JeU S h hA.pred C K hQ
 sete:=λ_ _ _ _ _ _=>rfl
 slice:=λ_ _ _ _ _ _=>rfl
end
theorem JdC:SoundE (level theTop 0) 0:=⟨λh=>(nomatch h),λ_ _ _ _=>rfl⟩
theorem JdD:SoundN (level theTop 0) 0:=⟨λh=>(nomatch h),λh=>(nomatch h),λh=>(nomatch h),λh=>(nomatch h),λ_ _ _ _ _ _=>rfl,λ_ _ _ _ _ _=>rfl⟩
theorem JdE:SoundX (level theTop 0) 0:=⟨λh=>(nomatch h)⟩
noncomputable def thaw:Slot ->Slot
 | .mls l=> .val (.lst l)
 | .mdc l=> .val (.dct l)
 |u=>u
theorem J6q (x y:Str) (ρ:Rho):(frzIn x ρ).lookup y=if y=x then(ρ.lookup y).map thaw else ρ.lookup y:=by
 induction ρ with
 |nil=>exact(ite_self _).symm
 |cons zu r ih=>
  obtain⟨z,u⟩:=zu
  rw[show frzIn x ((z,u)::r)=if z==x then(z,thaw u)::r else(z,u)::frzIn x r by cases u<;>rfl]
  by_cases hz:z=x
  ·subst hz
   rw[if_pos (beq_self_eq_true _),List.lookup_cons,List.lookup_cons]
   by_cases h:y=z
   ·rw[if_pos h,h,beq_self_eq_true];rfl
   ·rw[beq_eq_false_iff_ne.mpr h,if_neg h]
  ·rw[if_neg λh=>hz (eq_of_beq h),List.lookup_cons,List.lookup_cons]
   by_cases h:y=z
   ·rw[h,beq_self_eq_true,if_neg hz]
   ·rw[beq_eq_false_iff_ne.mpr h];exact ih
theorem JaE {x y:Str} {ρ:Rho} {u:Slot} (hu:(frzIn x ρ).lookup y=some u):(∃u',ρ.lookup y=some u'/\ u=thaw u'/\ y=x)∨y≠x/\ ρ.lookup y=some u:=by
 rw[J6q]at hu
 by_cases h:y=x
 ·rw[if_pos h]at hu;exact mpd hu λu' e q=> .inl ⟨u',e,q.symm,h⟩
 ·rw[if_neg h]at hu;exact .inr ⟨h,hu⟩
noncomputable def wo (a:Addr) (l:List Addr):List Addr:=l.filter λb=>decide (b≠a)
theorem J3p {a b:Addr} {l:List Addr} (h:b∈wo a l):b∈l:=(List.mem_filter.mp h).1
theorem Jg0 {a b:Addr} {l:List Addr} (h:b∈wo a l):b≠a:=of_decide_eq_true (List.mem_filter.mp h).2
theorem J9N {a b:Addr} {l:List Addr} (h:b∈l) (n:b≠a):b∈wo a l:=List.mem_filter.mpr ⟨h,decide_eq_true n⟩
section
variable {w:World} {mg mb:Str ->Option Value} {A:Around} {E:Value ->Shared ->Prop} {s s':Shared} {ms ms' mine:List Addr} {own:Str ->Option Addr} {sc:Scope} {env:Env} {ρ:Rho}
theorem SlotRep.thaw {own':Str ->Option Addr} {x:Str} {v:Value} {u:Slot} (y:SlotRep w s ms own x v u) (p:Past s ms s ms') (h: ∀a,own x=some a ->a∉ms'):SlotRep w s ms' own' x v (thaw u):=by
 cases u with
 |val d=>exact Rep.past p y
 |mls l=>exact o23 y λa vs e q hl r=>q▸ .lst hl (h a e) (r.past p)
 |mdc l=>exact o23 y λa vs e q hl r=>q▸ .dct hl (h a e) (r.past p)
theorem SlotRep.other {own':Str ->Option Addr} {x:Str} {v:Value} {u:Slot} (y:SlotRep w s ms own x v u) (p:Past s ms s ms') (h:own' x=own x):SlotRep w s ms' own' x v u:=by
 cases u with
 |val d=>exact Rep.past p y
 |mls l=>exact o23 y λa vs e q hl r=>⟨a,vs,h.trans e,q,hl,r.past p⟩
 |mdc l=>exact o23 y λa vs e q hl r=>⟨a,vs,h.trans e,q,hl,r.past p⟩
theorem EnvOk.frz {own':Str ->Option Addr} {x:Str} (K:EnvOk w s ms own sc env ρ) (p:Past s ms s ms') (h: ∀a,own x=some a ->a∉ms') (h': ∀y,y≠x ->own' y=own y):EnvOk w s ms' own' sc env (frzIn x ρ):=
 ⟨K.fit,λy u hu hv=>(JaE hu).elim (λg=>o12 g λu' e q hy=>o11 (K.var y u' e hv) λv e1 e2=>⟨v,e1,q▸e2.thaw p (hy▸h)⟩) λg=>o11 (K.var y u g.2 hv) λv e1 e2=>⟨v,e1,e2.other p (h' y g.1)⟩⟩
theorem Jdf (x:Str) (C:Cx w mg mb s ms) (F:FrA w s ms mine own sc env ρ):
  ∃ms' mine' own',Mv s ms mine s ms' mine'/\ Cx w mg mb s ms'/\ FrA w s ms' mine' own' sc env (frzIn x ρ)/\ ∀y,y≠x ->own' y=own y:=by
 cases ho:own x with
 |none=>exact⟨ms,mine,own,Mv.rfl' s ms mine,C,⟨{F.f with en:=F.f.en.frz Past.refl (λ_ e=>nn (ho.symm.trans e)) λ_ _=>rfl},F.cells⟩,λ_ _=>rfl⟩
 |some a=>
  refine o02 (F.f.ownMine x a ho) λha haL q=>?_
  have hl: ∀{y b},(if y=x then none else own y)=some b ->y≠x/\ own y=some b:=λh=>J6g h λn e=>⟨n,e⟩
  exact⟨wo a ms,wo a mine,λy=>if y=x then none else own y,⟨⟨_,_,rfl⟩,Nat.le_refl _,λ_ _ e _=>e,λ_ o e=>⟨o,e⟩,λb _ _ n m=>n (J3p m),λb _ _ n m=>n (J3p m),λb hb hn=>J9N hb λq=>hn (q▸ha)⟩,
   C.less λ_=>J3p,⟨⟨F.f.en.frz ⟨Nat.le_refl _,λb o e n=>⟨e,λm=>n (J3p m)⟩⟩ (λb e m=>Jg0 m (Option.some.inj (e.symm.trans ho))) λ_ h=>if_neg h,λb hb=>J9N (F.f.sub b (J3p hb)) (Jg0 hb),F.f.locNs,J9N F.f.locMine (Ne.symm haL),
    λy c h e=>⟨J9N (F.f.cellMine y c h e).1 λz=>q.1 y (z▸e),(F.f.cellMine y c h e).2⟩,F.f.cellLoc,F.f.cellInj,λy b h=>⟨J9N (F.f.ownMine y b (hl h).2).1 λq=>(hl h).1 (F.f.ownInj y x b (hl h).2 (q▸ho)),(F.f.ownMine y b (hl h).2).2⟩,
    λy z b h h'=>F.f.ownInj y z b (hl h).2 (hl h').2⟩,F.cells⟩,λ_ h=>if_neg h⟩
theorem Jde (xs:List Str) {ms mine:List Addr} {own:Str ->Option Addr} {ρ:Rho} (C:Cx w mg mb s ms) (F:FrA w s ms mine own sc env ρ):
  ∃ms' mine' own',Mv s ms mine s ms' mine'/\ Cx w mg mb s ms'/\ FrA w s ms' mine' own' sc env (frzAll xs ρ)/\ ∀y,xs.contains y=false ->own' y=own y:=by
 induction xs generalizing ms mine own ρ with
 |nil=>exact⟨ms,mine,own,Mv.rfl' s ms mine,C,F,λ_ _=>rfl⟩
 |cons x xs ih=>
  refine o33 (Jdf x C F) λms1 mine1 own1 m1 C1 F1 h1=>o33 (ih C1 F1) λms2 mine2 own2 m2 C2 F2 h2=>⟨ms2,mine2,own2,m1.tr m2 C.live,C2,F2,λy hy=>?_⟩
  rw[List.contains_cons,Bool.or_eq_false_iff]at hy
  rw[h2 y hy.2,h1 y (beq_eq_false_iff_ne.mp hy.1)]
inductive ZRep (w:World) (s:Shared) (ms:List Addr) (own:Str ->Option Addr):List Value ->List (Str×Slot) ->Prop
 |nil:ZRep w s ms own [] []
 |cons {v:Value} {x:Str} {u:Slot} {vs:List Value} {zs:List (Str×Slot)}:SlotRep w s ms own x v u ->ZRep w s ms own vs zs ->ZRep w s ms own (v::vs) ((x,u)::zs)
theorem ZRep.move {vs:List Value} {zs:List (Str×Slot)} (z:ZRep w s ms own vs zs) (p:Past s ms s' ms') (k: ∀z a o,own z=some a ->s.heap.get? a=some o ->s'.heap.get? a=some o):ZRep w s' ms' own vs zs:=by
 induction z with
 |nil=>exact .nil
 |cons r _ ih=>exact .cons (r.move p λa h o e=>k _ a o h e) ih
theorem ZRep.append {vs vs':List Value} {zs zs':List (Str×Slot)} (z:ZRep w s ms own vs zs) (y:ZRep w s ms own vs' zs'):ZRep w s ms own (vs++vs') (zs++zs'):=by
 induction z with
 |nil=>exact y
 |cons r _ ih=>exact .cons r ih
theorem ZRep.reverse {vs:List Value} {zs:List (Str×Slot)} (z:ZRep w s ms own vs zs):ZRep w s ms own vs.reverse zs.reverse:=by
 induction z with
 |nil=>exact .nil
 |cons r _ ih=>rw[List.reverse_cons,List.reverse_cons];exact ih.append (.cons r .nil)
theorem ZRep.length {vs:List Value} {zs:List (Str×Slot)} (z:ZRep w s ms own vs zs):vs.length=zs.length:=by
 induction z with
 |nil=>rfl
 |cons _ _ ih=>exact congrArg (· +1) ih
noncomputable def setZ:List (Str×Slot) ->Rho ->Rho
 |[],ρ=>ρ
 |(x,u)::r,ρ=>setZ r (setR x u ρ)
theorem YG (zs:List (Str×Slot)) (ρ:Rho) (y:Str) (hn:(zs.map (·.1)).Nodup):(setZ zs ρ).lookup y=(match zs.lookup y with|some u=>some u|none=>ρ.lookup y):=by
 induction zs generalizing ρ with
 |nil=>rfl
 |cons xu r ih=>
  obtain⟨x,u⟩:=xu
  refine o01 (List.nodup_cons.mp hn) λh1 h2=>?_
  show(setZ r (setR x u ρ)).lookup y=_
  rw[ih _ h2,JF,List.lookup_cons]
  by_cases hy:y=x
  ·have:r.lookup y=none:=by
    cases q:r.lookup y with
    |none=>rfl
    |some u'=>exact absurd (List.mem_map.mpr ⟨_,mem_of_lookup q,hy⟩) h1
   rw[this,hy,beq_self_eq_true,if_pos rfl]
  ·rw[beq_eq_false_iff_ne.mpr hy,if_neg hy]
theorem Ys (zs:List (Str×Slot)) (y:Str) (hn:(zs.map (·.1)).Nodup):zs.reverse.lookup y=zs.lookup y:=by
 induction zs with
 |nil=>rfl
 |cons xu r ih=>
  obtain⟨x,u⟩:=xu
  refine o01 (List.nodup_cons.mp hn) λh1 h2=>?_
  rw[List.reverse_cons,Ja,ih h2,List.lookup_cons,List.lookup_cons]
  cases hy:y==x with
  |true=>
   have:r.lookup y=none:=by
    cases q:r.lookup y with
    |none=>rfl
    |some u'=>exact absurd (List.mem_map.mpr ⟨_,mem_of_lookup q,eq_of_beq hy⟩) h1
   rw[this]
  |false=>cases r.lookup y<;>rfl
inductive StF (env:Env):List (Value ->Sem Unit) ->List Str ->Prop
 |nil:StF env [] []
 |cons {f:Value ->Sem Unit} {x:Str} {fs:List (Value ->Sem Unit)} {xs:List Str}:(∀(M:Model) (A:Around) (v:Value) (Q:Unit ->Shared ->Prop) (E:Value ->Shared ->Prop) (s:Shared),wpAny M A (storeName env x v) Q E s ->wpAny M A (f v) Q E s) ->StF env fs xs ->StF env (f::fs) (x::xs)
theorem J3c {zs:List (Str×Slot)} {vs:List Value} {fs:List (Value ->Sem Unit)} {s:Shared} {ρ:Rho} {Q:Unit ->Shared ->Prop} (hf:StF env fs (zs.map (·.1))) (rs:ZRep w s ms own vs zs):(∀z∈zs,bound sc z.1) ->FrA w s ms mine own sc env ρ ->(∀m∈ms,∃o,s.heap.get? m=some o) ->
  (∀s',Mv s ms mine s' ms mine ->FrA w s' ms mine own sc env (setZ zs ρ) ->Q () s') ->wpAny (model pw w) A (assignInOrder fs vs) Q E s:=by
 induction zs generalizing vs fs s ρ with
 |nil=>cases rs;cases hf;exact λ_ F _ hQ=>wpAny_pure (hQ s (Mv.rfl' s ms mine) F)
 |cons z zs ih=>
  cases rs with|cons r rs=>
  cases hf with|cons hf hfs=>
  exact λhb F hl hQ=>wpAny_bind (wpAny_holding (hf _ _ _ _ _ _ (Yo F.f (hb _ List.mem_cons_self) r λs1 m1 F1 k1=>
   ih hfs (rs.move (m1.past F.f.sub) k1) (λz hz=>hb z (List.mem_cons_of_mem _ hz)) ⟨F1,λy c h=>o10 (F.cells y c h) (m1.alive c)⟩ (m1.live hl) λs' m F'=>hQ s' (m1.tr m hl) F')))
end
noncomputable def newOwn (ow:List (Str×Addr)) (own:Str ->Option Addr):Str ->Option Addr:=λx=>match ow.lookup x with|some a=>some a|none=>own x
structure OwOk (s s':Shared) (ow:List (Str×Addr)):Prop where
 no: ∀q∈ow,s.heap.get? q.2=none
 al: ∀q∈ow,∃o,s'.heap.get? q.2=some o
 hi: ∀q∈ow,N0<=q.2
 apart: ∀p∈ow,∀q∈ow,p.2=q.2 ->p.1=q.1
section
variable {L:Lv} {n:Nat} {w:World} {mg mb:Str ->Option Value} {A:Around} {E:Value ->Shared ->Prop} {s s':Shared} {ms ms' mine:List Addr} {own own':Str ->Option Addr} {sc:Scope} {env:Env} {ρ:Rho} {ow:List (Str×Addr)}
theorem J0W {x:Str} {v:Value} {u:Slot} (r:SlotRep w s ms own x v u) (h:own x=own' x):SlotRep w s ms own' x v u:=by
 cases u with
 |val d=>exact r
 |mls l=>exact o21 r λa vs e r=>⟨a,vs,h▸e,r⟩
 |mdc l=>exact o21 r λa vs e r=>⟨a,vs,h▸e,r⟩
theorem Yn {x:Str} (h: ∀q∈ow,q.1≠x):newOwn ow own x=own x:=by
 unfold newOwn
 cases q:ow.lookup x with
 |none=>rfl
 |some a=>exact absurd rfl (h _ (mem_of_lookup q))
theorem J4f {x:Str} {ow':List (Str×Addr)} (h: ∀q∈ow',q.1≠x):newOwn (ow++ow') own x=newOwn ow own x:=by
 unfold newOwn
 rw[Ja]
 cases ow.lookup x with
 |some a=>rfl
 |none=>
  cases q:ow'.lookup x with
  |none=>rfl
  |some a=>exact absurd rfl (h _ (mem_of_lookup q))
theorem J1S {x:Str} {ow':List (Str×Addr)} (h: ∀q∈ow,q.1≠x):newOwn (ow++ow') own x=newOwn ow' own x:=by
 unfold newOwn
 rw[Ja]
 cases q:ow.lookup x with
 |none=>rfl
 |some a=>exact absurd rfl (h _ (mem_of_lookup q))
theorem J4u {D:Addr} {x:Str} {u:Slot} (r:Vk w s (D::ms) D u):SlotRep w s ([(x,D)].map (·.2)++ms) (newOwn [(x,D)] own) x (.ref D) u:=by
 have hx:newOwn [(x,D)] own x=some D:=by simp[newOwn]
 cases u with
 |val d=>exact r.elim
 |mls l=>exact o11 r λvs h1 h2=>⟨D,vs,hx,rfl,h1,h2⟩
 |mdc l=>exact o11 r λvs h1 h2=>⟨D,vs,hx,rfl,h1,h2⟩
theorem J6Q {D:Addr} {u:Slot} (r:Vk w s ms D u): ∃o,s.heap.get? D=some o:=by
 cases u with
 |val d=>exact r.elim
 |mls l=>exact o11 r λvs q _=>o10 q λn e=>⟨_,e⟩
 |mdc l=>exact o11 r λvs q _=>o31 q.1 λo _ _ e _=>⟨o,e⟩
theorem OwOk.one {x:Str} {D:Addr} (hf:s.heap.get? D=none) (he: ∃o,s'.heap.get? D=some o) (hN:N0<=D):OwOk s s' [(x,D)]:=by
 have one: ∀{P:Str×Addr ->Prop},P (x,D) -> ∀q∈[(x,D)],P q:=λh q hq=>List.mem_singleton.mp hq▸h
 exact⟨one hf,one he,one hN,one (one λ_=>rfl)⟩
theorem OwOk.nil:OwOk s s' []:=⟨λ_ h=>absurd h List.not_mem_nil,λ_ h=>absurd h List.not_mem_nil,λ_ h=>absurd h List.not_mem_nil,λ_ h=>absurd h List.not_mem_nil⟩
theorem J0e (S:SoundE L n) (N:SoundN L n) {x:Str} {p:Pos} {e:PySem.Expr} {d:D} {u:Slot} (h:L.ev sc ρ e=some d) (hu:VU theTop sc (.Name x p) e d=some u) (hA:AOk n A) (C:Cx w mg mb s ms) (K:EnvOk w s ms own sc env ρ) {Q:Value ->Shared ->Prop}
  (hQ: ∀v s' ow,Kp s s' ->OwOk s s' ow ->(∀q∈ow,q.1=x) ->SlotRep w s' (ow.map (·.2)++ms) (newOwn ow own) x v u ->Q v s'):wpAny (model pw w) A (eval e env) Q E s:=by
 replace hu:(if(_&&_)=true then J3h d else some (.val d))=some u:=hu
 by_cases hc:(J8c theTop sc x&&JaR e)=true
 ·rw[if_pos hc]at hu
  exact N.new h (Bool.and_eq_true_iff.mp hc).2 hu hA C K λD s' k hf hN r=>hQ _ s' [(x,D)] k (.one hf (J6Q r) hN) (λq hq=>by rw[List.mem_singleton.mp hq]) (J4u r)
 ·rw[if_neg hc]at hu
  exact S.ev h hA C K λv s' k r=>hQ v s' [] k .nil (λ_ h=>absurd h List.not_mem_nil) (Option.some.inj hu▸r)
theorem OwOk.past (ok:OwOk s s' ow) (k:Kp s s'):Past s ms s' (ow.map (·.2)++ms):=J0b k λb hb=>o11 (List.mem_map.mp hb) λq hq e=>e▸ok.no q hq
theorem OwOk.cx (ok:OwOk s s' ow) (k:Kp s s') (C:Cx w mg mb s ms):Cx w mg mb s' (ow.map (·.2)++ms):=(C.keeps k).grow λb hb=>o11 (List.mem_map.mp hb) λq hq e=>e▸⟨ok.hi q hq,ok.al q hq⟩
theorem Jdj {b:Addr} (k:Kp s s') (h:s'.heap.get? b=none):s.heap.get? b=none:=by
 cases q:s.heap.get? b with
 |none=>rfl
 |some o=>exact nn (h.symm.trans (k.hp _ _ q))
theorem OwOk.app {s1:Shared} {ow1:List (Str×Addr)} (k1:Kp s s1) (ok1:OwOk s s1 ow1) (k2:Kp s1 s') (ok2:OwOk s1 s' ow):OwOk s s' (ow++ow1):=by
 have both: ∀{P:Str×Addr ->Prop},(∀q∈ow,P q) ->(∀q∈ow1,P q) -> ∀q∈ow++ow1,P q:=λh h' q hq=>(List.mem_append.mp hq).elim (h q) (h' q)
 have clash: ∀a∈ow,∀b∈ow1,a.2=b.2 ->False:=λa ha b hb q=>o10 (ok1.al b hb) λo e=>nn ((ok2.no a ha).symm.trans (q▸e))
 exact⟨both (λq hq=>Jdj k1 (ok2.no q hq)) ok1.no,both ok2.al λq hq=>o10 (ok1.al q hq) λo e=>⟨o,k2.hp _ _ e⟩,both ok2.hi ok1.hi,
  both (λa ha=>both (ok2.apart a ha) λb hb q=>(clash a ha b hb q).elim) λa ha=>both (λb hb q=>(clash b hb a ha q.symm).elim) (ok1.apart a ha)⟩
theorem ZRep.reown {vs:List Value} {zs:List (Str×Slot)} (r:ZRep w s ms own vs zs) (h: ∀z∈zs,own z.1=own' z.1):ZRep w s ms own' vs zs:=by
 induction r with
 |nil=>exact .nil
 |cons r _ ih=>exact .cons (J0W r (h _ List.mem_cons_self)) (ih λz hz=>h z (List.mem_cons_of_mem _ hz))
theorem Vq {es:List PySem.Expr} {ds:List D} {ρ ρ':Rho} (h:Jk theTop sc [] es ds ρ=some ρ'):es=[]/\ ds=[]/\ ρ=ρ':=J9 h λhc h=>o01 (Bool.and_eq_true_iff.mp hc) λa b=>⟨List.isEmpty_iff.mp a,List.isEmpty_iff.mp b,Option.some.inj h⟩
theorem ZJ {t:PySem.Expr} {ts es:List PySem.Expr} {ds:List D} {ρ ρ':Rho} {G:Prop} (h:Jk theTop sc (t::ts) es ds ρ=some ρ')
  (k: ∀e es' d ds' x p u,es=e::es' ->ds=d::ds' ->t= .Name x p ->Jp sc x=true ->VU theTop sc t e d=some u ->Jk theTop sc ts es' ds' (setR x u ρ)=some ρ' ->G):G:=
 bnd h λe h1 h=>bnd h λd h2 h=>bnd h λx h3 h=>J9 h λhb h=>bnd h λu h5 h6=>o10 (J1R h3) λp q=>k e.1 e.2 d.1 d.2 x p u (J3n h1) (J3n h2) q hb h5 h6
theorem YM {ts es:List PySem.Expr} {ds:List D} {ρr ρ':Rho} (h:Jk theTop sc ts es ds ρr=some ρ'):ts.length=es.length/\ ∀t∈ts,∃x p,t= .Name x p/\ Jp sc x=true:=by
 induction ts generalizing es ds ρr with
 |nil=>exact⟨by rw[(Vq h).1],λ_ m=>absurd m List.not_mem_nil⟩
 |cons t ts ih=>exact ZJ h λe es' d ds' x p u he _ ht hb _ h6=>⟨by rw[he,List.length_cons,List.length_cons,(ih h6).1],λt m=>(List.mem_cons.mp m).elim (λq=>⟨x,p,q.trans ht,hb⟩) ((ih h6).2 t)⟩
theorem J4v (S:SoundE L n) (N:SoundN L n) {pos:Pos}: ∀{ts es:List PySem.Expr} {ds:List D} {ρr ρ':Rho} {s:Shared} {ms:List Addr} {Q:List Value ->Shared ->Prop},evL L sc ρ es=some ds ->Jk theTop sc ts es ds ρr=some ρ' ->(tns ts).Nodup ->AOk n A ->Cx w mg mb s ms ->EnvOk w s ms own sc env ρ ->
  (∀vs s' ow zs,Kp s s' ->OwOk s s' ow ->(∀q∈ow,q.1∈tns ts) ->ZRep w s' (ow.map (·.2)++ms) (newOwn ow own) vs zs ->setZ zs ρr=ρ' ->zs.map (·.1)=tns ts ->(∀z∈zs,bound sc z.1) ->Q vs s') ->wpAny (model pw w) A (spliced (backTo pos (starEach es env))) Q E s:=by
 intro ts
 induction ts with
 |nil=>
  intro es ds ρr ρ' s ms Q h hb hn hA C K hQ
  refine o02 (Vq hb) λh1 h2 h3=>?_
  rw[h1]
  exact Calls.spliced_nil (hQ [] s [] [] (Kp.rfl' s) .nil (λ_ h=>absurd h List.not_mem_nil) .nil h3 rfl (λ_ h=>absurd h List.not_mem_nil))
 |cons t ts ih=>
  intro es ds ρr ρ' s ms Q h hb hn hA C K hQ
  refine ZJ hb λe es' d ds' x p u he hd ht hbx h5 h6=>?_
  have ht':tns (t::ts)=x::tns ts:=by rw[ht];rfl
  rw[ht']at hn
  rw[ht]at h5
  rw[he]at h
  refine o01 (List.nodup_cons.mp hn) λhx hnr=>bnd h λd0 h1 h2=>bnd h2 λds0 h3 h4=>o01 (List.cons.inj ((Option.some.inj h4).trans hd)) λe1 e2=>?_
  rw[e1]at h1
  rw[e2]at h3
  rw[he,J3 (Je S h1)]
  clear hb h h2 h4 hn e1 e2 he hd ht
  refine Calls.spliced_cons (J0e S N h1 h5 hA C K λv s1 ow1 k1 ok1 hn1 r1=>ih h3 h6 hnr hA (ok1.cx k1 C) (K.past k1 (ok1.past k1)) λvs s2 ow2 zs k2 ok2 hn2 rs hz hzn hzb=>?_)
  have hx2: ∀q∈ow2,q.1≠x:=λq hq e=>hx (e▸hn2 q hq)
  have e1:(ow2++ow1).map (·.2)++ms=ow2.map (·.2)++(ow1.map (·.2)++ms):=by rw[List.map_append,List.append_assoc]
  refine hQ (v::vs) s2 (ow2++ow1) ((x,u)::zs) (k1.tr k2) (ok1.app k1 k2 ok2) (λq hq=>ht'▸(List.mem_append.mp hq).elim (λhq=>List.mem_cons_of_mem _ (hn2 q hq)) λhq=>hn1 q hq▸List.mem_cons_self) (e1▸ .cons ?_ ?_) hz ((congrArg (x:: ·) hzn).trans ht'.symm) λz hz'=>(List.mem_cons.mp hz').elim (λq=>q▸J8 hbx) (hzb z)
  ·exact J0W (r1.move (ok2.past k2) λa _ o e=>k2.hp a o e) (J1S hx2).symm
  ·exact rs.reown λz hz'=>(J4f λq hq e=>hx (by rw[<-hn1 q hq,e,<-hzn];exact List.mem_map.mpr ⟨z,hz',rfl⟩)).symm
noncomputable def unb (xs:List Str) (ρ:Rho):Rho:=ρ.filter λp=>!xs.contains p.1
theorem Ym (xs:List Str) (y:Str): ∀ρ:Rho,(unb xs ρ).lookup y=if y∈xs then none else ρ.lookup y
 |[]=>by simp[unb]
 |(z,u)::r=>by
  have ih:=Ym xs y r
  unfold unb at ih⊢
  rw[List.filter_cons,List.lookup_cons]
  by_cases hz:z∈xs
  ·rw[if_neg (by simpa using hz),ih]
   by_cases hy:y=z
   ·subst hy;rw[if_pos hz,if_pos hz]
   ·rw[beq_eq_false_iff_ne.mpr hy]
  ·rw[if_pos (by simpa using hz),List.lookup_cons,ih]
   by_cases hy:y=z
   ·subst hy;simp[hz]
   ·rw[beq_eq_false_iff_ne.mpr hy]
set_option tactic.hygienic true in
theorem JJ {x:Str} {a:Addr} (h:newOwn ow own x=some a):(x,a)∈ow∨((∀q∈ow,q.1≠x)/\ own x=some a):=by
 unfold newOwn at h
 cases hb:ow.lookup x with
 |some b=>rw[hb]at h;exact .inl (Option.some.inj h▸mem_of_lookup hb)
 |none=>
  rw[hb]at h
  exact .inr ⟨λq hq e=>o10 (J5 (n:=q.1) (c:=q.2) hq) λc hc=>nn (hb.symm.trans (e▸hc)),h⟩
theorem J8Q (F:FrA w s ms mine own sc env ρ) (k:Kp s s') (ok:OwOk s s' ow):FrA w s' (ow.map (·.2)++ms) (ow.map (·.2)++mine) (newOwn ow own) sc env (unb (ow.map (·.1)) ρ):=by
 have hfr: ∀b∈ow.map (·.2),s.heap.get? b=none:=λb hb=>by
  refine o11 (List.mem_map.mp hb) λq hq q1=>?_;subst q1
  exact ok.no q hq
 have F1:=(F.f.grow (wr:=ow.map (·.2)) hfr).kp k
 have hns: ∃o,s.heap.get? env.locals=some o:=let⟨_,o,_,_,e,_⟩:=F.f.locNs;⟨o,e⟩
 refine⟨⟨⟨F.f.en.fit,λy u hu hv=>?_⟩,?_,F1.locNs,List.mem_append.mpr (.inr F.f.locMine),λy c h e=>?_,F.f.cellLoc,F.f.cellInj,λy a h=>?_,λy z a h h'=>?_⟩,λy c h=>let⟨o,e⟩:=F.cells y c h;⟨o,k.hp _ _ e⟩⟩
 ·rw[Ym]at hu
  split at hu
  ·cases hu
  ·rename_i hy
   refine o11 (F1.en.var y u hu hv) λv e1 e2=>?_
   exact⟨v,e1,J0W e2 (Yn λq hq e=>hy (List.mem_map.mpr ⟨q,hq,e⟩)).symm⟩
 ·intro b hb
  rcases List.mem_append.mp hb with h|h
  ·exact List.mem_append.mpr (.inl h)
  ·exact List.mem_append.mpr (.inr (F.f.sub b h))
 ·refine o01 (F1.cellMine y c h e) λh1 h2=>?_
  exact⟨List.mem_append.mpr (.inr h1),h2⟩
 ·rcases JJ h with h|⟨_,h⟩
  ·have hno:=ok.no _ h
   refine⟨List.mem_append.mpr (.inl (List.mem_map.mpr ⟨_,h,rfl⟩)),?_,λz hz=>?_,ok.al _ h⟩
   ·rintro rfl
    refine o10 hns λo e=>?_;clear hns
    rw[hno]at e;cases e
   ·refine o10 (F.cells z a hz) λo e=>?_
    rw[hno]at e;cases e
  ·refine o03 (F1.ownMine y a h) λh1 h2 h3 q2=>?_;refine o10 q2 λo h4=>?_
   exact⟨List.mem_append.mpr (.inr h1),h2,h3,o,h4⟩
 ·have old: ∀{y:Str} {a:Addr},own y=some a -> ∃o,s.heap.get? a=some o:=λh=>(F.f.ownMine _ _ h).2.2.2
  rcases JJ h with h|⟨_,h⟩<;>rcases JJ h' with h'|⟨_,h'⟩
  ·exact ok.apart _ h _ h' rfl
  ·refine o10 (old h') λo e=>?_
   rw[ok.no _ h]at e;cases e
  ·refine o10 (old h) λo e=>?_
   rw[ok.no _ h']at e;cases e
  ·exact F.f.ownInj y z a h h'
theorem Jfv (ok:OwOk s s' ow) (k:Kp s s') (ms mine:List Addr):Mv s ms mine s' (ow.map (·.2)++ms) (ow.map (·.2)++mine):=by
 have hfr: ∀b o,s.heap.get? b=some o ->b∉ow.map (·.2):=λb o e hb=>by
  refine o11 (List.mem_map.mp hb) λq hq q1=>?_;clear hb;subst q1
  rw[ok.no q hq]at e;cases e
 clear ok;obtain⟨⟨h',tk,rfl,hk⟩,t⟩:=k
 exact⟨⟨_,_,rfl⟩,t,λb o e _=>hk b o e,λb o e=>⟨o,hk b o e⟩,λb o e n m=>(List.mem_append.mp m).elim (hfr b o e) n,λb o e n m=>(List.mem_append.mp m).elim (hfr b o e) n,λb h _=>List.mem_append.mpr (.inr h)⟩
theorem FrA.less {ρ':Rho} (F:FrA w s ms mine own sc env ρ') (h:Ext ρ ρ'):FrA w s ms mine own sc env ρ:=⟨F.f.less h,F.cells⟩
theorem J3b {zs:List (Str×Slot)} {vs:List Value} {fs:List (Value ->Sem Unit)} {ρ:Rho} {Q:Unit ->Shared ->Prop} (hf:StF env fs (zs.map (·.1))) (hn:(zs.map (·.1)).Nodup) (C:Cx w mg mb s ms) (F:FrA w s ms mine own sc env ρ) (k:Kp s s') (ok:OwOk s s' ow)
  (hown: ∀q∈ow,q.1∈zs.map (·.1)) (rs:ZRep w s' (ow.map (·.2)++ms) (newOwn ow own) vs zs) (hb: ∀z∈zs,bound sc z.1)
  (hQ: ∀s'' ms' mine' own',Mv s ms mine s'' ms' mine' ->Cx w mg mb s'' ms' ->FrA w s'' ms' mine' own' sc env (setZ zs ρ) ->(∀x,x∉zs.map (·.1) ->own' x=own x) ->Q () s''):wpAny (model pw w) A (assignInOrder fs vs) Q E s':=by
 have C':=ok.cx k C
 have F':=J8Q F k ok
 refine J3c hf rs hb F' C'.live λs'' m F''=>?_
 refine hQ s'' _ _ _ ((Jfv ok k ms mine).tr m C.live) (C'.mvSame m F'.f.sub) (F''.less λx u hx=>?_) λx hx=>Yn λq hq e=>hx (e▸hown q hq)
 rw[YG _ _ _ hn]at hx⊢
 split at hx
 ·exact hx
 ·rename_i hz
  rw[Ym,if_neg]
  ·exact hx
  ·intro hm
   refine o11 (List.mem_map.mp hm) λq hq q1=>?_;clear hx hm;subst q1
   refine o11 (List.mem_map.mp (hown q hq)) λz hz' e=>?_
   refine o10 (J5 (n:=z.1) (c:=z.2) hz') λc hc=>?_
   rw[e,hz]at hc;cases hc
end
section
variable {L:Lv} {n:Nat} {w:World} {mg mb:Str ->Option Value} {A:Around} {E:Value ->Shared ->Prop} {s s':Shared} {ms ms' mine:List Addr} {own own':Str ->Option Addr} {sc:Scope} {env:Env} {ρ:Rho} {ow:List (Str×Addr)}
theorem J5w {x:Str} {u:Slot} (hown: ∀q∈ow,q.1=x):Ext (setR x u ρ) (setR x u (unb (ow.map (·.1)) ρ)):=λy v hy=>by
 rw[JF]at hy⊢
 by_cases hyx:y=x
 ·rw[if_pos hyx]at hy⊢;exact hy
 ·rw[if_neg hyx]at hy⊢
  rw[Ym]
  have hno: ¬y∈ow.map (·.1):=λhm=>by
   refine o11 (List.mem_map.mp hm) λq hq q1=>?_;clear hy hm;subst q1
   exact hyx (hown q hq)
  rw[if_neg hno]
  exact hy
theorem J9i {x:Str} {v:Value} {u:Slot} {Q:Unit ->Shared ->Prop} (C:Cx w mg mb s ms) (F:FrA w s ms mine own sc env ρ) (k:Kp s s') (ok:OwOk s s' ow) (hown: ∀q∈ow,q.1=x) (r:SlotRep w s' (ow.map (·.2)++ms) (newOwn ow own) x v u) (hb:bound sc x)
  (hQ: ∀s'' ms' mine' own',Mv s ms mine s'' ms' mine' ->Cx w mg mb s'' ms' ->FrA w s'' ms' mine' own' sc env (setR x u ρ) ->(∀y,y≠x ->own' y=own y) ->Q () s''):wpAny (model pw w) A (storeName env x v) Q E s':=by
 have C':=ok.cx k C
 have F':=J8Q F k ok
 refine Yo F'.f hb r λs'' m F'' _=>?_
 have FA:FrA w s'' (ow.map (·.2)++ms) (ow.map (·.2)++mine) (newOwn ow own) sc env (setR x u (unb (ow.map (·.1)) ρ)):=⟨F'',λy c h=>o10 (F'.cells y c h) λo e=>m.alive c o e⟩
 exact hQ s'' _ _ _ ((Jfv ok k ms mine).tr m C.live) (C'.mvSame m F'.f.sub) (FA.less (J5w hown)) λy hy=>Yn λq hq e=>hy (e.symm.trans (hown q hq))
theorem VX {x:Str} {p:Pos} {v:Value} {u:Slot} {D C':Addr} {Q:Unit ->Shared ->Prop} (C:Cx w mg mb s ms) (F:FrA w s ms mine own sc env ρ) (hd:CompDone s s' ms D C') (hw:ow=[]∨ow=[(x,D)]) (hDa: ∃o,s'.heap.get? D=some o) (r:SlotRep w s' (ow.map (·.2)++C'::ms) (newOwn ow own) x v u) (hb:bound sc x)
  (hQ: ∀s'' ms' mine' own',Mv s ms mine s'' ms' mine' ->Cx w mg mb s'' ms' ->FrA w s'' ms' mine' own' sc env (setR x u ρ) ->(∀y,y≠x ->own' y=own y) ->Q () s''):
  wpAny (model pw w) A (assign (.Name x p) env v) (λ_ s''=> ∃m,s''.heap.Ns C' m/\ ∀h',Heap.SameBut C' s''.heap h' ->Q () {s'' with heap:=h'}) E s':=by
 have ok:OwOk s s' ow:=by
  clear r;rcases hw with rfl|rfl
  ·exact⟨(λ_ h=>absurd h List.not_mem_nil),(λ_ h=>absurd h List.not_mem_nil),nofun,(λ_ h=>absurd h List.not_mem_nil)⟩
  ·refine⟨?_,?_,?_,?_⟩
   ·intro q hq;rw[List.mem_singleton.mp hq];exact hd.fD
   ·intro q hq;rw[List.mem_singleton.mp hq];exact hDa
   ·intro q hq;rw[List.mem_singleton.mp hq];exact hd.nD
   ·intro p hp q hq _;rw[List.mem_singleton.mp hp,List.mem_singleton.mp hq]
 have hown: ∀q∈ow,q.1=x:=by
  clear r ok;rcases hw with rfl|rfl
  ·nofun
  ·intro q hq;rw[List.mem_singleton.mp hq]
 have howC: ∀b∈ow.map (·.2),b≠C':=by
  clear r ok hown;rcases hw with rfl|rfl
  ·nofun
  ·intro b hb
   rw[List.map_cons,List.map_nil]at hb
   rw[List.mem_singleton.mp hb];exact hd.ne
 have FC:FrA w s (C'::ms) mine own sc env ρ:=⟨F.f.grow (wr:=[C']) λb hb=>by rw[List.mem_singleton.mp hb];exact hd.fC,F.cells⟩
 have F':=J8Q FC hd.k ok
 have alive0: ∀{b o},s.heap.get? b=some o ->b≠C':=λ{b o} e q=>by rw[q,hd.fC]at e;cases e
 have ow0: ∀{b o},s.heap.get? b=some o ->b∉ow.map (·.2):=λ{b o} e hb=>by
  refine o11 (List.mem_map.mp hb) λq hq q1=>?_;clear hb;subst q1
  rw[ok.no q hq]at e;cases e
 have mine0: ∀b∈mine,∃o,s.heap.get? b=some o:=λb hb=>C.live b (F.f.sub b hb)
 refine wpAny_assign_Name (Yo F'.f hb r λs2 m2 F2 _=>?_)
 refine o10 hd.ns λm hns=>?_
 have hCm:C'∉ow.map (·.2)++mine:=λhm=>by
  rcases List.mem_append.mp hm with hm|hm
  ·exact howC _ hm rfl
  ·refine o10 (mine0 _ hm) λo e=>?_
   exact alive0 e rfl
 refine⟨m,hns.at' λo e=>m2.keep _ o e hCm,λh' hs=>?_⟩
 have mv:Mv s ms mine {s2 with heap:=h'} (ow.map (·.2)++ms) (ow.map (·.2)++mine):=by
  clear hDa r ok F' hns;obtain⟨⟨h1,t1,rfl,kk⟩,kt⟩:=hd.k
  clear F2;obtain⟨⟨h2,t2,rfl⟩,mt,mk,ma,_,_,_⟩:=m2
  refine⟨⟨_,_,rfl⟩,Nat.le_trans kt mt,λb o e hn=>hs.extBut b o (alive0 e) (mk b o (kk b o e) λhm=>(List.mem_append.mp hm).elim (ow0 e) hn),λb o e=>?_,λb o e hn hm=>(List.mem_append.mp hm).elim (ow0 e) hn,λb o e hn hm=>(List.mem_append.mp hm).elim (ow0 e) hn,λb hb _=>List.mem_append.mpr (.inr hb)⟩
  refine o10 (ma b o (kk b o e)) λo' e'=>?_
  exact⟨o',hs.extBut b o' (alive0 e) e'⟩
 have sub': ∀b∈ow.map (·.2)++mine,b∈ow.map (·.2)++ms:=λb hb=>(List.mem_append.mp hb).elim (λh=>List.mem_append.mpr (.inl h)) λh=>List.mem_append.mpr (.inr (F.f.sub b h))
 have live': ∀b∈ow.map (·.2)++ms,∃o,h'.get? b=some o:=λb hb=>by
  rcases List.mem_append.mp hb with hb|hb
  ·refine o11 (List.mem_map.mp hb) λq hq q2=>?_;subst q2
   refine o10 (ok.al q hq) λo e=>?_
   refine o10 (m2.alive _ o e) λo' e'=>?_
   exact⟨o',hs.extBut _ o' (howC _ hb) e'⟩
  ·refine o10 (C.live b hb) λo e=>?_
   exact mv.alive b o e
 have faC: ∀b,Fa (newOwn ow own) env b ->b≠C':=λb hb=>by
  rcases hb with rfl|⟨y,h⟩|⟨y,h⟩
  ·refine o10 (mine0 _ F.f.locMine) λo e=>?_
   exact alive0 e
  ·refine o10 (F.cells y b h) λo e=>?_
   exact alive0 e
  ·rcases JJ h with h|⟨_,h⟩
   ·exact howC b (List.mem_map.mpr ⟨_,h,rfl⟩)
   ·refine o03 (F.f.ownMine y b h) λ_ _ _ q3=>?_;refine o10 q3 λo e=>?_
    exact alive0 e
 have p3:Past s2 (ow.map (·.2)++C'::ms) {s2 with heap:=h'} (ow.map (·.2)++ms):=⟨Nat.le_refl _,λb o e hn=>⟨hs.extBut b o (λq=>hn (List.mem_append.mpr (.inr (q▸List.mem_cons_self)))) e,λhm=>hn ((List.mem_append.mp hm).elim (λh=>List.mem_append.mpr (.inl h)) λh=>List.mem_append.mpr (.inr (List.mem_cons_of_mem _ h)))⟩⟩
 have F3:FrOk w {s2 with heap:=h'} (ow.map (·.2)++ms) (ow.map (·.2)++mine) (newOwn ow own) sc env (setR x u (unb (ow.map (·.1)) ρ)):=F2.move p3 sub' λb hb o e=>hs.extBut b o (faC b hb) e
 have FA:FrA w {s2 with heap:=h'} (ow.map (·.2)++ms) (ow.map (·.2)++mine) (newOwn ow own) sc env (setR x u (unb (ow.map (·.1)) ρ)):=⟨F3,λy c h=>by
  refine o10 (F.cells y c h) λo e=>?_
  exact mv.alive c o e⟩
 refine hQ _ _ _ _ mv (C.mv mv F.f.sub (λb hb=>(List.mem_append.mp hb).elim (λh=> .inr ?_) .inl) live') (FA.less (J5w hown)) λy hy=>Yn λq hq e=>hy (e.symm.trans (hown q hq))
 refine o11 (List.mem_map.mp h) λq hq q4=>?_;clear hb h;subst q4
 exact ok.hi q hq
end
section
variable {prog:Program} {w:World} {A:Around} {E:Value ->Shared ->Prop} {s:Shared}
theorem J6P {l:Addr} {vs:List Value} {k:Nat} {t:Tok} {v:Value} {Q:Unit ->Shared ->Prop} {i:Int} (h0:0<=i) (hl:LsAt s.heap l vs) (hlen:vs.length<=1000000) (hk:seqIndex? i vs.length=some k) (hlt:k<vs.length)
  (hQ: ∀s',Kw [l] s s' ->LsAt s'.heap l (vs.set k v) ->Q () s'):wpAny (model prog w) A (setItem (.ref l) (.int i t) v) Q E s:=by
 refine o10 hl λnn ho=>?_;clear hl
 have hT:s.TypeIs (.ref l) "list":=⟨_,ho,rfl⟩
 have hik:i=(k:Int):=by rcases Jb hk with⟨h1,h2,rfl⟩|⟨h1,h2,rfl,h3⟩<;>lia
 have hd:({cls:= .type "list",data:= .seq vs.toArray nn}:Obj).data= .seq vs.toArray nn:=rfl
 have hj:k<vs.toArray.size:=by simpa using hlt
 have hx':vs.toArray[k]?=some vs.toArray[k]:=Array.getElem?_eq_getElem hj
 unfold setItem
 try with_reducible refine wpAny_holding ?_
 first|refine wpAny_bind (wpAny_pure ?_)|skip
 refine wpAny_bind (wpAny_sequenceKey hT (by decide) ?_)
 refine wpAny_bind (wpAny_callSpecial?_slot (name:=Str.ofString "__setitem__") hT slot_list_setitem
  (wpAny_call_entry slot_list_setitem hT entry_list_setitem ?_ (args_list_setitem _ _ _)))
 show wpAny _ _ (Builtin.List.listSubscript? (.int i t)>>=_) _ _ s
 have hfit:i<2^63:=by lia
 refine wpAny_bind (wpAny_listSubscript_int (fitsIndex_of h0 hfit) ?_)
 clear hfit
 clear h0 hk;subst hik
 show wpAny _ _ ((seqItemAt l k>>=λr=>pure (r.map (k,·)))>>=_) _ _ s
 refine wpAny_bind (wpAny_bind (wpAny_seqItemAt ho hd (wpAny_pure ?_)))
 rw[hx']
 show wpAny _ _ (setSeqItemAt l k v>>=_) _ _ s
 have hfin:Q () {s with heap:=s.heap.update l (Obj.mapSeq (·.setIfInBounds k v))}:=by
  refine hQ _ (JS (tk:=s.toks) (Nat.le_refl _) (Heap.SameBut.update ..)) ⟨nn,?_⟩
  show(s.heap.update l (Obj.mapSeq (·.setIfInBounds k v))).get? l=_
  rw[Heap.get?_update_self _ ho rfl]
  simp[Obj.mapSeq]
 refine wpAny_bind (wpAny_setSeqItemAt ho hd ?_)
 first
  |exact wpAny_bind (wpAny_pure (wpAny_pure ⟨.none,rfl,wpAny_pure hfin⟩))
  |exact wpAny_pure ⟨.none,rfl,wpAny_pure hfin⟩
end
section
variable {L:Lv} {n:Nat} {w:World} {mg mb:Str ->Option Value} {A:Around} {E:Value ->Shared ->Prop} {s s':Shared} {ms ms' mine:List Addr} {own own':Str ->Option Addr} {sc:Scope} {env:Env} {ρ:Rho}
theorem VR {x:Str} {u0 u:Slot} {a:Addr} (C:Cx w mg mb s ms) (F:FrA w s ms mine own sc env ρ) (hx:ρ.lookup x=some u0) (hu0: ∀d,u0≠ .val d) (hv:Jg sc x=true) (ho:own x=some a) (k:Kw [a] s s') (r:SlotRep w s' ms own x (.ref a) u) (hal: ∃o,s'.heap.get? a=some o):
  Mv s ms mine s' ms mine/\ Cx w mg mb s' ms/\ FrA w s' ms mine own sc env (setR x u ρ):=by
 refine o03 (F.f.ownMine x a ho) λha haL haC _=>?_
 have ham:=F.f.sub a ha
 have hk: ∀b o,b≠a ->s.heap.get? b=some o ->s'.heap.get? b=some o:=λb o hb e=>k.h b o (λm=>hb (List.mem_singleton.mp m)) e
 have p:Past s ms s' ms:=k.past λb hb=>by rw[List.mem_singleton.mp hb];exact ham
 have al: ∀b o,s.heap.get? b=some o -> ∃o',s'.heap.get? b=some o':=λb o e=>by
  by_cases q:b=a
  ·rw[q];exact hal
  ·exact⟨o,hk b o q e⟩
 have mv:Mv s ms mine s' ms mine:=⟨k.same,k.t,λb o e hn=>hk b o (λq=>hn (q▸ha)) e,al,λ_ _ _ n=>n,λ_ _ _ n=>n,λ_ h _=>h⟩
 have at': ∀{y v},At s.heap env y v ->At s'.heap env y v:=λh=>h.move λb hb o e=>hk b o (λq=>by
  rcases hb with hb|⟨z,hz⟩
  ·exact haL (q▸hb)
  ·exact haC z (q▸hz)) e
 refine⟨mv,C.mvSame mv F.f.sub,⟨⟨⟨F.f.en.fit,λy u' e hv'=>?_⟩,F.f.sub,?_,F.f.locMine,λy c h e=>?_,F.f.cellLoc,F.f.cellInj,λy b h=>?_,F.f.ownInj⟩,λy c h=>o10 (F.cells y c h) λo e=>al c o e⟩⟩
 ·rw[JF]at e
  by_cases hy:y=x
  ·rw[if_pos hy]at e
   cases e
   subst hy
   refine o11 (F.f.en.var y u0 hx hv) λv e1 e2=>?_
   cases u0 with
   |val d=>exact absurd rfl (hu0 d)
   |mls l=>
    refine o22 e2 λa' _ h q1 _=>?_;clear e2;subst q1
    rw[ho]at h;cases h
    exact⟨_,at' e1,r⟩
   |mdc l=>
    refine o22 e2 λa' _ h q2 _=>?_;clear e2;subst q2
    rw[ho]at h;cases h
    exact⟨_,at' e1,r⟩
  ·rw[if_neg hy]at e
   refine o11 (F.f.en.var y u' e hv') λv e1 e2=>?_
   exact⟨v,at' e1,e2.move p λb hb o q=>hk b o (λz=>hy (F.f.ownInj y x b hb (z▸ho))) q⟩
 ·refine o10 F.f.locNs λm e=>?_
  exact⟨m,e.at' λo q=>hk _ o (Ne.symm haL) q⟩
 ·refine o01 (F.f.cellMine y c h e) λh1 q3=>?_;refine o21 q3 λv o e2 e3=>?_
  exact⟨h1,v,o,hk c o (λq=>haC y (q▸e)) e2,e3⟩
 ·refine o03 (F.f.ownMine y b h) λh1 h2 h3 q4=>?_;refine o10 q4 λo h4=>?_
  exact⟨h1,h2,h3,al b o h4⟩
theorem Zd {x:Str} {l:List D} (F:FrA w s ms mine own sc env ρ) (hx:ρ.lookup x=some (.mls l)) (hv:Jg sc x=true): ∃a vs,own x=some a/\ At s.heap env x (.ref a)/\ LsAt s.heap a vs/\ RepL w s ms vs l:=by
 refine o11 (F.f.en.var x _ hx hv) λv e1 q1=>?_;refine o23 q1 λa vs h1 q2 h2 h3=>?_;clear q1;subst q2
 exact⟨a,vs,h1,e1,h2,h3⟩
theorem J5m {x:Str} {l:List (Key×D)} (F:FrA w s ms mine own sc env ρ) (hx:ρ.lookup x=some (.mdc l)) (hv:Jg sc x=true): ∃a vs,own x=some a/\ At s.heap env x (.ref a)/\ DcAt w s.heap a vs/\ RepK w s ms vs l:=by
 refine o11 (F.f.en.var x _ hx hv) λv e1 q1=>?_;refine o23 q1 λa vs h1 q2 h2 h3=>?_;clear q1;subst q2
 exact⟨a,vs,h1,e1,h2,h3⟩
theorem J0u {x:Str} {v:Value} {pos:Pos} {Q:Value ->Shared ->Prop} (K:ScOk sc env) (hv:Jg sc x=true) (a:At s.heap env x v) (h:Q v s):wpAny (model pw w) A (eval (.Name x pos) env) Q E s:=by
 refine wpAny_Name ?_ (Yl hv).2
 rcases a with⟨k,m,e1,e2⟩|⟨k|k,c,e1,e2⟩
 ·exact wpAny_loadName_local K.kind k e1 e2 h
 ·exact wpAny_loadName_cell K.kind k e1 e2 h
 ·exact wpAny_loadName_free K.kind k e1 e2 h (Yl hv).1
theorem RepL.kw {vs:List Value} {ds:List D} {a:Addr} (r:RepL w s ms vs ds) (k:Kw [a] s s') (h:a∈ms):RepL w s' ms vs ds:=r.past (k.past λb hb=>by rw[List.mem_singleton.mp hb];exact h)
theorem RepK.kw {vs:List (Key×Value)} {ds:List (Key×D)} {a:Addr} (r:RepK w s ms vs ds) (k:Kw [a] s s') (h:a∈ms):RepK w s' ms vs ds:=r.past (k.past λb hb=>by rw[List.mem_singleton.mp hb];exact h)
theorem Rep.kw {v:Value} {d:D} {a:Addr} (r:Rep w s ms v d) (k:Kw [a] s s') (h:a∈ms):Rep w s' ms v d:=r.past (k.past λb hb=>by rw[List.mem_singleton.mp hb];exact h)
theorem JfF {l:Addr} {vs:List Value} {k:Nat} {t:Tok} {y:Value} {Q:Value ->Shared ->Prop} {i:Int} (hl:LsAt s.heap l vs) (hlen:vs.length<=1000000) (hk:seqIndex? i vs.length=some k) (hy:vs[k]?=some y)
  (hQ: ∀s',Kw [l] s s' ->LsAt s'.heap l (vs.eraseIdx k) ->Q y s'):wpAny (model pw w) A (call (.builtin "list.pop") [.ref l,.int i t]) Q E s:=by
 refine o10 hl λnn ho=>?_;clear hl
 have hlt:k<vs.length:=by
  rcases Nat.lt_or_ge k vs.length with h|h
  ·exact h
  ·rw[List.getElem?_eq_none h]at hy;cases hy
 have hfit:Builtin.List.listFitsIndex i=true:=by
  rcases Jb hk with⟨h1,h2,rfl⟩|⟨h1,h2,rfl,h3⟩<;>simp[Builtin.List.listFitsIndex]<;>lia
 refine call_meets F.slot_list_pop ⟨_,ho,rfl⟩ F.entry_list_pop (F.args_list_pop_2 _ _) (PySem.MeetsSeq.list_pop_at l vs.toArray nn i t k y hfit (by simpa using hk) (by simpa using hy) (by rw[sizeLine_eq];simp;lia)) ⟨ho,?_⟩
 refine hQ _ (JS (tk:=s.toks) (Nat.le_refl _) (Heap.SameBut.update ..)) ⟨if(vs.eraseIdx k).length=vs.length then nn else nn+1,?_⟩
 show(s.heap.update l (Obj.mapSeq λxs=>xs.eraseIdxIfInBounds k)).get? l=_
 rw[Heap.get?_update_self _ ho rfl]
 simp[Obj.mapSeq,Array.eraseIdxIfInBounds,hlt]
end
section
variable {L:Lv} {n:Nat} {w:World} {mg mb:Str ->Option Value} {A:Around} {E:Value ->Shared ->Prop} {s s':Shared} {ms ms' mine:List Addr} {own own':Str ->Option Addr} {sc:Scope} {env:Env} {ρ ρ':Rho} {fl:Fl}
theorem FrA.kp (F:FrA w s ms mine own sc env ρ) (k:Kp s s'):FrA w s' ms mine own sc env ρ:=⟨F.f.kp k,λx c h=>let⟨o,e⟩:=F.cells x c h;⟨o,k.hp _ _ e⟩⟩
noncomputable abbrev J0h (w:World) (mg mb:Str ->Option Value) (s:Shared) (ms mine:List Addr) (own:Str ->Option Addr) (sc:Scope) (env:Env) (hs:Str ->Bool) (ρ':Rho) (fl:Fl) (Q:Flow ->Shared ->Prop):Prop:=
 ∀f s' ms' mine' own',Stepped w mg mb s ms mine own sc env hs ρ' fl f s' ms' mine' own' ->Q f s'
theorem YJ {hs:Str ->Bool} {ρ1:Rho} {s1 s2:Shared} (C:Cx w mg mb s ms) (k:Kp s s1) (h:Mv s1 ms mine s2 ms mine/\ Cx w mg mb s2 ms/\ FrA w s2 ms mine own sc env ρ1):Stepped w mg mb s ms mine own sc env hs ρ1 .next .next s2 ms mine own:=
 ⟨(Mv.kp k ms mine).tr h.1 C.live,h.2.1,h.2.2,trivial,λ_ _=>rfl⟩
theorem J8G (K:ScOk sc env):interactive env=false:=by
 unfold interactive
 rw[K.kind];rfl
theorem Stepped.of {hs:Str ->Bool} {ρ1:Rho} {fl1:Fl} {f:Flow} {s1:Shared} {ms1 mine1:List Addr} {own1:Str ->Option Addr} (h:some (ρ1,fl1)=some (ρ',fl)) (st:Stepped w mg mb s ms mine own sc env hs ρ1 fl1 f s1 ms1 mine1 own1):Stepped w mg mb s ms mine own sc env hs ρ' fl f s1 ms1 mine1 own1:=
 (Prod.mk.inj (Option.some.inj h)).1▸(Prod.mk.inj (Option.some.inj h)).2▸st
theorem J3w (S:SoundE L n) {x name:Str} {e:PySem.Expr} {xp apos pos spos:Pos} {hs:Str ->Bool} {Q:Flow ->Shared ->Prop} (h:JeZ theTop L sc ρ (.Expr (.Call (.Attribute (.Name x xp) name apos) [e] [] pos) spos)=some (ρ',fl)) (hA:AOk n A) (C:Cx w mg mb s ms) (F:FrA w s ms mine own sc env ρ)
  (hQ:J0h w mg mb s ms mine own sc env hs ρ' fl Q):wpAny (model pw w) A (exec (.Expr (.Call (.Attribute (.Name x xp) name apos) [e] [] pos) spos) env) Q E s:=by
 refine J9 (show(if _ then _ else _)=some (ρ',fl)from h) λhc h=>bnd h λl hx h=>bnd h λd h1 h2=>J9 h2 λhlen e=>?_
 replace hx:=Vj hx
 simp only[Bool.and_eq_true]at hc
 rw[eq_of_beq hc.1.1]
 clear h h2
 refine o23 (Zd F hx hc.1.2) λa vs ho hat hl r=>o10 hl λnn el=>?_
 have ham:=F.f.sub a (F.f.ownMine x a ho).1
 refine wpAny_Expr ?_ (J8G F.f.en.fit) rfl
 refine wpAny_Call_method (T:="list") (id:="list.append") rfl (Zx S (Vu h1) (Nat.le_add_left 1 3)) hc.2 PySem.F.plainAttrs_list PySem.slot_list_append PySem.F.type_list_append (J0u F.f.en.fit hc.1.2 hat ⟨hl.isList.typeIs,λb hb=>Value.ref.inj hb▸⟨_,el,rfl⟩,?_⟩)
 refine Calls.callWith_builtin (Ji S (Vu h1) pos).2 (Jt S (Vu h1) hA C F.f.en λus s1 k1 rs=>o11 (Vd rs) λv q2 r1=>?_)
 rw[q2]
 have hle:=r.length
 refine ZI ⟨nn,k1.hp _ _ el⟩ ham (by lia) λs2 k2 hl2=>o10 hl2 λn2 e2=>hQ _ _ _ _ _ (.of e (YJ C k1 (VR (C.keeps k1) (F.kp k1) hx (λ_ h=>Slot.noConfusion h) hc.1.2 ho k2 ⟨a,_,ho,rfl,hl2,((r.kp k1).kw k2 ham).append (.cons (r1.kw k2 ham) .nil)⟩ ⟨_,e2⟩)))
theorem J6y {e o i:PySem.Expr} {p:Pos} {l:Nat}:swapsWith e (some (.Subscript o i p)) l env=pure false:=by cases e<;>rfl
set_option tactic.hygienic true in
theorem J39 {l l':List D} {k v:D} (h:VV l k v=some l'): ∃i j,k= .int i/\ 0<=i/\ l.length<=1000000/\ seqIndex? i l.length=some j/\ j<l.length/\ l'=l.set j v:=by
 cases k with
 |int i=>exact J9 h λh0 h=>mpd h λj hj q=>o02 (YV hj) λa b c=>⟨i,j,rfl,h0,a,b,c,q.symm⟩
 |_=>exact nn h
theorem KY {x:Str} {v:D} {k:D} {vv kv:Value} {s1:Shared} {hs:Str ->Bool} {a:Addr} {u:Slot} {Q:Unit ->Shared ->Prop} (C:Cx w mg mb s ms) (F:FrA w s ms mine own sc env ρ) (k1:Kp s s1) (hv:Jg sc x=true) (ho:own x=some a) (rv:Rep w s1 ms vv v) (rk:Rep w s1 ms kv k)
  (hx:ρ.lookup x=some u) (h:J3a u k v (λu=>(setR x u ρ,Fl.next))=some (ρ',fl)) (hQ: ∀s2,Stepped w mg mb s ms mine own sc env hs ρ' fl .next s2 ms mine own ->Q () s2):wpAny (model pw w) A (setItem (.ref a) kv vv) Q E s1:=by
 have F1:=F.kp k1
 have C1:=C.keeps k1
 have ham:=F.f.sub a (F.f.ownMine x a ho).1
 cases u with
 |val d=>exact nn h
 |mdc l=>
  refine bnd h λkey h1 h2=>J9 h2 λhlen e=>o23 (J5m F1 hx hv) λa' kvs ho' hat hd r=>?_
  have ea:=Option.some.inj (ho'.symm.trans ho)
  rw[ea]at hd
  have hle:=r.length
  refine wpAny_setItem_pairs (Y8 h1 rk) hd.1 (λh' hd' hsame=>?_) (by rw[sizeLine_eq];lia)
  have k2:Kw [a] s1 {s1 with heap:=h',toks:=s1.toks+1}:=JS (Nat.le_succ _) hsame
  have hd2:DcAt w h' a (putV key vv kvs):=⟨by rw[<-VY key vv kvs (DictOf.nodup hd.1)];exact hd',hd.2⟩
  exact hQ _ (.of e (YJ C k1 (VR C1 F1 hx (λ_ h=>Slot.noConfusion h) hv ho k2 ⟨a,_,ho,rfl,hd2,(r.kw k2 ham).put (rv.kw k2 ham)⟩ (o31 hd2.1 λo _ _ e _=>⟨o,e⟩))))
 |mls l=>
  refine mpd h λl' h1 e=>o24 (J39 h1) λi j q1 h0 hlen hj q2=>o23 (Zd F1 hx hv) λa' vs ho' hat hl r=>?_
  have ea:=Option.some.inj (ho'.symm.trans ho)
  rw[ea]at hl
  rw[q1]at rk
  have hle:=r.length
  refine rk.iE λt=>J6P h0 hl (by lia) (by rw[hle];exact hj) (by lia) λs2 k2 hl2=>hQ _ (.of (congrArg some e) (YJ C k1 (VR C1 F1 hx (λ_ h=>Slot.noConfusion h) hv ho k2 ⟨a,_,ho,rfl,hl2,by rw[q2.2];exact(r.kw k2 ham).set (rv.kw k2 ham)⟩ (o10 hl2 λn e=>⟨_,e⟩))))
theorem J0f {β:Type} {u:Slot} {k v:D} {f:Slot ->β} {r:β} (h:J3a u k v f=some r) (d:D) (e:u= .val d):False:=by rw[e]at h;exact nn h
theorem J5n {x:Str} {u:Slot} (F:FrA w s ms mine own sc env ρ) (hx:ρ.lookup x=some u) (hu: ∀d,u≠ .val d) (hv:Jg sc x=true): ∃a,own x=some a/\ At s.heap env x (.ref a):=by
 cases u with
 |val d=>exact absurd rfl (hu d)
 |mls l=>exact o22 (Zd F hx hv) λa _ h1 h2 _=>⟨a,h1,h2⟩
 |mdc l=>exact o22 (J5m F hx hv) λa _ h1 h2 _=>⟨a,h1,h2⟩
theorem JbV (S:SoundE L n) {x:Str} {i e:PySem.Expr} {xp tp pos:Pos} {hs:Str ->Bool} {Q:Flow ->Shared ->Prop} (h:JeZ theTop L sc ρ (.Assign [.Subscript (.Name x xp) i tp] e pos)=some (ρ',fl)) (hA:AOk n A) (C:Cx w mg mb s ms) (F:FrA w s ms mine own sc env ρ)
  (hQ:J0h w mg mb s ms mine own sc env hs ρ' fl Q):wpAny (model pw w) A (exec (.Assign [.Subscript (.Name x xp) i tp] e pos) env) Q E s:=by
 exact bnd (show(L.ev sc ρ e).bind _=some (ρ',fl)from h) λv h1 h=>bnd h λk h3 h=>J9 h λhv h=>bnd h λu hx h4=>o11 (J5n F hx (J0f h4) hv) λa ho hat=>
  wpAny_Assign_Subscript (S.ev h1 hA C F.f.en λvv s1 k1 r1=>J0u F.f.en.fit hv (hat.keeps k1.hp) (S.ev h3 hA (C.keeps k1) (F.kp k1).f.en λkv s2 k2 r2=>KY C F (k1.tr k2) hv ho (r1.kp k2) r2 hx h4 λs3 st=>hQ _ _ _ _ _ st)) J6y
end
theorem J1T {α:Type} {l:List α} (h:l.Nodup):l.reverse.Nodup:=List.pairwise_reverse.mpr (List.Pairwise.imp (λh=>Ne.symm h) h)
noncomputable def J4g (env:Env) (line:Nat) (ts:List PySem.Expr):List Str:=ts.filterMap λt=>match t with
   | .Name id pos=>if env.kindOf id==some .local&&pos.line==line then some id else none
   |_=>none
theorem J8D {ts:List PySem.Expr} {env:Env} {line:Nat} (h: ∀t∈ts,∃x p,t= .Name x p):(J4g env line ts).length<=ts.length/\ ((J4g env line ts).length=ts.length ->J4g env line ts=tns ts):=by
 induction ts with
 |nil=>exact⟨Nat.le_refl _,λ_=>rfl⟩
 |cons t ts ih=>
  refine o20 (h t List.mem_cons_self) λx p q=>?_
  replace ih:=ih λt ht=>h t (List.mem_cons_of_mem _ ht)
  rw[q]
  by_cases hc:(env.kindOf x==some .local&&p.line==line)=true
  ·have e:J4g env line (.Name x p::ts)=x::J4g env line ts:=List.filterMap_cons_some (if_pos hc)
   rw[e]
   exact⟨Nat.succ_le_succ ih.1,λe=>congrArg (x:: ·) (ih.2 (Nat.succ.inj e))⟩
  ·have e:J4g env line (.Name x p::ts)=J4g env line ts:=List.filterMap_cons_none (if_neg hc)
   rw[e]
   exact⟨Nat.le_succ_of_le ih.1,λe=>absurd ih.1 (by rw[e,List.length_cons];exact Nat.not_succ_le_self _)⟩
theorem Jg4 {α:Type} {P:α ->Prop} {c:Prop} [Decidable c] {x y:α} (h:c ->P x) (h': ¬c ->P y):P (if c then x else y):=by
 by_cases q:c
 ·rw[if_pos q];exact h q
 ·rw[if_neg q];exact h' q
theorem J0X {ts es:List PySem.Expr} {k k':Nat} {p p':Pos} {env:Env} (hn: ∀t∈ts,∃x p,t= .Name x p) (hsw:JbY ts es=true):
  swappedStores [.Tuple ts k p] (.Tuple es k' p') env=pure none∨swappedStores [.Tuple ts k p] (.Tuple es k' p') env=pure (some (tns ts)):=by
 unfold JbY at hsw
 rw[Bool.and_eq_true]at hsw
 have hc:es.all (constantsAlone 8)=false:=by simpa using hsw.1
 delta swappedStores
 refine Jg4 (P:=λz:Sem (Option (List Str))=>z=pure none∨z=pure (some (tns ts))) (λ_=> .inl rfl) λ_=>?_
 refine Jg4 (P:=λz:Sem (Option (List Str))=>z=pure none∨z=pure (some (tns ts))) (λ_=> .inl rfl) λ_=>?_
 refine Jg4 (P:=λz:Sem (Option (List Str))=>z=pure none∨z=pure (some (tns ts))) (λ_=> .inl rfl) λhx=>?_
 refine Jg4 (P:=λz:Sem (Option (List Str))=>z=pure none∨z=pure (some (tns ts))) (λ_=> .inl rfl) λ_=> .inr ((if_neg (hc▸Bool.false_ne_true)).trans (congrArg (λl=>pure (some l)) ((J8D hn).2 ?_)))
 replace hx:=Bool.eq_false_iff.mpr hx
 exact Decidable.byContradiction λq=>Bool.noConfusion (hx.symm.trans (Bool.or_eq_true_iff.mpr (.inl (bne_iff_ne.mpr q))))
section
variable {L:Lv} {n:Nat} {w:World} {mg mb:Str ->Option Value} {A:Around} {E:Value ->Shared ->Prop} {s s':Shared} {ms ms' mine:List Addr} {own own':Str ->Option Addr} {sc:Scope} {env:Env} {ρ ρ':Rho} {fl:Fl}
theorem Jc0 {elt:PySem.Expr} {gens:List Comprehension} {csc:Scope} {cp p:Pos} {x:Str} {l:Nat}: ∃b,swapsWith (.ListComp elt gens csc cp) (some (.Name x p)) l env=pure b:=⟨_,rfl⟩
theorem JbZ {kx vx:PySem.Expr} {gens:List Comprehension} {csc:Scope} {cp p:Pos} {x:Str} {l:Nat}: ∃b,swapsWith (.DictComp kx vx gens csc cp) (some (.Name x p)) l env=pure b:=⟨_,rfl⟩
theorem J3y (S:SoundE L n) (N:SoundN L n) {x:Str} {p pos:Pos} {e:PySem.Expr} {d:D} {u:Slot} {hs:Str ->Bool} {Q:Flow ->Shared ->Prop} (h1:L.ev sc ρ e=some d) (hu:VU theTop sc (.Name x p) e d=some u) (hb:Jp sc x=true) (hhs:hs x=true)
  (hA:AOk n A) (C:Cx w mg mb s ms) (F:FrA w s ms mine own sc env ρ) (hQ:J0h w mg mb s ms mine own sc env hs (setR x u ρ) .next Q):wpAny (model pw w) A (exec (.Assign [.Name x p] e pos) env) Q E s:=by
 have hne: ∀y,hs y=false ->y≠x:=λy hy q=>by rw[q,hhs]at hy;cases hy
 have fin: ∀s2 ms' mine' own',Mv s ms mine s2 ms' mine' ->Cx w mg mb s2 ms' ->FrA w s2 ms' mine' own' sc env (setR x u ρ) ->(∀y,y≠x ->own' y=own y) ->Q .next s2:=λs2 ms' mine' own' m C2 F2 ho=>
  hQ _ _ _ _ _ ⟨m,C2,F2,trivial,λy hy=>ho y (hne y hy)⟩
 have plain:swapsWith e (some (.Name x p)) pos.line env=pure false ->wpAny (model pw w) A (exec (.Assign [.Name x p] e pos) env) Q E s:=λhsw=>
  wpAny_Assign_Name (J0e S N h1 hu hA C F.f.en λv s1 ow k1 ok1 hn1 r1=>J9i C F k1 ok1 hn1 r1 (J8 hb) fin) hsw
 cases e with
 |ListComp elt gens csc cp=>
  refine o10 (Jc0 (env:=env) (elt:=elt) (gens:=gens) (csc:=csc) (cp:=cp) (p:=p) (x:=x) (l:=pos.line)) λb hsw=>?_
  cases b with
  |false=>exact plain hsw
  |true=>
   clear plain hQ
   rw[exec_Assign_Name_used _ _ _ _ hsw]
   refine wpAny_bind (wpAny_standAt (wpAny_bind (N.use h1 hA C F.f.en (Q:=λ_ s'=>wpAny (model pw w) A (pure .next) Q E s') λD C' out s1 hd hdo acc=>o11 acc λvs hl r=>o10 hl λnn' el=>?_)))
   rw[hdo]at hu
   replace hu:(if(J8c theTop sc x&&true)=true then some (Slot.mls out)else some (.val (.lst out)))=some u:=hu
   by_cases ho:(J8c theTop sc x&&true)=true
   ·rw[if_pos ho]at hu
    exact VX (ow:=[(x,D)]) (x:=x) (p:=p) (v:= .ref D) (u:=u) (Q:=λ_ s'=>wpAny (model pw w) A (pure .next) Q E s') C F hd (.inr rfl) ⟨_,el⟩ (Option.some.inj hu▸⟨D,vs,by simp[newOwn],rfl,hl,r.weaken λb hb=>(List.mem_cons.mp hb).elim (λh=>h▸ .tail _ (.head _)) λhb=>(List.mem_cons.mp hb).elim (λh=>h▸ .head _) λhb=> .tail _ (.tail _ hb)⟩) (J8 hb) λs2 ms' mine' own' m C2 F2 ho=>wpAny_pure (fin s2 ms' mine' own' m C2 F2 ho)
   ·rw[if_neg ho]at hu
    exact VX (ow:=[]) (x:=x) (p:=p) (v:= .ref D) (u:=u) (Q:=λ_ s'=>wpAny (model pw w) A (pure .next) Q E s') C F hd (.inl rfl) ⟨_,el⟩ (Option.some.inj hu▸Rep.lst hl (λhm=>(List.mem_cons.mp hm).elim hd.ne (C.notin hd.fD)) (r.weaken λb hb=>(List.mem_cons.mp hb).elim (λh=>h▸ .head _) λhb=> .tail _ (.tail _ hb))) (J8 hb) λs2 ms' mine' own' m C2 F2 ho=>wpAny_pure (fin s2 ms' mine' own' m C2 F2 ho)
 |DictComp kx vx gens csc cp=>
  refine o10 (JbZ (env:=env) (kx:=kx) (vx:=vx) (gens:=gens) (csc:=csc) (cp:=cp) (p:=p) (x:=x) (l:=pos.line)) λb hsw=>?_
  cases b with
  |false=>exact plain hsw
  |true=>
   clear plain hQ
   rw[exec_Assign_Name_used _ _ _ _ hsw]
   refine wpAny_bind (wpAny_standAt (wpAny_bind (N.useD h1 hA C F.f.en (Q:=λ_ s'=>wpAny (model pw w) A (pure .next) Q E s') λD C' out s1 hd hdo acc=>o11 acc λvs hl r=>?_)))
   rw[hdo]at hu
   replace hu:(if(J8c theTop sc x&&false)=true then J3h _ else some (Slot.val (.dct (out.foldl (λl kv=>JY kv.1 kv.2 l) []))))=some u:=hu
   rw[Bool.and_false,if_neg (λh=>Bool.noConfusion h)]at hu
   exact VX (ow:=[]) (x:=x) (p:=p) (v:= .ref D) (u:=u) (Q:=λ_ s'=>wpAny (model pw w) A (pure .next) Q E s') C F hd (.inl rfl) (o31 hl.1 λo _ _ e _=>⟨o,e⟩) (Option.some.inj hu▸Rep.dct hl (λhm=>(List.mem_cons.mp hm).elim hd.ne (C.notin hd.fD)) (r.weaken λb hb=>(List.mem_cons.mp hb).elim (λh=>h▸ .head _) λhb=> .tail _ (.tail _ hb))) (J8 hb) λs2 ms' mine' own' m C2 F2 ho=>wpAny_pure (fin s2 ms' mine' own' m C2 F2 ho)
 |SetComp e gens csc cp=>rw[N.sete]at h1;exact nn h1
 |_=>exact plain rfl
theorem J9h {ts:List PySem.Expr} (h: ∀t∈ts,∃x p,t= .Name x p):StF env ((assignEach ts env).map (·.2)) (tns ts):=by
 induction ts with
 |nil=>exact .nil
 |cons t ts ih=>exact o20 (h t List.mem_cons_self) λx p q=>q▸ .cons (λM A v Q E s hw=>wpAny_assign_Name hw) (ih λt ht=>h t (List.mem_cons_of_mem _ ht))
theorem J9g (xs:List Str):StF env (xs.map λn=>bindName env n) xs:=by
 induction xs with
 |nil=>exact .nil
 |cons x xs ih=>exact .cons (λM A v Q E s hw=>wpAny_bindName hw) ih
theorem J61 {ts:List PySem.Expr} (h: ∀t∈ts,∃x p,t= .Name x p):(assignEach ts env).length=ts.length/\ (assignEach ts env).findIdx? (·.1)=none:=by
 induction ts with
 |nil=>exact⟨rfl,rfl⟩
 |cons t ts ih=>
  refine o20 (h t List.mem_cons_self) λx p q=>o01 (ih λt ht=>h t (List.mem_cons_of_mem _ ht)) λa b=>?_
  rw[q]
  refine⟨congrArg (· +1) a,?_⟩
  show List.findIdx? _ ((false,assign (.Name x p) env)::assignEach ts env)=none
  rw[List.findIdx?_cons,b];rfl
theorem ZF {ts:List PySem.Expr} (h: ∀t∈ts,∃x p,t= .Name x p):(tns ts).length=ts.length:=by
 induction ts with
 |nil=>rfl
 |cons t ts ih=>exact o20 (h t List.mem_cons_self) λx p q=>q▸congrArg (· +1) (ih λt ht=>h t (List.mem_cons_of_mem _ ht))
theorem J33 {zs:List (Str×Slot)} (hn:(zs.map (·.1)).Nodup):Ext (setZ zs ρ) (setZ zs.reverse ρ):=λx u hx=>by
 rw[YG _ _ _ hn]at hx
 rw[YG _ _ _ (by rw[List.map_reverse];exact J1T hn),Ys zs x hn]
 exact hx
theorem Ke {ts es:List PySem.Expr} {k k':Nat} {p p':Pos} {zs:List (Str×Slot)} {vs:List Value} {ow:List (Str×Addr)} {hs:Str ->Bool} {Q:Flow ->Shared ->Prop} (hn: ∀t∈ts,∃x p,t= .Name x p) (hsw:JbY ts es=true) (hh:A.handled=none)
  (hzn:zs.map (·.1)=tns ts) (hhs: ∀x∈tns ts,hs x=true) (C:Cx w mg mb s ms) (F:FrA w s ms mine own sc env ρ) (k1:Kp s s') (ok:OwOk s s' ow) (hown: ∀q∈ow,q.1∈tns ts) (rs:ZRep w s' (ow.map (·.2)++ms) (newOwn ow own) vs zs) (hb: ∀z∈zs,bound sc z.1)
  {T:Addr} (hT:s'.heap.IsTuple T vs.toArray) (hQ:J0h w mg mb s ms mine own sc env hs (setZ zs ρ) .next Q):
  wpAny (model pw w) A (swappedStores [.Tuple ts k p] (.Tuple es k' p') env>>=λsw=>assignStores env (.ref T) sw ((assignEach [.Tuple ts k p] env).map (·.2))) Q E s':=by
 have hnd:(zs.map (·.1)).Nodup:=by
  rw[hzn]
  unfold JbY at hsw
  rw[Bool.and_eq_true]at hsw
  exact of_decide_eq_true hsw.2
 have hlen:=rs.length
 have hl2:zs.length=ts.length:=by rw[<-ZF hn,<-hzn,List.length_map]
 have step: ∀(h':Heap),Heap.ExtBut s'.heap.objs.size s'.heap h' ->Kp s {s' with heap:=h'}/\ OwOk s {s' with heap:=h'} ow/\ ZRep w {s' with heap:=h'} (ow.map (·.2)++ms) (newOwn ow own) vs zs:=λh' hx=>by
  have kx:=Vw hx
  exact⟨k1.tr kx,⟨ok.no,λq hq=>let⟨o,e⟩:=ok.al q hq;⟨o,kx.hp _ _ e⟩,ok.hi,ok.apart⟩,rs.move kx.past λz a o _ e=>kx.hp a o e⟩
 have fin: ∀{zs':List (Str×Slot)},Ext (setZ zs ρ) (setZ zs' ρ) ->(∀x,x∈zs'.map (·.1)↔x∈tns ts) -> ∀s'' ms' mine' own',Mv s ms mine s'' ms' mine' ->Cx w mg mb s'' ms' ->FrA w s'' ms' mine' own' sc env (setZ zs' ρ) ->(∀x,x∉zs'.map (·.1) ->own' x=own x) ->Q .next s'':=λ{zs'} hex hiff s'' ms' mine' own' m C2 F2 ho=>
  hQ _ _ _ _ _ ⟨m,C2,F2.less hex,trivial,λx hx=>ho x λhm=>by rw[hhs x ((hiff x).mp hm)]at hx;cases hx⟩
 rcases J0X (k:=k) (k':=k') (p:=p) (p':=p') (env:=env) hn hsw with e|e<;>rw[e]<;>refine wpAny_bind (wpAny_pure ?_)
 ·show wpAny _ A (do assignAll (.ref T) [assign (.Tuple ts k p) env];pure .next) Q E s'
  refine o01 (J61 (env:=env) hn) λe1 e2=>?_
  refine wpAny_bind (wpAny_assign_Tuple hh hT (by rw[e1,List.size_toArray,hlen,hl2]) e2 λh' hx=>?_)
  refine o02 (step h' hx) λa b c=>?_
  refine J3b (by rw[hzn];exact J9h hn) hnd C F a b (by rw[hzn];exact hown) (by simpa using c) hb λs'' ms' mine' own' m C2 F2 ho=>wpAny_pure (fin (Ext.rfl' _) (λx=>by rw[hzn]) s'' ms' mine' own' m C2 F2 ho)
 ·show wpAny _ A (do rule "assign.swapped-stores";let items<-unpackItems (.ref T) (tns ts).length none;assignInOrder ((tns ts).reverse.map λn=>bindName env n) items.reverse;pure .next) Q E s'
  have hsz:(tns ts).length=vs.toArray.size:=by rw[List.size_toArray,hlen,hl2,ZF hn]
  rw[hsz]
  refine wpAny_bind (wpAny_rule (wpAny_bind (unpackItems_tuple hh hT λh' hx=>?_)))
  refine o02 (step h' hx) λa b c=>?_
  refine wpAny_bind (J3b (zs:=zs.reverse) (show StF env ((tns ts).reverse.map λn=>bindName env n) (zs.reverse.map (·.1)) by rw[show zs.reverse.map (·.1)=(tns ts).reverse by rw[List.map_reverse,hzn]];exact J9g _) (by rw[List.map_reverse];exact J1T hnd) C F a b (by rw[List.map_reverse,hzn];exact λq hq=>List.mem_reverse.mpr (hown q hq)) (by simpa using c.reverse) (λz hz=>hb z (List.mem_reverse.mp hz)) λs'' ms' mine' own' m C2 F2 ho=>wpAny_pure (fin (J33 hnd) (λx=>by rw[List.map_reverse,hzn,List.mem_reverse]) s'' ms' mine' own' m C2 F2 ho))
theorem JdY {ow:List (Str×Addr)} (ok:OwOk s s' ow) (o:Obj):OwOk s {s' with heap:=s'.heap.push o} ow:=⟨ok.no,λq hq=>let⟨x,e⟩:=ok.al q hq;⟨x,Heap.get?_push_of_some _ e⟩,ok.hi,ok.apart⟩
theorem J6W (S:SoundE L n) (N:SoundN L n) {ts es:List PySem.Expr} {k k':Nat} {p p' pos:Pos} {ds:List D} {hs:Str ->Bool} {Q:Flow ->Shared ->Prop} (hsw:JbY ts es=true) (h1:evL L sc ρ es=some ds) (h2:Jk theTop sc ts es ds ρ=some ρ') (hhs: ∀x∈tns ts,hs x=true) (hes:es.length<=1000)
  (hA:AOk n A) (C:Cx w mg mb s ms) (F:FrA w s ms mine own sc env ρ) (hQ:J0h w mg mb s ms mine own sc env hs ρ' .next Q):wpAny (model pw w) A (exec (.Assign [.Tuple ts k p] (.Tuple es k' p') pos) env) Q E s:=by
 have hn: ∀t∈ts,∃x p,t= .Name x p:=λt ht=>let⟨x,p,e,_⟩:=(YM h2).2 t ht;⟨x,p,e⟩
 have hnd:(tns ts).Nodup:=by
  unfold JbY at hsw
  rw[Bool.and_eq_true]at hsw
  exact of_decide_eq_true hsw.2
 rw[PyProof.Rows.exec_Assign]
 refine wpAny_bind (wpAny_standAt ?_)
 rw[show swapsWithSole [.Tuple ts k p] (.Tuple es k' p') pos.line env=pure false from rfl]
 refine wpAny_bind (wpAny_pure ?_)
 rw[if_neg (by decide)]
 refine wpAny_bind (wpAny_Tuple (J4v S N h1 h2 hnd hA C F.f.en λvs s1 ow zs k1 ok1 hn1 rs hz hzn hzb=>⟨?_,?_⟩))
 ·have e1:=rs.length
  have e2:zs.length=ts.length:=by rw[<-ZF hn,<-hzn,List.length_map]
  have e3:=(YM h2).1
  rw[sizeLine_eq];lia
 ·have kp:=Kp.push s1 {cls:= .type "tuple",data:= .seq vs.toArray}
  subst hz
  exact Ke hn hsw hA.handled hzn hhs C F (k1.tr kp) (JdY ok1 _) hn1 (rs.move kp.past λz a o _ e=>kp.hp a o e) hzb ⟨_,Heap.get?_push_size _ rfl,rfl,_,rfl⟩ hQ
end
section
variable {L:Lv} {n:Nat} {w:World} {mg mb:Str ->Option Value} {A:Around} {E:Value ->Shared ->Prop} {s s':Shared} {ms ms' mine:List Addr} {own own':Str ->Option Addr} {sc:Scope} {env:Env} {ρ ρ':Rho} {fl:Fl}
theorem Stepped.shift {hs:Str ->Bool} {s2 s3:Shared} {f:Flow} {ms3 mine3:List Addr} {own3:Str ->Option Addr} (C:Cx w mg mb s ms) (m:Mv s ms mine s2 ms mine) (h:Stepped w mg mb s2 ms mine own sc env hs ρ' fl f s3 ms3 mine3 own3):Stepped w mg mb s ms mine own sc env hs ρ' fl f s3 ms3 mine3 own3:=
 ⟨m.tr h.mv C.live,h.C,h.F,h.fl,h.own⟩
theorem FrA.of_mv {s2:Shared} {ρ1:Rho} (F:FrA w s ms mine own sc env ρ) (m:Mv s ms mine s2 ms mine) (h:FrOk w s2 ms mine own sc env ρ1):FrA w s2 ms mine own sc env ρ1:=⟨h,λx c hc=>let⟨o,e⟩:=F.cells x c hc;m.alive c o e⟩
set_option tactic.hygienic true in
theorem J6F {l:List D} {i:D} {q:D×List D} (h:J91 l i=some q): ∃k j,i= .int k/\ l.length<=1000000/\ seqIndex? k l.length=some j/\ l[j]?=some q.1/\ q.2=l.eraseIdx j:=by
 cases i with
 |int k=>exact bnd h λj h1 h2=>o02 (YV h1) λa b _=>mpd h2 λd h3 q1=>⟨k,j,rfl,a,b,q1▸h3,q1▸rfl⟩
 |_=>exact nn h
theorem J7n {x y:Str} {p1 p2 p3:Pos} {k:Nat} {v1 v2:D} {r:Rho} (h:bindT 9 sc (.Tuple [.Name x p1,.Name y p2] k p3) (.tup [v1,v2]) ρ=some r):Jp sc x=true/\ Jp sc y=true/\ r=setZ [(x,.val v1),(y,.val v2)] ρ:=by
 have e1: ∀n t ds,bindT (n+1) sc (.Tuple t k p3) (.tup ds) ρ=some r ->bindTs n sc t ds ρ=some r:=λn t ds h=>J9 h λ_ h=>h
 have e2: ∀n t ts d ds ρ,bindTs (n+1) sc (t::ts) (d::ds) ρ=some r ->(bindT n sc t d ρ).bind (bindTs n sc ts ds)=some r:=λ_ _ _ _ _ _ h=>h
 have e3: ∀n z p d ρ ρ',bindT (n+1) sc (.Name z p) d ρ=some ρ' ->Jp sc z=true/\ setR z (.val d) ρ=ρ':=λ_ _ _ _ _ _ h=>J9 h λhb h=>⟨hb,Option.some.inj h⟩
 refine bnd (e2 7 _ _ _ _ _ (e1 8 _ _ h)) λρ1 h1 h2=>bnd (e2 6 _ _ _ _ _ h2) λρ2 h3 h4=>o01 (e3 6 _ _ _ _ _ h1) λhx q1=>o01 (e3 5 _ _ _ _ _ h3) λhy q2=>⟨hx,hy,?_⟩
 rw[<-Option.some.inj h4,<-q2,<-q1];rfl
theorem JbI (S:SoundE L n) {x y po:Str} {l i e2:PySem.Expr} {p1 p2 p3 pp apos cpos bp tp pos:Pos} {k1 k2:Nat} {a iv v1 v2:D} {pl:List D} {q:D×List D} {hs:Str ->Bool} {Q:Flow ->Shared ->Prop}
  (hv:Jg sc po=true) (hline:(apos.endLine==cpos.line)=true) (hsw:JbY [.Name x p1,.Name y p2] [.BinOp l .Add (.Call (.Attribute (.Name po pp) (nm "pop") apos) [i] [] cpos) bp,e2]=true) (hx:ρ.lookup po=some (.mls pl))
  (h1:L.ev sc ρ l=some a) (h2:L.ev sc ρ i=some iv) (h3:J91 pl iv=some q) (h4:binD .Add a q.1=some v1) (h5:L.ev sc (setR po (.mls q.2) ρ) e2=some v2) (h6:bindT 9 sc (.Tuple [.Name x p1,.Name y p2] k1 p3) (.tup [v1,v2]) (setR po (.mls q.2) ρ)=some ρ')
  (hhs: ∀z∈[x,y],hs z=true) (hA:AOk n A) (C:Cx w mg mb s ms) (F:FrA w s ms mine own sc env ρ) (hQ:J0h w mg mb s ms mine own sc env hs ρ' .next Q):
  wpAny (model pw w) A (exec (.Assign [.Tuple [.Name x p1,.Name y p2] k1 p3] (.Tuple [.BinOp l .Add (.Call (.Attribute (.Name po pp) (nm "pop") apos) [i] [] cpos) bp,e2] k2 tp) pos) env) Q E s:=by
 refine o02 (J7n h6) λhbx hby q1=>?_
 rw[q1]at hQ
 clear h6 q1
 refine o24 (J6F h3) λkk j q2 hlen hj hjv hq2=>?_;clear h3;subst q2
 rw[PyProof.Rows.exec_Assign]
 refine wpAny_bind (wpAny_standAt ?_)
 rw[show swapsWithSole [.Tuple [.Name x p1,.Name y p2] k1 p3] (.Tuple [.BinOp l .Add (.Call (.Attribute (.Name po pp) (nm "pop") apos) [i] [] cpos) bp,e2] k2 tp) pos.line env=pure false from rfl]
 refine wpAny_bind (wpAny_pure ?_)
 rw[if_neg (by decide)]
 refine wpAny_bind (wpAny_Tuple ?_)
 rw[J3 (λ_ _ h=>PySem.Expr.noConfusion h)]
 refine Calls.spliced_cons (wpAny_BinOp (S.ev h1 hA C F.f.en λva s1 k1' ra=>?_))
 have F1:=F.kp k1'
 have C1:=C.keeps k1'
 refine o23 (Zd F1 hx hv) λad vs ho hat hl r=>?_
 have ham:=F1.f.sub ad (F1.f.ownMine po ad ho).1
 refine wpAny_Call_method (T:="list") (id:="list.pop") rfl (Zx S (Vu h2) (Nat.le_add_left 1 3)) hline PySem.F.plainAttrs_list PySem.F.slot_list_pop PySem.F.type_list_pop (J0u F1.f.en.fit hv hat ⟨hl.isList.typeIs,λb hb=>?_,?_⟩)
 ·cases hb
  refine o10 hl λnn e=>?_;clear hl
  exact⟨_,e,rfl⟩
 ·refine Calls.callWith_builtin (Ji S (Vu h2) cpos).2 (Jt S (Vu h2) hA C1 F1.f.en λus s2 k2' rs=>?_)
  refine o11 (Vd rs) λvi q3 ri=>?_
  rw[q3]
  refine ri.iE λt=>?_
  have hl2:LsAt s2.heap ad vs:=o10 hl λn e=>⟨n,k2'.hp _ _ e⟩
  have r2:=r.kp k2'
  have hle:=r.length
  refine o11 (r2.get hjv) λyv hy ry=>?_
  refine JfF hl2 (by lia) (by rw[hle];exact hj) hy λs3 k3 hl3=>?_
  refine o02 (VR (u:= .mls q.2) (C1.keeps k2') (F1.kp k2') hx nofun hv ho k3 ⟨ad,_,ho,rfl,hl3,by rw[hq2];exact(r2.kw k3 ham).erase⟩ (let⟨nn,e⟩:=hl3;⟨_,e⟩)) λm3 C3 F3=>?_
  refine KH h4 C3 ((ra.kp k2').kw k3 ham) (ry.kw k3 ham) λv1' s4 k4 r4=>?_
  rw[J3 (Je S h5)]
  refine Calls.spliced_cons (S.ev h5 hA (C3.keeps k4) (F3.kp k4).f.en λv2' s5 k5 r5=>Calls.spliced_nil ⟨by rw[sizeLine_eq];simp,?_⟩)
  have kp:=Kp.push s5 {cls:= .type "tuple",data:= .seq [v1',v2'].toArray}
  have k35:Kp s3 {s5 with heap:=s5.heap.push {cls:= .type "tuple",data:= .seq [v1',v2'].toArray}}:=(k4.tr k5).tr kp
  have m13:Mv s ms mine s3 ms mine:=(Mv.kp (k1'.tr k2') ms mine).tr m3 C.live
  refine Ke (zs:=[(x,.val v1),(y,.val v2)]) (ow:=[]) (λt ht=>?_) hsw hA.handled rfl hhs C3 F3 k35 ⟨nofun,nofun,nofun,nofun⟩ nofun (.cons (u:= .val v1) (show Rep _ _ _ _ _ from(r4.kp k5).kp kp) (.cons (u:= .val v2) (show Rep _ _ _ _ _ from r5.kp kp) .nil)) (λz hz=>?_) ⟨_,Heap.get?_push_size _ rfl,rfl,_,rfl⟩ λf s6 ms6 mine6 own6 st=>hQ f s6 ms6 mine6 own6 (st.shift C m13)
  ·rcases List.mem_cons.mp ht with rfl|ht
   ·exact⟨_,_,rfl⟩
   ·rw[List.mem_singleton.mp ht];exact⟨_,_,rfl⟩
  ·rcases List.mem_cons.mp hz with rfl|hz
   ·exact J8 hbx
   ·rw[List.mem_singleton.mp hz];exact J8 hby
theorem J7t (S:SoundE L n) {ts:List PySem.Expr} {f:Str} {as:List PySem.Expr} {fp cp p pos:Pos} {k:Nat} {d:D} {hs:Str ->Bool} {Q:Flow ->Shared ->Prop} (h1:L.ev sc ρ (.Call (.Name f fp) as [] cp)=some d) (h2:bindT 9 sc (.Tuple ts k p) d ρ=some ρ')
  (hA:AOk n A) (C:Cx w mg mb s ms) (F:FrA w s ms mine own sc env ρ) (hQ:J0h w mg mb s ms mine own sc env hs ρ' .next Q):wpAny (model pw w) A (exec (.Assign [.Tuple ts k p] (.Call (.Name f fp) as [] cp) pos) env) Q E s:=by
 refine Assign_Tuple (S.ev h1 hA C F.f.en λv s1 k1 r1=>?_) rfl rfl
 have F1:=F.kp k1
 have C1:=C.keeps k1
 refine Zj 9 h2 hA.handled F1.f C1.live r1 λs2 m2 F2=>hQ _ _ _ _ _ ⟨(Mv.kp k1 ms mine).tr m2 C.live,C1.mvSame m2 F1.f.sub,F1.of_mv m2 F2,trivial,λ_ _=>rfl⟩
theorem J37 (S:SoundE L n) {pos:Pos} {x:Str} {xp:Pos} {a:Addr} (hv:Jg sc x=true) (K0:ScOk sc env) {es:List PySem.Expr}: ∀{ds:List D} {s:Shared} {Q:List Value ->Shared ->Prop},evL L sc ρ es=some ds ->AOk n A ->Cx w mg mb s ms ->EnvOk w s ms own sc env ρ ->At s.heap env x (.ref a) ->
  (∀vs s',Kp s s' ->RepL w s' ms vs ds ->Q (vs++[.ref a]) s') ->wpAny (model pw w) A (spliced (backTo pos (starEach (es++[.Name x xp]) env))) Q E s:=by
 induction es with
 |nil=>
  intro ds s Q h _ _ _ hat hQ
  rw[List.nil_append,J3 (λ_ _ h=>PySem.Expr.noConfusion h)]
  exact Calls.spliced_cons (J0u K0 hv hat (Calls.spliced_nil (hQ [] s (Kp.rfl' s) (Option.some.inj h▸ .nil))))
 |cons e es ih=>
  intro ds s Q h hA C K hat hQ
  refine bnd h λd h1 h2=>bnd h2 λds' h3 h4=>?_
  rw[List.cons_append,J3 (Je S h1)]
  rw[<-Option.some.inj h4]at hQ
  exact Calls.spliced_cons (S.ev h1 hA C K λv s1 k1 r1=>ih h3 hA (C.keeps k1) (K.keeps k1) (hat.keeps k1.hp) λvs s2 k2 r2=>hQ _ s2 (k1.tr k2) (.cons (r1.kp k2) r2))
theorem J49 (S:SoundE L n) {x:Str} {xp:Pos} {es:List PySem.Expr} {ds:List D} (h:evL L sc ρ es=some ds): ∀pos,(backTo pos (starEach (es++[.Name x xp]) env)).any (·.1)=false:=by
 induction es generalizing ds with
 |nil=>exact λ_=>rfl
 |cons e es ih=>
  intro pos
  refine bnd h λd h1 h2=>bnd h2 λds h3 h4=>?_
  rw[List.cons_append,J3 (Je S h1),List.any_cons,ih h3 pos];rfl
theorem J3A {xs:List Str} {ds:List D} {y:Str} {u:Slot} (h:(bindAll xs ds).lookup y=some u): ∃d,u= .val d:=by
 induction xs generalizing ds with
 |nil=>exact nn h
 |cons z zs ih=>cases ds with
  |nil=>exact nn h
  |cons d ds=>
   replace h:((z,Slot.val d)::bindAll zs ds).lookup y=some u:=h
   rw[List.lookup_cons]at h
   cases e:y==z with
   |true=>rw[e]at h;exact⟨d,(Option.some.inj h).symm⟩
   |false=>rw[e]at h;exact ih h
theorem Jcc {xs:List Str} {us r:List Value} {y:Str} {v:Value} (h:(xs.zip us).lookup y=some v):(xs.zip (us++r)).lookup y=some v:=by
 induction xs generalizing us with
 |nil=>exact nn h
 |cons x xs ih=>cases us with
  |nil=>exact nn h
  |cons u us=>
   rw[List.cons_append,List.zip_cons_cons,List.lookup_cons]
   rw[List.zip_cons_cons,List.lookup_cons]at h
   cases e:y==x with
   |true=>rw[e]at h;exact h
   |false=>rw[e]at h;exact ih h
set_option tactic.hygienic true in
theorem J8r (S:SoundE L n) (X:SoundX L n) {ts es:List PySem.Expr} {f x:Str} {xp fp cp p pos:Pos} {k:Nat} {fn:Fn} {l l':List D} {ds:List D} {d:D} {ρ2:Rho} {hs:Str ->Bool} {Q:Flow ->Shared ->Prop}
  (hf:theTop.fns f=some fn) (hg:isGlob sc f=true) (hv:Jg sc x=true) (hx:ρ.lookup x=some (.mls l)) (h1:evL L sc ρ es=some ds) (hl:fn.params.length=ds.length+1) (hpv:Jg fn.scope (fn.params.getLastD x)=true) (hns:hasSts theTop (fn.params.getLastD x) fn.body=false)
  (h2:L.ex fn.scope (bindAll fn.params ds++[(fn.params.getLastD x,.mls l)]) fn.body=some (ρ2,.ret d)) (h3:ρ2.lookup (fn.params.getLastD x)=some (.mls l')) (h4:bindT 9 sc (.Tuple ts k p) d (setR x (.mls l') ρ)=some ρ')
  (hA:AOk (n+1) A) (C:Cx w mg mb s ms) (F:FrA w s ms mine own sc env ρ) (hQ:J0h w mg mb s ms mine own sc env hs ρ' .next Q):wpAny (model pw w) A (exec (.Assign [.Tuple ts k p] (.Call (.Name f fp) (es++[.Name x xp]) [] cp) pos) env) Q E s:=by
 refine Assign_Tuple ?_ rfl rfl
 refine o11 (C.glob.fn f fn hf) λfa e1 q3=>?_;refine o24 q3 λo fd hfo hc hd K' hrec=>?_
 refine o23 (Zd F hx hv) λa vs ho hat hls r=>?_
 have ham:=F.f.sub a (F.f.ownMine x a ho).1
 show wpAny _ A (do callWith cp (<-eval (.Name f fp) env) [] (backTo cp (starEach (es++[.Name x xp]) env)) (backToKw cp (keywordEach [] env))) _ E s
 refine wpAny_bind (YY C F.f.en.fit hg e1 ?_)
 have hne:backTo cp (starEach (es++[.Name x xp]) env)≠[]:=by
  cases es with
  |nil=>exact List.cons_ne_nil _ _
  |cons e es=>
   refine bnd h1 λd h1 _=>?_
   rw[List.cons_append,J3 (Je S h1)]
   exact List.cons_ne_nil _ _
 refine Calls.callWith_function (o:=o) (fd:=fd) (Y5 hne (J49 S h1 cp) (J37 S hv F.f.en.fit h1 hA.pred C F.f.en hat λus s1 k1 rs=>⟨⟨k1.hp _ _ hfo,hd⟩,?_⟩))
 have C1:=C.keeps k1
 have F1:=F.kp k1
 have hul:=rs.length
 have hls1:LsAt s1.heap a vs:=let⟨nn,e⟩:=hls;⟨nn,k1.hp _ _ e⟩
 have hlast:fn.params[ds.length]?=some (fn.params.getLastD x):=by
  have:fn.params≠[]:=λe=>by rw[e]at hl;simp at hl
  rw[List.getLastD_eq_getLast?,List.getLast?_eq_getElem?,hl,Nat.add_sub_cancel]
  have hlt:ds.length<fn.params.length:=by lia
  rw[List.getElem?_eq_getElem hlt];rfl
 have hzl:(us++[Value.ref a]).length=fn.params.length:=by simp[hul,hl]
 refine J7s X h2 hA C1 ⟨o,fd,k1.hp _ _ hfo,hc,hd,K',hrec.keeps k1.hp⟩ hzl (own0:=λy=>if y=fn.params.getLastD x then some a else none) (ols:=[a]) (λz b h=>?_) (λb hb=>by rw[List.mem_singleton.mp hb];exact ham) (λy z b h h'=>?_) (λy u hy=>?_) λv s2 ms2 mine2 own2 env2 k2 hm2 C2 F2 ho2 r2=>?_
 ·split at h
  ·cases h;exact List.mem_singleton.mpr rfl
  ·cases h
 ·split at h
  ·split at h'
   ·rename_i q1 q2;rw[q1,q2]
   ·cases h'
  ·cases h
 ·rw[Ja]at hy
  split at hy
  ·rename_i u' hu'
   cases hy
   refine o11 (Vp (own:=own) rs hu') λv e2 e3=>?_
   refine o10 (J3A hu') λd' q4=>?_;clear hu';subst q4
   exact⟨v,Jcc e2,e3⟩
  ·rename_i hno
   rw[List.lookup_cons]at hy
   cases e:y==fn.params.getLastD x with
   |true=>
    rw[e]at hy
    cases hy
    rw[beq_iff_eq.mp e]
    exact⟨.ref a,ZH K'.nodup hzl hlast (by rw[<-hul,List.getElem?_append_right (Nat.le_refl _)];simp),a,vs,if_pos rfl,rfl,hls1,r.kp k1⟩
   |false=>rw[e]at hy;cases hy
 ·have ho3:own2 (fn.params.getLastD x)=some a:=by rw[ho2 _ hns];exact if_pos rfl
  have ha2:a∈ms2:=F2.f.sub a (F2.f.ownMine _ _ ho3).1
  have hms: ∀b∈ms,b∈ms2:=λb hb=>by
   by_cases q:b=a
   ·rw[q];exact ha2
   ·exact hm2 b hb λm=>q (List.mem_singleton.mp m)
  refine o11 (F2.f.en.var _ _ h3 hpv) λv' _ q5=>?_;refine o23 q5 λa' vs' e4 q6 hl4 r4=>?_;subst q6
  rw[ho3]at e4;clear q5;cases e4
  refine o02 (VR (u:= .mls l') C1 F1 hx nofun hv ho k2 ⟨a,vs',ho,rfl,hl4,r4.weaken hms⟩ (let⟨nn,e⟩:=hl4;⟨_,e⟩)) λm3 C3 F3=>?_
  refine Zj 9 h4 hA.handled F3.f C3.live (r2.weaken hms) λs4 m4 F4=>hQ _ _ _ _ _ ⟨((Mv.kp k1 ms mine).tr m3 C.live).tr m4 C.live,C3.mvSame m4 F3.f.sub,F3.of_mv m4 F4,trivial,λ_ _=>rfl⟩
theorem Ja2 (S:SoundE L n) {x:Str} {e:PySem.Expr} {xp pos:Pos} {a b:Int} {hs:Str ->Bool} {Q:Flow ->Shared ->Prop} (hb:Jp sc x=true) (hv:Jg sc x=true) (h1:Jf5 ρ x=some (.int a)) (h2:L.ev sc ρ e=some (.int b))
  (hA:AOk n A) (C:Cx w mg mb s ms) (F:FrA w s ms mine own sc env ρ) (hQ:J0h w mg mb s ms mine own sc env hs (setR x (.val (.int (a+b))) ρ) .next Q):wpAny (model pw w) A (exec (.AugAssign (.Name x xp) .Add e pos) env) Q E s:=by
 have hx:=J7X h1
 refine wpAny_AugAssign_Name (J1M F.f.en hx hv λvo ro=>(show Rep w s ms vo (.int a)from ro).iE λt=>S.ev h2 hA C F.f.en λvb s1 k1 r1=>r1.iE λt'=>?_)
 have F1:=F.kp k1
 refine PySem.AutoIntOps.iadd_0 (show Made.post _ _ _ from ?_)
 have k2:Kp s1 {s1 with toks:=s1.toks+1}:=Kp.tok1 s1
 exact VW (F1.kp k2).f (J8 hb) (u:= .val (.int (a+b))) (Rep.int _ _) λs3 m3 F3=>hQ _ _ _ _ _ ⟨(Mv.kp (k1.tr k2) ms mine).tr m3 C.live,((C.keeps k1).keeps k2).mvSame m3 F.f.sub,(F1.kp k2).of_mv m3 F3,trivial,λ_ _=>rfl⟩
theorem J88 {x:Str} {v:Value} {u:Slot} {o:D} (ro:SlotRep w s ms own x v u) (hu:JaM u=some o):BRep w s ms v o:=by
 cases u with
 |val d=>exact nn hu
 |mls l=>exact Option.some.inj hu▸o23 ro λa vs _ e hl r=>e▸ .lst hl r
 |mdc l=>exact Option.some.inj hu▸o23 ro λa vs _ e hl r=>e▸ .dct hl r
theorem JaN {x:Str} {v:Value} {u:Slot} {o:D} {a:Addr} (ro:SlotRep w s ms own x v u) (hu:JaM u=some o) (ho:own x=some a):v= .ref a:=by
 cases u with
 |val d=>exact nn hu
 |mls l=>exact o22 ro λa' _ h e _=>e.trans (congrArg Value.ref (Option.some.inj (h.symm.trans ho)))
 |mdc l=>exact o22 ro λa' _ h e _=>e.trans (congrArg Value.ref (Option.some.inj (h.symm.trans ho)))
theorem JcF (S:SoundE L n) {x:Str} {i e:PySem.Expr} {xp tp pos:Pos} {k o:D} {a b:Int} {hs:Str ->Bool} {Q:Flow ->Shared ->Prop} (hv:Jg sc x=true) (hsl:J56 i=true) {u:Slot} (hx:ρ.lookup x=some u) (hu:JaM u=some o) (h1:L.ev sc ρ i=some k)
  (h2:itemD o k=some (.int a)) (h3:L.ev sc ρ e=some (.int b)) (h4:J3a u k (.int (a+b)) (λu=>(setR x u ρ,Fl.next))=some (ρ',fl))
  (hA:AOk n A) (C:Cx w mg mb s ms) (F:FrA w s ms mine own sc env ρ) (hQ:J0h w mg mb s ms mine own sc env hs ρ' fl Q):wpAny (model pw w) A (exec (.AugAssign (.Subscript (.Name x xp) i tp) .Add e pos) env) Q E s:=by
 refine wpAny_AugAssign_SubscriptAny ?_ (λov iv new=>by clear h1;cases i<;>first|rfl|cases hsl)
 refine Vv F.f.en hx hv λvo ro=>o11 (J5n F hx (J0f h4) hv) λad ho hat=>?_
 have rb:=J88 ro hu
 rw[JaN ro hu ho]at rb⊢
 clear ro
 refine S.ev h1 hA C F.f.en λvi s1 k1 r1=>VH h2 (C.keeps k1) (rb.kp k1) r1 λvold s2 k2 r2=>r2.iE λt=>S.ev h3 hA ((C.keeps k1).keeps k2) ((F.kp k1).kp k2).f.en λvb s3 k3 r3=>r3.iE λt'=>?_
 refine PySem.AutoIntOps.iadd_0 (show Made.post _ _ _ from ?_)
 have k4:Kp s3 {s3 with toks:=s3.toks+1}:=Kp.tok1 s3
 exact KY C F (((k1.tr k2).tr k3).tr k4) hv ho (Rep.int _ _) (((r1.kp k2).kp k3).kp k4) hx h4 λs5 st=>hQ _ _ _ _ _ st
end
section
variable {L:Lv} {n:Nat} {w:World} {mg mb:Str ->Option Value} {A:Around} {E:Value ->Shared ->Prop} {s s':Shared} {ms ms' mine:List Addr} {own own':Str ->Option Addr} {sc:Scope} {env:Env} {ρ ρ':Rho} {fl:Fl}
structure Turn (w:World) (mg mb:Str ->Option Value) (s0:Shared) (M0 mine0:List Addr) (own0:Str ->Option Addr) (sc:Scope) (env:Env) (hs:Str ->Bool) (wr:List Addr) (ρ:Rho) (s:Shared) (M mine:List Addr) (own:Str ->Option Addr):Prop where
 mv:Mv s0 M0 mine0 s M mine
 C:Cx w mg mb s M
 F:FrA w s M mine own sc env ρ
 sub: ∀b∈wr,b∈M
 off: ∀b∈wr,b∉mine
 cel: ∀y c,env.cells.lookup y=some c ->c∉wr
 own: ∀x,hs x=false ->own x=own0 x
theorem Turn.fa {s0:Shared} {M0 mine0 M:List Addr} {own0:Str ->Option Addr} {hs:Str ->Bool} {wr:List Addr} (t:Turn w mg mb s0 M0 mine0 own0 sc env hs wr ρ s M mine own): ∀b∈wr,¬Fa own env b:=λb hb h=>by
 rcases h with rfl|⟨y,h⟩|⟨y,h⟩
 ·exact t.off _ hb t.F.f.locMine
 ·exact t.cel y b h hb
 ·exact t.off _ hb (t.F.f.ownMine y b h).1
theorem Mv.kw {s3 s4:Shared} {M mine3 wr:List Addr} (m:Mv s ms mine s3 M mine3) (k:Kw wr s3 s4) (hwr: ∀b∈wr,s.heap.get? b=none):Mv s ms mine s4 M mine3:=by
 have al: ∀{b o},s.heap.get? b=some o ->b∉wr:=λ{b o} e m=>nn ((hwr b m).symm.trans e)
 exact⟨o20 m.same λh3 t3 e3=>o20 k.same λh4 t4 e4=>⟨h4,t4,by rw[e4,e3]⟩,Nat.le_trans m.t k.t,λb o e hn=>k.h b o (al e) (m.keep b o e hn),λb o e=>o10 (m.alive b o e) λo' e'=>⟨o',k.h b o' (al e) e'⟩,m.out,m.nots,m.still⟩
section
variable {s2 s3 s4:Shared} {M mine' wr:List Addr} {hs:Str ->Bool} {ρ1:Rho}
theorem Turn.start (C:Cx w mg mb s ms) (F:FrA w s ms mine own sc env ρ) (k2:Kp s s2) (hw: ∀b∈wr,Above s b/\ ∃o,s2.heap.get? b=some o):Turn w mg mb s ms mine own sc env hs wr ρ s2 (wr++ms) mine own:=by
 have no: ∀{b:Addr} {P:Prop},b∈wr ->(∃o,s.heap.get? b=some o) ->P:=λhb h=>o10 h λo e=>nn ((hw _ hb).1.none.symm.trans e)
 have m:=Mv.kp k2 ms mine
 exact⟨⟨m.same,m.t,m.keep,m.alive,λb o e hn q=>(List.mem_append.mp q).elim (λq=>no q ⟨o,e⟩) hn,m.nots,λb hb _=>List.mem_append.mpr (.inr hb)⟩,(C.keeps k2).grow λb hb=>⟨(hw b hb).1.lo C,(hw b hb).2⟩,
  ⟨(F.f.grow λb hb=>(hw b hb).1.none).kp k2,λy c h=>o10 (F.cells y c h) λo e=>⟨o,k2.hp _ _ e⟩⟩,λb hb=>List.mem_append.mpr (.inl hb),λb hb hm=>no hb (C.live b (F.f.sub b hm)),λy c h hc=>no hc (F.cells y c h),λ_ _=>rfl⟩
theorem Turn.kw (T:Turn w mg mb s ms mine own sc env hs wr ρ s3 M mine' own') (k4:Kw wr s3 s4) (hwr: ∀b∈wr,s.heap.get? b=none) (l4: ∀b∈wr,∃o,s4.heap.get? b=some o):Turn w mg mb s ms mine own sc env hs wr ρ s4 M mine' own':=by
 have kl4:Kl [] wr s3 s4:=k4.toKl' l4 λb hb=>hb
 exact⟨T.mv.kw k4 hwr,kl4.cx T.C T.sub,⟨T.F.f.kw k4 T.sub T.fa,λy c h=>o10 (T.F.cells y c h) λo e=>kl4.al c o (by simp) e⟩,T.sub,T.off,T.cel,T.own⟩
theorem Turn.mv' (T:Turn w mg mb s ms mine own sc env hs wr ρ s3 M mine' own') (C:Cx w mg mb s ms) (m:Mv s3 M mine' s4 M mine') (F:FrOk w s4 M mine' own' sc env ρ1):Turn w mg mb s ms mine own sc env hs wr ρ1 s4 M mine' own':=
 ⟨T.mv.tr m C.live,T.C.mvSame m T.F.f.sub,⟨F,λy c h=>o10 (T.F.cells y c h) (m.alive c)⟩,T.sub,T.off,T.cel,T.own⟩
theorem Turn.body {fl1:Fl} {f:Flow} {hs':Str ->Bool} {M6 mine6:List Addr} {own6:Str ->Option Addr} (T:Turn w mg mb s ms mine own sc env hs wr ρ s3 M mine' own') (C:Cx w mg mb s ms) (st:Stepped w mg mb s3 M mine' own' sc env hs' ρ1 fl1 f s4 M6 mine6 own6) (l5: ∀b∈wr,∃o,s3.heap.get? b=some o)
  (hhs: ∀x,hs x=false ->hs' x=false):Turn w mg mb s ms mine own sc env hs wr ρ1 s4 M6 mine6 own6:=
 ⟨T.mv.tr st.mv C.live,st.C,st.F,λb hb=>st.mv.still b (T.sub b hb) (T.off b hb),λb hb=>o10 (l5 b hb) λo e=>st.mv.nots b o e (T.off b hb),T.cel,λx hx=>(st.own x (hhs x hx)).trans (T.own x hx)⟩
end
noncomputable def LoopInv (w:World) (mg mb:Str ->Option Value) (s:Shared) (ms mine:List Addr) (own:Str ->Option Addr) (sc:Scope) (env:Env) (hs:Str ->Bool) (wr:List Addr) (StM:List Addr ->Nat ->Shared ->Prop) (f:D ->Rho ->Option (Rho×Fl)) (items:List D) (r:Rho×Fl) (k:Nat) (s':Shared):Prop:=
 ∃i M mine' own' ρi,i<=items.length/\ k=items.length-i/\ StM M i s'/\ Turn w mg mb s ms mine own sc env hs wr ρi s' M mine' own'/\ loopX f (items.drop i) ρi=some r
theorem J7U {s4 s5:Shared} {M mine4:List Addr} {own4:Str ->Option Addr} {hs:Str ->Bool} {wr:List Addr} {f:Flow} (C:Cx w mg mb s ms) (F:FrA w s ms mine own sc env ρ) (hwr: ∀b∈wr,s.heap.get? b=none)
  (t:Turn w mg mb s ms mine own sc env hs wr ρ' s4 M mine4 own4) (k5:Kw wr s4 s5) (hf:JeE w s4 M f fl): ∃ms5,Stepped w mg mb s ms mine own sc env hs ρ' fl f s5 ms5 mine4 own4:=by
 have al: ∀{b o},s.heap.get? b=some o ->b∉wr:=λ{b o} e m=>by rw[hwr b m]at e;cases e
 have hin: ∀{b},b∈M.filter (λb=>decide (b∉wr)) ->b∈M/\ b∉wr:=λh=>⟨(List.mem_filter.mp h).1,of_decide_eq_true (List.mem_filter.mp h).2⟩
 have mk: ∀{b},b∈M ->b∉wr ->b∈M.filter (λb=>decide (b∉wr)):=λh h'=>List.mem_filter.mpr ⟨h,decide_eq_true h'⟩
 have p5:Past s4 M s5 (M.filter λb=>decide (b∉wr)):=⟨k5.t,λb o e hn=>⟨k5.h b o (λm=>hn (t.sub b m)) e,λm=>hn (hin m).1⟩⟩
 have m5:=t.mv.kw k5 hwr
 have mv:Mv s ms mine s5 (M.filter λb=>decide (b∉wr)) mine4:=⟨m5.same,m5.t,m5.keep,m5.alive,λb o e hn m=>m5.out b o e hn (hin m).1,m5.nots,λb hb hn=>by
  obtain⟨o,e⟩:=C.live b hb
  exact mk (m5.still b hb hn) (al e)⟩
 refine⟨_,mv,C.mv mv F.f.sub (λb hb=> .inr (t.C.hi b (hin hb).1)) (λb hb=>?_),⟨t.F.f.move p5 (λb hb=>mk (t.F.f.sub b hb) λm=>t.off b m hb) λb hb o e=>k5.h b o (λm=>t.fa b m hb) e,λy c h=>?_⟩,?_,t.own⟩
 ·obtain⟨o,e⟩:=t.C.live b (hin hb).1
  exact⟨o,k5.h b o (hin hb).2 e⟩
 ·refine o10 (t.F.cells y c h) λo e=>?_
  exact⟨o,k5.h c o (t.cel y c h) e⟩
 ·cases f<;>cases fl<;>first|exact hf|exact Rep.past p5 hf
theorem JaC (S:SoundE L n) (X:SoundX L n) {t it:PySem.Expr} {body:List Stmt} {pos:Pos} {items:List D} {hs:Str ->Bool} {Q:Flow ->Shared ->Prop} (hok:okT (isPairs sc it) t=true) (hits:itE L sc ρ it=some items)
  (hl:loopX (λd ρ=>(bindT 9 sc t d ρ).bind λρ'=>L.ex sc ρ' body) items ρ=some (ρ',fl)) (hns:Zb it=true) (hhs: ∀x,hs x=false ->hasSts theTop x body=false) (hA:AOk n A) (C:Cx w mg mb s ms) (F:FrA w s ms mine own sc env ρ)
  (hQ:J0h w mg mb s ms mine own sc env hs ρ' fl Q):wpAny (model pw w) A (exec (.For t it body [] pos) env) Q E s:=by
 refine wpAny_For (YW S hits hA C F.f.en λitv s2 hb=>?_) (YQ hns env)
 refine o34 hb λI wr StM q1 k2 hw WM st0=>?_
 rw[q1]
 clear hb q1 hits hns
 have hwr: ∀b∈wr,s.heap.get? b=none:=λb hb=>(hw b hb).1.none
 have T0:Turn w mg mb s ms mine own sc env hs wr ρ s2 (wr++ms) mine own:= .start C F k2 hw
 clear k2 hw
 generalize hf:(λd ρ=>(bindT 9 sc t d ρ).bind λρ'=>L.ex sc ρ' body)=lf at hl
 refine codeAny_forLoop_any (LoopInv w mg mb s ms mine own sc env hs wr StM lf items (ρ',fl)) ?_ items.length ⟨0,wr++ms,mine,own,ρ,Nat.zero_le _,rfl,st0,T0,by rw[List.drop_zero];exact hl⟩
 clear T0 st0 hl
 intro k s3 hI
 refine o50 hI λi M mine' own' ρi hJ=>o04 hJ λhi hk st T hli=>?_
 rw[hk]
 clear hJ hI hk k
 have W:=WM.at' M i s3 st
 cases hd:items.drop i with
 |nil=>
  have hin:i=items.length:=Nat.le_antisymm hi (List.drop_eq_nil_iff.mp hd)
  rw[hd]at hli
  rw[hin]at st
  exact W.done s3 _ _ st λs5 k5=>wpAny_execs_nil (o10 (J7U (f:= .next) (fl:= .next) C F hwr T k5 trivial) λms5 stp=>hQ _ _ _ _ _ (.of hli stp))
 |cons d rem=>
  refine o02 (J1j hd) λhd1 hd2 hd3=>?_
  rw[hd,<-hd2]at hli
  refine bnd hli λp h1 h2=>?_
  rw[<-hf]at h1
  refine bnd h1 λρ1 h3 h4=>?_
  clear h1 hli hd hd2 hi
  let E1:Value ->Shared ->Prop:=notedBy (model pw w) A env λe s'=>cameBackBy (model pw w) A env E e s'
  let Qb:Flow ->Shared ->Prop:=λf s₃=>match f with
      | .next| .cont=> ∃m,m<items.length-i/\ LoopInv w mg mb s ms mine own sc env hs wr StM lf items (ρ',fl) m s₃
      | .brk=>Q .next s₃
      | .ret v=>Q (.ret v) s₃
  have hstep:wpAny (model pw w) A (pyNext (.ref I)) (λr s₁=> ∃v,r=some v/\ wpAny (model pw w) A (letOwnedTupleGo t (.ref I) v) (λ_ s₂=>wpAny (model pw w) A (assign t env v) (λ_ s₃=>wpAny (model pw w) A (execs body env) Qb E1 s₃) E1 s₂) E1 s₁) E1 s3:=by
   refine W.step i s3 d t _ _ _ hd1 st T.C.tk hok λv s4 k4 st4 it4=>?_
   have T4:=T.kw k4 hwr (W.live _ _ st4)
   refine Vn h3 hA.handled T4.F.f T4.C.live it4 hok λs5 m5 F5=>?_
   have st5:StM M (i+1) s5:=W.frame _ _ _ st4 m5.t λb o hb e=>m5.keep b o e λhm=>hb.elim (λhb=>T.off b hb hm) λhb=>hb (T4.F.f.sub b hm)
   have T5:=T4.mv' C m5 F5
   refine X.ex h4 hA T5.C T5.F λf s6 M6 mine6 own6 stp=>?_
   have T6:=T5.body C stp ((WM.at' M _ s5 st5).live _ _ st5) hhs
   have st6:StM M6 (i+1) s6:=WM.mv M M6 (i+1) s5 s6 st5 ⟨stp.mv.t,T6.sub,λb hb o e=>stp.mv.keep b o e (T.off b hb),λb o e hn=>⟨stp.mv.keep b o e λhm=>hn (F5.sub b hm),stp.mv.out b o e hn⟩⟩
   have cont:loopX lf (items.drop (i+1)) p.1=some (ρ',fl) -> ∃m,m<items.length-i/\ LoopInv w mg mb s ms mine own sc env hs wr StM lf items (ρ',fl) m s6:=λh=>⟨items.length-(i+1),by omega,i+1,M6,mine6,own6,p.1,hd3,rfl,st6,T6,h⟩
   have hfr:=stp.fl
   have T7:=λ{f fl}=>J7U (f:=f) (fl:=fl) C F hwr T6 (Kw.rfl' wr s6)
   clear stp T5 T4 T st6 st5 st4 it4 m5 F5 T6 k4 W h3 h4 hd1 hd3 st hf
   obtain⟨ρ2,fl1⟩:=p
   cases f with
   |next=>cases fl1 with
    |next=>exact cont h2
    |_=>exact hfr.elim
   |cont=>cases fl1 with
    |cont=>exact cont h2
    |_=>exact hfr.elim
   |brk=>cases fl1<;>exact hfr.elim
   |ret v=>cases fl1 with
    |ret d'=>exact o10 (T7 hfr) λms5 stp'=>hQ _ _ _ _ _ (.of h2 stp')
    |_=>exact hfr.elim
  exact wpAny_mono hstep (λr s1 hr=>o11 hr λv e hr=>by rw[e];exact hr) λ_ _ x=>x
theorem Jdn (S:SoundE L n) (X:SoundX L n) {t:PySem.Expr} {b o:List Stmt} {pos:Pos} {c:Bool} {hs:Str ->Bool} {Q:Flow ->Shared ->Prop} (h1:trE L sc ρ t=some c) (h2:(if c then L.ex sc ρ b else L.ex sc ρ o)=some (ρ',fl)) (hhs: ∀x,hs x=false ->hasSts theTop x b=false/\ hasSts theTop x o=false)
  (hA:AOk n A) (C:Cx w mg mb s ms) (F:FrA w s ms mine own sc env ρ) (hQ:J0h w mg mb s ms mine own sc env hs ρ' fl Q):wpAny (model pw w) A (exec (.If t b o pos) env) Q E s:=by
 refine wpAny_If (Kd S h1 hA C F.f.en λs1 k1=>?_)
 cases c with
 |true=>exact X.ex h2 hA (C.keeps k1) (F.kp k1) λf s' ms' mine' own' st=>hQ _ _ _ _ _ ⟨(Mv.kp k1 ms mine).tr st.mv C.live,st.C,st.F,st.fl,λx hx=>st.own x (hhs x hx).1⟩
 |false=>exact X.ex h2 hA (C.keeps k1) (F.kp k1) λf s' ms' mine' own' st=>hQ _ _ _ _ _ ⟨(Mv.kp k1 ms mine).tr st.mv C.live,st.C,st.F,st.fl,λx hx=>st.own x (hhs x hx).2⟩
theorem JbL (S:SoundE L n) {e:PySem.Expr} {pos:Pos} {d:D} {hs:Str ->Bool} {Q:Flow ->Shared ->Prop} (h1:L.ev sc ρ e=some d) (hA:AOk n A) (C:Cx w mg mb s ms) (F:FrA w s ms mine own sc env ρ) (hQ:J0h w mg mb s ms mine own sc env hs ρ (.ret d) Q):
  wpAny (model pw w) A (exec (.Return (some e) pos) env) Q E s:=
 wpAny_Return_some (S.ev h1 hA C F.f.en λv s1 k1 r1=>hQ _ _ _ _ _ ⟨Mv.kp k1 ms mine,C.keeps k1,F.kp k1,r1,λ_ _=>rfl⟩)
theorem J7E {pos:Pos} {hs:Str ->Bool} {Q:Flow ->Shared ->Prop} (C:Cx w mg mb s ms) (F:FrA w s ms mine own sc env ρ) (hQ:J0h w mg mb s ms mine own sc env hs ρ .cont Q):wpAny (model pw w) A (exec (.Continue pos) env) Q E s:=
 wpAny_Continue (hQ _ _ _ _ _ ⟨Mv.rfl' s ms mine,C,F,trivial,λ_ _=>rfl⟩)
end
theorem J87 {T:Top} {x:Str} {st:Stmt} (h:J86 T x st=false):(T.frz (ZV st)).contains x=false:=by
 cases st with
 |Assign ts v p=>exact(Bool.or_eq_false_iff.mp (show((T.frz (ZV (.Assign ts v p))).contains x||(tns ts).contains x)=false from h)).1
 |For t i b o p=>exact(Bool.or_eq_false_iff.mp (show((T.frz (ZV (.For t i b o p))).contains x||hasSts T x b)=false from h)).1
 |If t b o p=>exact(Bool.or_eq_false_iff.mp (Bool.or_eq_false_iff.mp (show((T.frz 0).contains x||hasSts T x b||hasSts T x o)=false from h)).1).1
 |Return e p=>exact h
 |AugAssign=>exact h
 |Expr=>exact h
 |Continue=>exact h
 |_=>exact(nomatch (show true=false from h))
theorem J0D {α:Type} {as:List α} {x:α} (h:as.getLast?=some x):as=as.dropLast++[x]:=by
 obtain⟨ys,rfl⟩:=List.getLast?_eq_some_iff.mp h
 simp
section
variable {L:Lv} {n:Nat} {w:World} {mg mb:Str ->Option Value} {A:Around} {E:Value ->Shared ->Prop} {s s':Shared} {ms ms' mine:List Addr} {own own':Str ->Option Addr} {sc:Scope} {env:Env} {ρ ρ':Rho} {fl:Fl}
theorem Jei {x:Str} {ts:List PySem.Expr} (h:x∈tns ts):(tns ts).contains x=true:=List.contains_iff_mem.mpr h
theorem J6T (S:SoundE L n) (X:SoundX L n) {ts as:List PySem.Expr} {f:Str} {fp cp p pos:Pos} {k:Nat} {hs:Str ->Bool} {Q:Flow ->Shared ->Prop}
  (h:JgA theTop L sc ρ (.tcall ts k p f fp as cp pos)=some (ρ',fl))
  (hA:AOk (n+1) A) (C:Cx w mg mb s ms) (F:FrA w s ms mine own sc env ρ) (hQ:J0h w mg mb s ms mine own sc env hs ρ' fl Q):wpAny (model pw w) A (exec (.Assign [.Tuple ts k p] (.Call (.Name f fp) as [] cp) pos) env) Q E s:=by
 replace h:(match J8q theTop sc ρ f as with
   |some q=>(evL L sc ρ as.dropLast).bind λds=>if q.2.1.params.length==ds.length+1&&isGlob sc f&&Jg q.2.1.scope (q.2.1.params.getLastD q.1)&&!hasSts theTop (q.2.1.params.getLastD q.1) q.2.1.body then
     (L.ex q.2.1.scope (bindAll q.2.1.params ds++[(q.2.1.params.getLastD q.1,.mls q.2.2)]) q.2.1.body).bind λr=>(J6J r.2).bind λd=>(J1P (r.1.lookup (q.2.1.params.getLastD q.1))).bind λl'=>(bindT 9 sc (.Tuple ts k p) d (setR q.1 (.mls l') ρ)).map λr=>(r,Fl.next)else none
   |none=>(L.ev sc ρ (.Call (.Name f fp) as [] cp)).bind λd=>(bindT 9 sc (.Tuple ts k p) d ρ).map λr=>(r,Fl.next))=some (ρ',fl):=h
 have fin: ∀{r:Rho},(r,Fl.next)=(ρ',fl) ->J0h w mg mb s ms mine own sc env hs r .next Q:=λe=>(Prod.mk.inj e).1▸(Prod.mk.inj e).2▸hQ
 clear hQ
 cases hq:J8q theTop sc ρ f as with
 |none=>
  rw[hq]at h
  exact bnd h λd h1 h2=>mpd h2 λr h3 h4=>J7t S h1 h3 hA.pred C F (fin h4)
 |some q=>
  rw[hq]at h
  refine bnd hq λx g1 g2=>bnd g2 λfn hf g3=>J9 g3 λhv g4=>mpd g4 λl g5 e=>bnd g1 λex g6 g7=>o10 (J1R g7) λxp e2=>?_
  rw[<-e]at h
  rw[e2]at g6
  clear g1 g2 g3 g4 g7 hq e e2
  refine bnd h λds h1 h2=>J9 h2 λhc h2=>bnd h2 λr hex h2=>bnd h2 λd hr h2=>bnd h2 λl' hl' h2=>mpd h2 λr' h3 h4=>?_
  simp only[Bool.and_eq_true,Bool.not_eq_true']at hc
  clear h
  rw[J0D g6]
  exact J8r S X hf hc.1.1.2 hv (Vj g5) h1 (eq_of_beq hc.1.1.1) hc.1.2 hc.2 (show L.ex _ _ _=some (r.1,.ret d) by rw[<-J5r hr];exact hex) (Vj hl') h3 hA C F (fin h4)
theorem J7c {op:Operator} {a b:D} {z:Int} {G:Prop} (h:addI op a b=some z) (k: ∀p q,op= .Add ->a= .int p ->b= .int q ->p+q=z ->G):G:=by
 cases op with
 |Add=>exact bnd h λp h1 h2=>mpd h2 λq h3 e=>k p q rfl (Yk h1) (Yk h3) e
 |_=>exact nn h
theorem J63 (S:SoundE L n) (N:SoundN L n) (X:SoundX L n) {st:Stmt} {hs:Str ->Bool} {Q:Flow ->Shared ->Prop} (h:JeZ theTop L sc ρ st=some (ρ',fl)) (hhs: ∀x,hs x=J86 theTop x st)
  (hA:AOk (n+1) A) (C:Cx w mg mb s ms) (F:FrA w s ms mine own sc env ρ) (hQ:J0h w mg mb s ms mine own sc env hs ρ' fl Q):wpAny (model pw w) A (exec st env) Q E s:=by
 have hA':=hA.pred
 have fin: ∀{r:Rho} {f:Fl},(r,f)=(ρ',fl) ->J0h w mg mb s ms mine own sc env hs r f Q:=λe=>(Prod.mk.inj e).1▸(Prod.mk.inj e).2▸hQ
 clear hQ
 replace h:JgA theTop L sc ρ (shS st)=some (ρ',fl):=h
 generalize shS st=z at h
 induction z with
 |app=>exact J3w S h hA' C F (fin rfl)
 |asg x p e q=>
  refine bnd h λd h1 h2=>bnd h2 λu h3 h4=>J9 h4 λhb h4=>J3y S N h1 h3 hb ?_ hA' C F (fin (Option.some.inj h4))
  rw[hhs]
  show((theTop.frz _).contains _||List.contains [_] _)=true
  rw[List.contains_iff_mem.mpr List.mem_cons_self,Bool.or_true]
 |pop=>
  refine J9 h λhc hh=>bnd hh λpl hx h=>bnd h λa h1 h2=>bnd h2 λiv h3 h4=>bnd h4 λq h5 h6=>bnd h6 λv1 h7 h8=>bnd h8 λv2 h9 h10=>mpd h10 λr h11 h12=>?_
  simp only[Bool.and_eq_true]at hc
  clear hh h h2 h4 h6 h8 h10
  refine o01 hc λhc hsw=>?_
  have hn:=eq_of_beq hc.1.1
  subst hn
  refine JbI S hc.1.2 hc.2 hsw (Vj hx) h1 h3 h5 h7 h9 h11 (λz hz=>?_) hA' C F (fin h12)
  rw[hhs]
  show((theTop.frz _).contains _||List.contains (tns _) _)=true
  rw[show tns [PySem.Expr.Tuple [.Name _ _,.Name _ _] _ _]=[_,_]from rfl,List.contains_iff_mem.mpr hz,Bool.or_true]
 |tup=>
  refine J9 h λhc h=>bnd h λds h1 h2=>mpd h2 λr h3 h4=>?_
  simp only[Bool.and_eq_true,decide_eq_true_eq]at hc
  refine J6W S N hc.1 h1 h3 (λx hx=>?_) hc.2 hA' C F (fin h4)
  rw[hhs]
  show((theTop.frz _).contains _||List.contains (tns _) _)=true
  rw[show tns [PySem.Expr.Tuple _ _ _]=tns _++[]from rfl,List.append_nil,Jei hx,Bool.or_true]
 |tcall=>exact J6T S X h hA C F (fin rfl)
 |sub=>exact JbV S h hA' C F (fin rfl)
 |augN x xp op e q=>
  refine J9 h λhc h=>bnd h λa h1 h2=>bnd h2 λb h3 h4=>mpd h4 λz h5 h6=>J7c h5 λp q q2 q3 q4 q5=>o01 (Bool.and_eq_true_iff.mp hc) λc1 c2=>?_
  rw[q2]
  exact Ja2 (hs:=hs) S c1 c2 (q3▸h1) (q4▸h3) hA' C F (q5▸fin h6)
 |augS x xp i tp op e q=>
  refine J9 h λhc h=>bnd h λk h1 h2=>bnd h2 λu hx h2=>bnd h2 λo hu h2=>bnd h2 λa h3 h2=>bnd h2 λb h4 h2=>bnd h2 λz h5 h6=>J7c h5 λp q q2 q3 q4 q5=>o01 (Bool.and_eq_true_iff.mp hc) λc1 c2=>?_
  rw[q2]
  exact JcF S c1 c2 hx hu h1 (q3▸h3) (q4▸h4) (q5▸h6) hA' C F (fin rfl)
 |«for» t it body pos=>
  refine J6g h λhok h=>bnd h λitems h1 h2=>JaC S X (by simpa using hok) h1 h2 ?_ (λx hx=>?_) hA' C F (fin rfl)
  ·cases it<;>first|rfl|exact nn h1
  ·rw[hhs]at hx
   exact(Bool.or_eq_false_iff.mp (show((theTop.frz _).contains x||hasSts theTop x body)=false from hx)).2
 |«if»=>
  refine bnd h λc h1 h2=>Jdn S X h1 h2 (λx hx=>?_) hA' C F (fin rfl)
  rw[hhs]at hx
  have h3:=Bool.or_eq_false_iff.mp (show((theTop.frz 0).contains x||hasSts theTop x _||hasSts theTop x _)=false from hx)
  exact⟨(Bool.or_eq_false_iff.mp h3.1).2,h3.2⟩
 |ret=>exact mpd h λd h1 h2=>JbL S h1 hA' C F (fin h2)
 |cont=>exact J7E C F (fin (Option.some.inj h))
 |other=>exact nn h
theorem J64 (S:SoundE L n) (N:SoundN L n) (X:SoundX L n) {b:List Stmt}: ∀{ρ:Rho} {s:Shared} {ms mine:List Addr} {own:Str ->Option Addr} {Q:Flow ->Shared ->Prop},exSs theTop L sc b ρ=some (ρ',fl) ->AOk (n+1) A ->Cx w mg mb s ms ->FrA w s ms mine own sc env ρ ->
  J0h w mg mb s ms mine own sc env (λx=>hasSts theTop x b) ρ' fl Q ->wpAny (model pw w) A (execs b env) Q E s:=by
 induction b with
 |nil=>exact λ{ρ s ms mine own Q} h hA C F hQ=>wpAny_execs_nil (hQ _ _ _ _ _ (.of h ⟨Mv.rfl' s ms mine,C,F,trivial,λ_ _=>rfl⟩))
 |cons st r ih=>
  intro ρ s ms mine own Q h hA C F hQ
  refine bnd h λq1 h1 h2=>o33 (Jde (theTop.frz (ZV st)) C F) λms1 mine1 own1 m1 C1 F1 ho1=>?_
  obtain⟨ρ1,fl1⟩:=q1
  refine wpAny_execs_cons (J63 S N X (hs:=λx=>J86 theTop x st) h1 (λ_=>rfl) hA C1 F1 λf s2 ms2 mine2 own2 st2=>?_)
  have m2:Mv s ms mine s2 ms2 mine2:=m1.tr st2.mv C.live
  have o2: ∀x,hasSts theTop x (st::r)=false ->own2 x=own x/\ hasSts theTop x r=false:=λx hx=>
   o01 (Bool.or_eq_false_iff.mp (show(J86 theTop x st||hasSts theTop x r)=false from hx)) λa b=>⟨(st2.own x a).trans (ho1 x (J87 a)),b⟩
  have out:some (ρ1,fl1)=some (ρ',fl) ->Q f s2:=λe=>hQ _ _ _ _ _ (.of e ⟨m2,st2.C,st2.F,st2.fl,λx hx=>(o2 x hx).1⟩)
  have hfr:=st2.fl
  have more:=λh2=>ih (ρ:=ρ1) (Q:=Q) h2 hA st2.C st2.F λf s3 ms3 mine3 own3 st3=>hQ _ _ _ _ _ ⟨m2.tr st3.mv C.live,st3.C,st3.F,st3.fl,λx hx=>(st3.own x (o2 x hx).2).trans (o2 x hx).1⟩
  clear h h1 st2 m1 C1 F1 ho1 m2 o2 ih hQ
  cases f with
  |next=>cases fl1 with
   |next=>exact more h2
   |_=>exact hfr.elim
  |cont=>cases fl1 with
   |cont=>exact out h2
   |_=>exact hfr.elim
  |brk=>cases fl1<;>exact hfr.elim
  |ret v=>cases fl1 with
   |ret d=>exact out h2
   |_=>exact hfr.elim
end
theorem Jfm (n:Nat) (S:SoundE (level theTop n) n) (N:SoundN (level theTop n) n) (X:SoundX (level theTop n) n):SoundX (level theTop (n+1)) (n+1) where
 ex:=λ{sc ρ ρ' b fl} h {w mg mb A E s ms mine own env Q} hA C F hQ=>J64 S N X h hA C F hQ
theorem J36: ∀n:Nat,SoundE (level theTop n) n/\ SoundN (level theTop n) n/\ SoundX (level theTop n) n
 |0=>⟨JdC,JdD,JdE⟩
 |n+1=>by
  refine o02 (J36 n) λS N X=>?_
  exact⟨Jfk n S X,Jfl n S N,Jfm n S N X⟩
theorem J98 {n:Nat} {w:World} {mg mb:Str ->Option Value} {A:Around} {E:Value ->Shared ->Prop} {s:Shared} {ms:List Addr} {f:Fn} {a:Addr} {vs:List Value} {ds:List D} {d:D} (h:callF (level theTop n) f ds=some d) (hA:AOk (n+1) A) (C:Cx w mg mb s ms) (hf:Zh s.heap a f) (rs:RepL w s ms vs ds) {Q:Value ->Shared ->Prop}
  (hQ: ∀v s',Kp s s' ->Rep w s' ms v d ->Q v s'):wpAny (model pw w) A (call (.ref a) vs) Q E s:=
 YB (J36 n).2.2 h hA C hf rs hQ
end
section
open PySem.W PySem.Calls
noncomputable abbrev pwX:Program:=PySem.Challenge.pw_xh0043_01
noncomputable def J1 {α:Type} (w:World) (n:Nat) (s:Shared) (p:Pos) (x:Sem α) (s':Shared) (p':Pos) (a:α):Prop:=
 ∀(K:α ->Sem Fin) (H:Value ->Sem Fin) (gd:Bool ->Bool) (lv:List Value ->List Value) (code:Code) (f:Frame) (fs:List Frame) (N:Nat) (r:Shared),
  topRun treeTable pwX w 11 (some (.ref 6)) N s' ⟨K a,code,p',f::fs⟩=some r ->
  topRun treeTable pwX w 11 (some (.ref 6)) (N+n) s ⟨x.wrap K H gd lv,code,p,f::fs⟩=some r
section
variable {α β:Type} {w:World} {n m:Nat} {s s₁ s':Shared} {p p₁ p':Pos}
theorem J1.pure (a:α):J1 w 0 s p (.pure a:Sem α) s p a:=λ_ _ _ _ _ _ _ _ _ h=>h
theorem J1.le {x:Sem α} {a:α} (h:J1 w n s p x s' p' a) (l:n<=m):J1 w m s p x s' p' a:=λK H gd lv code f fs N r k=>by
 rw[show N+m=N+n+(m-n) by lia]
 exact topRun_mono _ _ _ _ _ (h K H gd lv code f fs N r k)
theorem J1.bind {x:Sem α} {g:α ->Sem β} {a:α} {b:β} (h:J1 w n s p x s₁ p₁ a) (k:J1 w m s₁ p₁ (g a) s' p' b):J1 w (m+n) s p (x.bind g) s' p' b:=λK H gd lv code f fs N r q=>by
 rw[Sem.bind_eq_wrap,Sem.wrap_wrap,<-Nat.add_assoc]
 exact h _ _ _ _ code f fs _ r (k K H gd lv code f fs N r q)
theorem J1.bind' {x:Sem α} {g:α ->Sem β} {a:α} {b:β} (h:J1 w n s p x s₁ p₁ a) (k:J1 w m s₁ p₁ (g a) s' p' b):J1 w (m+n) s p (x>>=g) s' p' b:=J1.bind h k
theorem J1.keep {x:Sem α} {a:α} (vs:List Value) (h:J1 w n s p x s' p' a):J1 w n s p (x.keep vs) s' p' a:=λK H gd lv code f fs N r q=>by
 rw[Sem.keep_eq_wrap,Sem.wrap_wrap]
 exact h _ _ _ _ code f fs N r q
theorem J1.onRaise {x:Sem α} {a:α} (g:Value ->Sem Unit) (h:J1 w n s p x s' p' a):J1 w n s p (x.onRaise g) s' p' a:=λK H gd lv code f fs N r q=>by
 rw[Sem.onRaise_eq_wrap,Sem.wrap_wrap]
 exact h _ _ _ _ code f fs N r q
theorem J1.holding {x:Sem α} {a:α} (vs:List Value) (h:J1 w n s p x s' p' a):J1 w n s p (PySem.holding vs x) s' p' a:=by
 unfold PySem.holding
 generalize List.filter _ vs=l
 cases l with
 |nil=>exact h
 |cons=>exact h.keep _
theorem J1D (t:String):J1 w 1 s p (rule t) s p ():=λ_ _ _ _ _ _ _ _ _ h=>by
 obtain⟨hp,gs,d,tk,o⟩:=s;exact h
theorem J3Z (q:Pos):J1 w 1 s p (standAt q) s q ():=λ_ _ _ _ _ _ _ _ _ h=>by
 obtain⟨hp,gs,d,tk,o⟩:=s;exact h
theorem KU:J1 w 1 s p fresh {s with toks:=s.toks+1} p s.toks:=λ_ _ _ _ _ _ _ _ _ h=>by
 obtain⟨hp,gs,d,tk,o⟩:=s;exact h
theorem KT (o:Obj):J1 w 1 s p (alloc o) {s with heap:=s.heap.push o} p s.heap.objs.size:=λ_ _ _ _ _ _ _ _ _ h=>by
 obtain⟨hp,gs,d,tk,os⟩:=s;exact h
theorem Jl {b:Addr} {o:Obj} (q:Option Value) (e:s.heap.get? b=some o):J1 w 1 s p (loadPart b q) s p o:=λK H gd lv code f fs N r h=>by
 obtain⟨hp,gs,d,tk,os⟩:=s
 show(match step (denote treeTable) pwX w ⟨hp,gs,d,tk,os⟩ ⟨.load b q λx=>(Sem.pure x).wrap K H gd lv,code,p,f::fs⟩with| .go s' t'=>topRun treeTable pwX w 11 (some (.ref 6)) N s' t'| .halt _ _=>none)=some r
 dsimp only at e
 simp only[step,e]
 exact h
theorem VB {b:Addr} {o:Obj} (q:Option Value) (g:Obj ->Obj) (e:s.heap.get? b=some o) (hb:11<=b):J1 w 1 s p (updatePart b q g) {s with heap:=s.heap.update b g} p ():=λK H gd lv code f fs N r h=>by
 obtain⟨hp,gs,d,tk,os⟩:=s
 have hok:(Nat.ble 11 b||b==mainNs||b==cStatics||(some (Value.ref 6))==some (.ref b))=true:=by rw[Nat.ble_eq_true_of_le hb];rfl
 show(match(Bool.and true (Nat.ble 11 b||b==mainNs||b==cStatics||(some (Value.ref 6))==some (.ref b)))with
  |false=>none
  |true=>match step (denote treeTable) pwX w ⟨hp,gs,d,tk,os⟩ ⟨.update b q g λx=>(Sem.pure x).wrap K H gd lv,code,p,f::fs⟩with| .go s' t'=>topRun treeTable pwX w 11 (some (.ref 6)) N s' t'| .halt _ _=>none)=some r
 rw[hok]
 dsimp only at e
 simp only[step,e,Option.isSome_some,if_true]
 exact h
end
section
variable {w:World} {s:Shared} {p:Pos}
noncomputable abbrev J0F (i:Int):Sem Int:=do
  if-(2^63:Int)<=i&&i<2^63 then return(if i== -1 then-2 else i)
  rule "hash.reduced"
  let m:Int:=2^61-1
  let h:=(i.natAbs:Int)%m
  let h:=if i<0 then-h else h
  return(if h== -1 then-2 else h)
set_option maxRecDepth 100000 in
theorem J41 {k:Int} {t:Tok} {K:Int ->Sem Fin} {H:Value ->Sem Fin} {gd:Bool ->Bool} {lv:List Value ->List Value} {code:Code} {f:Frame} {fs:List Frame} {N:Nat} {hp:Heap} {gs:Array GenState} {d:Drawn} {tk:Nat} {os:OsState} (b:Bool):
  topRun treeTable pwX (w.withFollow "special-get-raises" b) 11 (some (.ref 6)) (N+5) ⟨hp,gs,d,tk,os⟩ ⟨(pyHash (.int k t)).wrap K H gd lv,code,p,f::fs⟩=
  topRun treeTable pwX (w.withFollow "special-get-raises" b) 11 (some (.ref 6)) N ⟨hp,gs,d,tk+1,os⟩ ⟨(J0F (rawHash k)).wrap K H gd lv,code,p,f::fs⟩:=by
 cases b<;>kernel_rfl
theorem J80 {k:Int} {t:Tok}:J1 w 5 s p (pyHash (.int k t)) {s with toks:=s.toks+1} p (hashInt k):=λK H gd lv code f fs N r h=>by
 obtain⟨hp,gs,d,tk,os⟩:=s
 have hr:=rawHash_range k
 have e:=J41 (w:=w) (p:=p) (k:=k) (t:=t) (K:=K) (H:=H) (gd:=gd) (lv:=lv) (code:=code) (f:=f) (fs:=fs) (N:=N) (hp:=hp) (gs:=gs) (d:=d) (tk:=tk) (os:=os) (w.params.followText "special-get-raises")
 rw[World.withFollow_self]at e
 rw[e]
 have e2:J0F (rawHash k)=Pure.pure (hashInt k):=by
  unfold J0F
  rw[if_pos (by rw[decide_eq_true hr.1,decide_eq_true hr.2];rfl)]
  rfl
 rw[e2]
 exact h
noncomputable abbrev dob (l:List DictEntry):Obj:=⟨.type "dict",none,.dict l.toArray l.length,#[]⟩
variable {lf:Life} {gs:Array GenState} {dr:Drawn} {os:OsState} {pre post:List Obj} {l:List DictEntry} {tk:Nat}
noncomputable abbrev stL (lf:Life) (gs:Array GenState) (dr:Drawn) (os:OsState) (L:List Obj) (tk:Nat):Shared:=⟨⟨L.toArray,lf⟩,gs,dr,tk,os⟩
theorem Zu:(⟨(pre++dob l::post).toArray,lf⟩:Heap).get? pre.length=some (dob l):=by
 unfold Heap.get?
 have:(pre++dob l::post).toArray[pre.length]?=some (dob l):=by
  rw[List.getElem?_toArray,List.getElem?_append_right (Nat.le_refl _),Nat.sub_self];rfl
 dsimp only
 rw[this]
theorem J6Z (f:Obj ->Obj) {x:Obj}:(⟨(pre++x::post).toArray,lf⟩:Heap).update pre.length f=⟨(pre++f x::post).toArray,lf⟩:=by
 show Heap.mk _ _=Heap.mk _ _
 congr 1
 apply Array.ext_getElem?
 intro i
 rw[Array.getElem?_modify,List.getElem?_toArray,List.getElem?_toArray]
 by_cases e:pre.length=i
 ·subst e
  rw[if_pos rfl,List.getElem?_append_right (Nat.le_refl _),List.getElem?_append_right (Nat.le_refl _),Nat.sub_self];rfl
 ·rw[if_neg e]
  by_cases c:i<pre.length
  ·rw[List.getElem?_append_left c,List.getElem?_append_left c]
  ·rw[List.getElem?_append_right (by lia),List.getElem?_append_right (by lia)]
   obtain⟨j,hj⟩: ∃j,i-pre.length=j+1:=⟨i-pre.length-1,by lia⟩
   rw[hj];rfl
theorem Jh (q:Option Value):J1 w 1 (stL lf gs dr os (pre++dob l::post) tk) p (dictEntries pre.length q) (stL lf gs dr os (pre++dob l::post) tk) p l.toArray:=
 J1.bind' (m:=0) (Jl q Zu) (J1.pure _)
theorem Yw (q:Option Value):J1 w 1 (stL lf gs dr os (pre++dob l::post) tk) p (dictEpoch pre.length q) (stL lf gs dr os (pre++dob l::post) tk) p l.length:=
 J1.bind' (m:=0) (Jl q Zu) (J1.pure _)
theorem J4p {h:Int} (hn: ∀e∈l,e.hash≠h):placesWithHash l.toArray.size (λi=>l.toArray[i]?.map (·.hash)) h=[]:=by
 unfold placesWithHash
 rw[List.filter_eq_nil_iff]
 intro i hi
 dsimp only
 rw[List.getElem?_toArray]
 cases e:l[i]? with
 |none=>simp
 |some x=>simpa using hn x (List.mem_of_getElem? e)
theorem YS {k:Int} {t:Tok} {h:Int} (hn: ∀e∈l,e.hash≠h):J1 w 1 (stL lf gs dr os (pre++dob l::post) tk) p (dictFind pre.length (.int k t) h) (stL lf gs dr os (pre++dob l::post) tk) p none:=by
 unfold dictFind
 refine J1.holding _ (J1.bind' (m:=0) (Jh _) ?_)
 dsimp only
 rw[J4p hn]
 exact J1.pure _
theorem J1C {e:DictEntry} (q:Option Value) (hp:11<=pre.length) (hl:l.length<100000):
  J1 w 3 (stL lf gs dr os (pre++dob l::post) tk) p (updateDictKeys pre.length (·.push e) q) (stL lf gs dr os (pre++dob (l++[e])::post) tk) p ():=by
 unfold updateDictKeys
 refine J1.bind' (m:=2) (Jl q Zu) ?_
 refine J1.bind' (m:=1) (VB q _ Zu hp) ?_
 have e1:(⟨(pre++dob l::post).toArray,lf⟩:Heap).update pre.length (Obj.mapDictKeys (·.push e))=⟨(pre++dob (l++[e])::post).toArray,lf⟩:=by
  have e0:Obj.mapDictKeys (·.push e) (dob l)=dob (l++[e]):=by
   show Obj.mk (.type "dict") none (.dict (l.toArray.push e) (l.length+1)) #[]=dob (l++[e])
   rw[List.push_toArray]
   unfold dob
   rw[List.length_append];rfl
  rw[J6Z,e0]
 show J1 w 1 ⟨(⟨(pre++dob l::post).toArray,lf⟩:Heap).update pre.length (Obj.mapDictKeys (·.push e)),gs,dr,tk,os⟩ p _ _ _ _
 rw[e1]
 unfold lookBehind
 refine J1.bind' (m:=0) (Jl q Zu) ?_
 have e2:(dob (l++[e])).data.pastItsLine=none:=by
  show(if(l++[e]).toArray.size>sizeLine+1 then some "dict:memory"else none)=none
  rw[if_neg]
  rw[List.size_toArray,List.length_append,sizeLine_eq,List.length_singleton];lia
 rw[e2]
 exact J1.pure _
theorem YT {k:Int} {t:Tok} {h:Int} {v:Value} (hn: ∀e∈l,e.hash≠h) (hp:11<=pre.length) (hl:l.length<100000):
  J1 w 5 (stL lf gs dr os (pre++dob l::post) tk) p (dictSetHashed pre.length (.int k t) h v) (stL lf gs dr os (pre++dob (l++[⟨h,.int k t,v⟩])::post) tk) p ():=by
 unfold dictSetHashed
 refine J1.holding _ (J1.bind' (m:=4) (YS hn) ?_)
 exact J1.bind' (m:=3) (J1D _) (J1C _ hp hl)
theorem ZT {k:Int} {t:Tok} {v:Value} (hn: ∀e∈l,e.hash≠hashInt k) (hp:11<=pre.length) (hl:l.length<100000):
  J1 w 10 (stL lf gs dr os (pre++dob l::post) tk) p (dictSet pre.length (.int k t) v) (stL lf gs dr os (pre++dob (l++[⟨hashInt k,.int k t,v⟩])::post) (tk+1)) p ():=by
 unfold dictSet
 exact J1.holding _ (J1.bind' (m:=5) J80 (YT hn hp hl))
theorem J1z {k:Int} {t:Tok} {h:Int} {v:Value} (hn: ∀e∈l,e.hash≠h) (hp:11<=pre.length) (hl:l.length<100000):
  J1 w 4 (stL lf gs dr os (pre++dob l::post) tk) p (dictPut pre.length h (.int k t) v) (stL lf gs dr os (pre++dob (l++[⟨h,.int k t,v⟩])::post) tk) p ():=by
 unfold dictPut
 exact J1.bind' (m:=3) (YS hn) (J1C _ hp hl)
theorem J6c (k:Int):J1 w 1 s p (mkInt k) {s with toks:=s.toks+1} p (.int k s.toks):=J1.bind' (m:=0) KU (J1.pure _)
theorem J42 (x:Str):J1 w 1 s p (mkText x) {s with toks:=s.toks+1} p (.str x s.toks):=J1.bind' (m:=0) KU (J1.pure _)
end
section
variable {w:World} {s:Shared} {p:Pos} {lf:Life} {gs:Array GenState} {dr:Drawn} {os:OsState} {pre post:List Obj} {l:List DictEntry} {tk:Nat}
noncomputable abbrev itT (pos:Pos) (x:Int×Str):Sem Value×Sem Value:=(mkInt x.1,do let v<-mkText x.2;standAt pos;pure v)
noncomputable def ents:Nat ->List (Int×Str) ->List DictEntry
 |_,[]=>[]
 |tk,x::r=>⟨hashInt x.1,.int x.1 tk,.str x.2 (tk+1)⟩::ents (tk+3) r
theorem Ve: ∀(a b:List (Int×Str)) (tk:Nat),ents tk (a++b)=ents tk a++ents (tk+3*a.length) b
 |[],_,_=>rfl
 |x::a,b,tk=>by
  show _::ents (tk+3) (a++b)=_::(ents (tk+3) a++_)
  rw[Ve a b,List.length_cons,show tk+3+3*a.length=tk+3*(a.length+1) by lia]
theorem JQ: ∀(a:List (Int×Str)) (tk:Nat),(ents tk a).map (·.hash)=a.map λx=>hashInt x.1
 |[],_=>rfl
 |x::a,tk=>by show _::_=_::_;rw[JQ a]
theorem Yi (a:List (Int×Str)) (tk:Nat):(ents tk a).length=a.length:=by
 have:=congrArg List.length (JQ a tk);simpa using this
theorem J4Q {pos:Pos} {x:Int×Str}:J1 w 1 (stL lf gs dr os post tk) pos (itT pos x).1 (stL lf gs dr os post (tk+1)) pos (.int x.1 tk):=J6c _
theorem J4R {pos:Pos} {x:Int×Str}:J1 w 2 (stL lf gs dr os post tk) pos (itT pos x).2 (stL lf gs dr os post (tk+1)) pos (.str x.2 tk):=
 J1.bind' (m:=1) (J42 _) (J1.bind' (m:=0) (J3Z _) (J1.pure _))
noncomputable abbrev hs (l:List DictEntry):List Int:=l.map (·.hash)
noncomputable abbrev hk (l:List (Int×Str)):List Int:=l.map λx=>hashInt x.1
theorem J4N {x:Int×Str} {r:List Int} (h:(hs l++hashInt x.1::r).Nodup): ∀e∈l,e.hash≠hashInt x.1:=λe he q=>
 (List.nodup_append.mp h).2.2 e.hash (List.mem_map_of_mem he) (hashInt x.1) List.mem_cons_self q
noncomputable abbrev Jb3 (d:Addr) (x:Sem Value×Sem Value) (_:PUnit):Sem (ForInStep PUnit):=do
 let kv<-x.1
 let vv<-holding [kv] x.2
 holding [kv,vv] (dictSet d kv vv)
 pure (ForInStep.yield PUnit.unit)
theorem J1B {pos:Pos} (hp:11<=pre.length): ∀(it:List (Int×Str)) (l:List DictEntry) (tk:Nat),(hs l++hk it).Nodup ->l.length+it.length<100000 ->
  J1 w (13*it.length) (stL lf gs dr os (pre++dob l::post) tk) pos (forIn (it.map (itT pos)) PUnit.unit (Jb3 pre.length)) (stL lf gs dr os (pre++dob (l++ents tk it)::post) (tk+3*it.length)) pos PUnit.unit
 |[],l,tk,_,_=>by
  rw[List.map_nil,List.forIn_nil,ents,List.append_nil];exact J1.pure _
 |x::it,l,tk,h,hl=>by
  rw[List.map_cons,List.forIn_cons]
  rw[List.length_cons]at hl
  refine J1.le (n:=13*it.length+13) ?_ (by rw[List.length_cons];lia)
  refine J1.bind' (m:=13*it.length) (n:=13) (a:=ForInStep.yield PUnit.unit) (s₁:=stL lf gs dr os (pre++dob (l++[⟨hashInt x.1,.int x.1 tk,.str x.2 (tk+1)⟩])::post) (tk+3)) (p₁:=pos) ?_ ?_
  ·refine J1.bind' (m:=12) J4Q (J1.bind' (m:=10) (J1.holding _ J4R) (J1.bind' (m:=0) (J1.holding _ (ZT (J4N h) hp (by lia))) (J1.pure _)))
  ·have:=J1B (pos:=pos) hp it (l++[⟨hashInt x.1,.int x.1 tk,.str x.2 (tk+1)⟩]) (tk+3) (by
    show(List.map _ (l++[_])++_).Nodup
    rw[List.map_append,List.append_assoc];exact h) (by rw[List.length_append,List.length_singleton];lia)
   rw[List.append_assoc,show tk+3+3*it.length=tk+3*(x::it).length by rw[List.length_cons];lia]at this
   exact this
theorem J5q (L:List Obj) (o:Obj):(⟨L.toArray,lf⟩:Heap).push o=⟨(L++[o]).toArray,lf⟩:=by
 show Heap.mk _ _=Heap.mk _ _
 rw[List.push_toArray]
theorem JR {pos:Pos} {L:List Obj} {it:List (Int×Str)} (hp:11<=L.length) (hn:(hk it).Nodup) (hl:it.length<100000) (h15:15<it.length):
  J1 w (13*it.length+2) (stL lf gs dr os L tk) pos (subDict (it.map (itT pos))) (stL lf gs dr os (L++[dob (ents tk it)]) (tk+3*it.length)) pos L.length:=by
 unfold subDict
 refine J1.bind' (m:=13*it.length+1) (KT _) ?_
 show J1 w _ ⟨(⟨L.toArray,lf⟩:Heap).push _,gs,dr,tk,os⟩ pos _ _ _ _
 rw[J5q]
 have hsz:(stL lf gs dr os L tk).heap.objs.size=L.length:=List.size_toArray ..
 rw[hsz,if_neg (by rw[List.length_map];lia)]
 have h1:=J1B (w:=w) (lf:=lf) (gs:=gs) (dr:=dr) (os:=os) (post:=[]) (pos:=pos) hp it [] tk (by simpa using hn) (by simpa using hl)
 exact J1.le (J1.bind' (J1.holding _ (J1.bind' (J1D _) (J1.bind' h1 (J1.pure _)))) (J1.pure _)) (by lia)
end
section
variable {w:World} {s:Shared} {p:Pos} {lf:Life} {gs:Array GenState} {dr:Drawn} {os:OsState} {pre post:List Obj} {l:List DictEntry} {tk:Nat}
noncomputable def kvs:Nat ->List (Int×Str) ->List (Value×Value)
 |_,[]=>[]
 |tk,x::r=>(.int x.1 tk,.str x.2 (tk+1))::kvs (tk+2) r
noncomputable def ents2:Nat ->List (Int×Str) ->List DictEntry
 |_,[]=>[]
 |tk,x::r=>⟨hashInt x.1,.int x.1 tk,.str x.2 (tk+1)⟩::ents2 (tk+2) r
theorem Zp: ∀(a:List (Int×Str)) (tk:Nat),(ents2 tk a).map (·.hash)=a.map λx=>hashInt x.1
 |[],_=>rfl
 |x::a,tk=>by show _::_=_::_;rw[Zp a]
theorem J1m (a:List (Int×Str)) (tk:Nat):(ents2 tk a).length=a.length:=by
 have:=congrArg List.length (Zp a tk);simpa using this
theorem Yx {pos:Pos} {L:List Obj}: ∀(it:List (Int×Str)) (tk:Nat),
  J1 w (3*it.length) (stL lf gs dr os L tk) pos (evalPairs (it.map (itT pos))) (stL lf gs dr os L (tk+2*it.length)) pos (kvs tk it)
 |[],tk=>J1.pure _
 |x::it,tk=>by
  rw[List.map_cons]
  unfold evalPairs
  have h:=Yx (pos:=pos) (L:=L) it (tk+2)
  rw[show tk+2+2*it.length=tk+2*(x::it).length by rw[List.length_cons];lia]at h
  exact J1.le (J1.bind' J4Q (J1.bind' (J1.holding _ J4R) (J1.bind' (J1.holding _ h) (J1.pure _)))) (by rw[List.length_cons];lia)
theorem KV {pos:Pos} (hp:11<=pre.length): ∀(it:List (Int×Str)) (l:List DictEntry) (tk tk':Nat),(hs l++hk it).Nodup ->l.length+it.length<100000 ->
  J1 w (10*it.length) (stL lf gs dr os (pre++dob l::post) tk') pos (forIn (kvs tk it) PUnit.unit λ(x:Value×Value) (_:PUnit)=>(do dictSet pre.length x.1 x.2;pure (ForInStep.yield PUnit.unit):Sem (ForInStep PUnit)))
   (stL lf gs dr os (pre++dob (l++ents2 tk it)::post) (tk'+it.length)) pos PUnit.unit
 |[],l,tk,tk',_,_=>by
  rw[kvs,List.forIn_nil,ents2,List.append_nil];exact J1.pure _
 |x::it,l,tk,tk',h,hl=>by
  rw[kvs,List.forIn_cons]
  rw[List.length_cons]at hl
  have h2:=KV (pos:=pos) hp it (l++[⟨hashInt x.1,.int x.1 tk,.str x.2 (tk+1)⟩]) (tk+2) (tk'+1) (by
    show(List.map _ (l++[_])++_).Nodup
    rw[List.map_append,List.append_assoc];exact h) (by rw[List.length_append,List.length_singleton];lia)
  rw[List.append_assoc,show tk'+1+it.length=tk'+(x::it).length by rw[List.length_cons];lia]at h2
  exact J1.le (J1.bind' (J1.bind' (ZT (J4N h) hp (by lia)) (J1.pure _)) h2) (by rw[List.length_cons];lia)
theorem YU {pos:Pos} {L:List Obj} {it:List (Int×Str)} (hp:11<=L.length) (hn:(hk it).Nodup) (h15:it.length<=15):
  J1 w (13*it.length+2) (stL lf gs dr os L tk) pos (subDict (it.map (itT pos))) (stL lf gs dr os (L++[dob (ents2 tk it)]) (tk+3*it.length)) pos L.length:=by
 unfold subDict
 refine J1.bind' (m:=13*it.length+1) (KT _) ?_
 show J1 w _ ⟨(⟨L.toArray,lf⟩:Heap).push _,gs,dr,tk,os⟩ pos _ _ _ _
 rw[J5q]
 have hsz:(stL lf gs dr os L tk).heap.objs.size=L.length:=List.size_toArray ..
 rw[hsz,if_pos (by rw[List.length_map];lia)]
 have h0:=Yx (w:=w) (lf:=lf) (gs:=gs) (dr:=dr) (os:=os) (pos:=pos) (L:=L++[dob []]) it tk
 have h1:=KV (w:=w) (lf:=lf) (gs:=gs) (dr:=dr) (os:=os) (post:=[]) (pos:=pos) hp it [] tk (tk+2*it.length) (by simpa using hn) (by rw[List.length_nil];lia)
 rw[show tk+2*it.length+it.length=tk+3*it.length by lia]at h1
 exact J1.le (J1.bind' (J1.holding _ (J1.bind' h0 (J1.holding _ (J1.bind' h1 (J1.pure _))))) (J1.pure _)) (by lia)
theorem JbU:isSubtype (.type "dict") (.type "dict")=pure true:=by rw[isSubtype_type];kernel_rfl
theorem J8t:typeLookup (.type "dict") "__iter__"=pure (some (.builtin "dict.__iter__")):=by rw[typeLookup_type,builtinLookup_eq_fast];kernel_rfl
theorem KX: ∀(it:List (Int×Str)) (tk:Nat),∀e∈ents tk it,∃k t,e.key= .int k t
 |[],_,_,h=>absurd h List.not_mem_nil
 |_::r,tk,e,h=>by
  exact Or.elim (List.mem_cons.mp h) (λe=>e▸⟨_,_,rfl⟩) λh=>KX r _ e h
theorem VF: ∀(it:List (Int×Str)) (tk:Nat),∀e∈ents2 tk it,∃k t,e.key= .int k t
 |[],_,_,h=>absurd h List.not_mem_nil
 |_::r,tk,e,h=>by
  exact Or.elim (List.mem_cons.mp h) (λe=>e▸⟨_,_,rfl⟩) λh=>VF r _ e h
noncomputable abbrev J8A (d a:Addr) (epoch:Nat) (i:Nat) (_:PUnit):Sem (ForInStep PUnit):=do
   let some e:=(<-dictEntries a)[i]?|unsupported "dict.changed-during-merge"
   holding [e.key,e.val] do
    dictPut d e.hash e.key e.val
   if(<-dictEpoch a) !=epoch then unsupported "dict.changed-during-merge"
   pure (ForInStep.yield PUnit.unit)
theorem Yz {base T:List Obj} {sub:List DictEntry} {pos:Pos} {ep:Nat} (hb:11<=base.length) (hk: ∀e∈sub,∃k t,e.key= .int k t) (hep:ep=sub.length):
  ∀(r done M:List DictEntry),sub=done++r ->(hs M++hs r).Nodup ->M.length+r.length<100000 ->
   J1 w (6*r.length) (stL lf gs dr os (base++dob M::(T++[dob sub])) tk) pos (forIn (List.range' done.length r.length) PUnit.unit (J8A base.length (base.length+1+T.length) ep))
    (stL lf gs dr os (base++dob (M++r)::(T++[dob sub])) tk) pos PUnit.unit
 |[],done,M,_,_,_=>by
  rw[List.length_nil,List.range'_zero,List.forIn_nil,List.append_nil];exact J1.pure _
 |e::r,done,M,hs',hn,hl=>by
  rw[List.length_cons,List.range'_succ,List.forIn_cons]
  rw[List.length_cons]at hl
  refine o20 (hk e (by rw[hs'];simp)) λk t hkt=>?_
  have hshape: ∀M:List DictEntry,base++dob M::(T++[dob sub])=(base++dob M::T)++dob sub::[]:=λM=>by simp
  have hlen: ∀M:List DictEntry,(base++dob M::T).length=base.length+1+T.length:=λM=>by simp;lia
  have e1:J1 w 1 (stL lf gs dr os (base++dob M::(T++[dob sub])) tk) pos (dictEntries (base.length+1+T.length)) (stL lf gs dr os (base++dob M::(T++[dob sub])) tk) pos sub.toArray:=by
   rw[hshape,<-hlen M];exact Jh none
  have e3:J1 w 1 (stL lf gs dr os (base++dob (M++[e])::(T++[dob sub])) tk) pos (dictEpoch (base.length+1+T.length)) (stL lf gs dr os (base++dob (M++[e])::(T++[dob sub])) tk) pos sub.length:=by
   rw[hshape,<-hlen (M++[e])];exact Yw none
  have e2:J1 w 4 (stL lf gs dr os (base++dob M::(T++[dob sub])) tk) pos (dictPut base.length e.hash e.key e.val) (stL lf gs dr os (base++dob (M++[e])::(T++[dob sub])) tk) pos ():=by
   have:=J1z (w:=w) (lf:=lf) (gs:=gs) (dr:=dr) (os:=os) (tk:=tk) (p:=pos) (pre:=base) (post:=T++[dob sub]) (l:=M) (k:=k) (t:=t) (h:=e.hash) (v:=e.val) (λx hx q=>(List.nodup_append.mp hn).2.2 x.hash (List.mem_map_of_mem hx) e.hash List.mem_cons_self q) hb (by lia)
   rw[<-hkt]at this
   exact this
  have hi:(sub.toArray)[done.length]?=some e:=by
   rw[List.getElem?_toArray,hs',List.getElem?_append_right (Nat.le_refl _),Nat.sub_self];rfl
  have h4:=Yz (T:=T) (sub:=sub) (pos:=pos) hb hk hep r (done++[e]) (M++[e]) (by rw[hs',List.append_assoc];rfl) (by
   show(List.map _ (M++[_])++_).Nodup
   rw[List.map_append,List.append_assoc];exact hn) (by rw[List.length_append,List.length_singleton];lia)
  rw[List.append_assoc,show(done++[e]).length=done.length+1 by rw[List.length_append];rfl]at h4
  refine J1.le (n:=6*r.length+6) (J1.bind' (m:=6*r.length) (n:=6) (a:=ForInStep.yield PUnit.unit) (p₁:=pos) (s₁:=stL lf gs dr os (base++dob (M++[e])::(T++[dob sub])) tk) ?_ h4) (by lia)
  refine J1.bind' (m:=5) e1 ?_
  rw[hi]
  refine J1.bind' (m:=1) (n:=4) (J1.holding _ e2) ?_
  refine J1.bind' (m:=0) e3 ?_
  rw[hep,if_neg (by simp)]
  exact J1.pure _
end
section
variable {w:World} {s:Shared} {p:Pos} {lf:Life} {gs:Array GenState} {dr:Drawn} {os:OsState} {pre post:List Obj} {l:List DictEntry} {tk:Nat}
theorem J6b {base T:List Obj} {M sub:List DictEntry} {pos:Pos} (hb:11<=base.length) (hk: ∀e∈sub,∃k t,e.key= .int k t) (hM:M≠[]) (hn:(hs M++hs sub).Nodup) (hl:M.length+sub.length<100000):
  J1 w (6*sub.length+10) (stL lf gs dr os (base++dob M::(T++[dob sub])) tk) pos (mergeMapping base.length (.ref (base.length+1+T.length)) false)
    (stL lf gs dr os (base++dob (M++sub)::(T++[dob sub])) tk) pos ():=by
 have hshape: ∀M:List DictEntry,base++dob M::(T++[dob sub])=(base++dob M::T)++dob sub::[]:=λM=>by simp
 have hlen: ∀M:List DictEntry,(base++dob M::T).length=base.length+1+T.length:=λM=>by simp;lia
 have eT:J1 w 1 (stL lf gs dr os (base++dob M::(T++[dob sub])) tk) pos (typeOf (.ref (base.length+1+T.length))) (stL lf gs dr os (base++dob M::(T++[dob sub])) tk) pos (.type "dict"):=by
  rw[hshape,<-hlen M];exact J1.bind' (m:=0) (Jl _ Zu) (J1.pure _)
 have e1:J1 w 1 (stL lf gs dr os (base++dob M::(T++[dob sub])) tk) pos (dictEntries (base.length+1+T.length)) (stL lf gs dr os (base++dob M::(T++[dob sub])) tk) pos sub.toArray:=by
  rw[hshape,<-hlen M];exact Jh none
 have e3:J1 w 1 (stL lf gs dr os (base++dob M::(T++[dob sub])) tk) pos (dictEpoch (base.length+1+T.length)) (stL lf gs dr os (base++dob M::(T++[dob sub])) tk) pos sub.length:=by
  rw[hshape,<-hlen M];exact Yw none
 have e0:J1 w 1 (stL lf gs dr os (base++dob M::(T++[dob sub])) tk) pos (dictEntries base.length) (stL lf gs dr os (base++dob M::(T++[dob sub])) tk) pos M.toArray:=Jh none
 have h4:=Yz (w:=w) (lf:=lf) (gs:=gs) (dr:=dr) (os:=os) (tk:=tk) (T:=T) (sub:=sub) (pos:=pos) (ep:=sub.length) hb hk rfl sub [] M rfl hn hl
 unfold mergeMapping
 have i1:J1 w 1 (stL lf gs dr os (base++dob M::(T++[dob sub])) tk) pos (isInstance (.ref (base.length+1+T.length)) (.type "dict")) (stL lf gs dr os (base++dob M::(T++[dob sub])) tk) pos true:=
  J1.bind' (m:=0) eT (by rw[JbU];exact J1.pure _)
 have i2:J1 w 1 (stL lf gs dr os (base++dob M::(T++[dob sub])) tk) pos (specialOf (.ref (base.length+1+T.length)) "__iter__") (stL lf gs dr os (base++dob M::(T++[dob sub])) tk) pos (some (.builtin "dict.__iter__")):=
  J1.bind' (m:=0) eT (by rw[J8t];exact J1.pure _)
 refine J1.le (n:=6*sub.length+6+1+1) (J1.bind' (n:=1) i1 (m:=6*sub.length+6+1) ?_) (by lia)
 rw[if_pos rfl]
 refine J1.bind' (n:=1) i2 (m:=6*sub.length+6) ?_
 rw[show(some (Value.builtin "dict.__iter__")==some (Value.builtin "dict.__iter__"))=true by simp]
 refine J1.bind' (n:=0) (m:=6*sub.length+6) (J1.pure true) ?_
 dsimp only
 have hne:(base.length+1+T.length==sysModules)=false:=by
  rw[beq_eq_false_iff_ne]
  have h1:(sysModules:Nat)=(1:Nat):=rfl
  exact λq=>absurd ((show base.length+1+T.length=(sysModules:Nat)from q).trans h1) (by lia)
 rw[hne,if_neg (by simp)]
 have hME:M.toArray.isEmpty=false:=by cases M with
  |nil=>exact absurd rfl hM
  |cons=>rfl
 refine J1.le (n:=6*sub.length+2+1) (J1.bind' (m:=6*sub.length+2) e0 ?_) (by lia)
 rw[hME]
 refine J1.le (n:=6*sub.length+1+1) (J1.bind' (m:=6*sub.length+1) e1 ?_) (by lia)
 refine J1.le (n:=6*sub.length+1) (J1.bind' (m:=6*sub.length) e3 ?_) (by lia)
 rw[List.size_toArray,List.range_eq_range']
 exact J1.bind' (m:=0) h4 (J1.pure _)|>.le (by lia)
end
section
variable {w:World} {s s₁ s':Shared} {p p₁ p':Pos} {lf:Life} {gs:Array GenState} {dr:Drawn} {os:OsState} {pre post:List Obj} {l:List DictEntry} {tk n m:Nat}
noncomputable def flushD (run:List (Sem Value×Sem Value)) (main:Option Addr):Sem (Option Addr):=do
  if run.isEmpty then return main
  match main with
  |none=>return some (<-subDict run)
  |some d=>
   let sub<-holding [.ref d] (subDict run)
   (holding [.ref d,.ref sub] (mergeMapping d (.ref sub) false)).onRaise λx=>do let _<-holding [.ref d,x] (runValue (.builtin "proto.let_go" {}))
   return some d
theorem J40 {pos:Pos} {L:List Obj} {it:List (Int×Str)} (hp:11<=L.length) (hn:(hk it).Nodup) (hl:it.length<100000) (h15:15<it.length):
  J1 w (13*it.length+2) (stL lf gs dr os L tk) pos (flushD (it.map (itT pos)) none) (stL lf gs dr os (L++[dob (ents tk it)]) (tk+3*it.length)) pos (some L.length):=by
 unfold flushD
 rw[show(it.map (itT pos)).isEmpty=false by cases it with
  |nil=>simp at h15
  |cons=>rfl]
 exact J1.le (n:=0+(13*it.length+2)) (J1.bind' (JR hp hn hl h15) (J1.pure _)) (by lia)
theorem Yy {pos:Pos} {base T:List Obj} {M sub:List DictEntry} {it:List (Sem Value×Sem Value)} {tk':Nat} (hb:11<=base.length) (hne:it≠[]) (hk: ∀e∈sub,∃k t,e.key= .int k t) (hM:M≠[]) (hn:(hs M++hs sub).Nodup) (hl:M.length+sub.length<100000)
  (h:J1 w n (stL lf gs dr os (base++dob M::T) tk) pos (subDict it) (stL lf gs dr os ((base++dob M::T)++[dob sub]) tk') pos (base++dob M::T).length):
  J1 w (6*sub.length+10+n) (stL lf gs dr os (base++dob M::T) tk) pos (flushD it (some base.length)) (stL lf gs dr os (base++dob (M++sub)::(T++[dob sub])) tk') pos (some base.length):=by
 unfold flushD
 rw[show it.isEmpty=false by cases it with
  |nil=>exact absurd rfl hne
  |cons=>rfl]
 have h2:=J6b (w:=w) (lf:=lf) (gs:=gs) (dr:=dr) (os:=os) (tk:=tk') (base:=base) (T:=T) (M:=M) (sub:=sub) (pos:=pos) hb hk hM hn hl
 have e1:(base++dob M::T)++[dob sub]=base++dob M::(T++[dob sub]):=by simp
 have e2:(base++dob M::T).length=base.length+1+T.length:=by simp;lia
 rw[e1,e2]at h
 exact J1.le (n:=0+(6*sub.length+10)+n) (J1.bind' (J1.holding _ h) (J1.bind' (J1.onRaise _ (J1.holding _ h2)) (J1.pure _))) (by lia)
variable {f:(Option (Sem Value)×Sem Value) ->(Option Addr×List (Sem Value×Sem Value)) ->Sem (ForInStep (Option Addr×List (Sem Value×Sem Value)))}
  (hf1: ∀(mn:Option Addr) (x:Sem Value×Sem Value) (run:List (Sem Value×Sem Value)),run.length+1<17 ->f (some x.1,x.2) (mn,run)=pure (.yield (mn,run++[x])))
  (hf2: ∀(mn:Option Addr) (x:Sem Value×Sem Value) (run:List (Sem Value×Sem Value)),run.length+1=17 ->f (some x.1,x.2) (mn,run)=(do let a<-flushD (run++[x]) mn;pure (.yield (a,[]))))
noncomputable abbrev J35 (x:Sem Value×Sem Value):Option (Sem Value)×Sem Value:=(some x.1,x.2)
include hf1 in
theorem J1E: ∀(b run:List (Sem Value×Sem Value)) (mn:Option Addr),run.length+b.length<17 ->J1 w 0 s p (forIn (b.map J35) (mn,run) f) s p (mn,run++b)
 |[],run,mn,_=>by rw[List.map_nil,List.forIn_nil,List.append_nil];exact J1.pure _
 |x::b,run,mn,h=>by
  rw[List.length_cons]at h
  rw[List.map_cons,List.forIn_cons,hf1 mn x run (by lia)]
  have:=J1E b (run++[x]) mn (by rw[List.length_append,List.length_singleton];lia)
  rw[List.append_assoc]at this
  exact J1.bind' (n:=0) (J1.pure _) this
include hf1 hf2 in
theorem Zv {rest:List (Option (Sem Value)×Sem Value)} {mn mn':Option Addr} {r:Option Addr×List (Sem Value×Sem Value)}: ∀(b run:List (Sem Value×Sem Value)),run.length+b.length=17 ->b≠[] ->J1 w n s p (flushD (run++b) mn) s₁ p₁ mn' ->J1 w m s₁ p₁ (forIn rest (mn',[]) f) s' p' r ->
  J1 w (m+n) s p (forIn (b.map J35++rest) (mn,run) f) s' p' r
 |[x],run,h,_,h1,h2=>by
  rw[List.map_cons,List.map_nil,List.cons_append,List.nil_append,List.forIn_cons,hf2 mn x run (by simpa using h)]
  exact J1.le (J1.bind' (n:=0+n) (J1.bind' h1 (J1.pure _)) h2) (by lia)
 |x::y::b,run,h,_,h1,h2=>by
  simp only[List.length_cons]at h
  rw[List.map_cons,List.cons_append,List.forIn_cons,hf1 mn x run (by lia)]
  refine J1.bind' (m:=m+n) (n:=0) (J1.pure _) ?_
  exact Zv (y::b) (run++[x]) (by simp only[List.length_append,List.length_cons,List.length_nil];lia) (by simp) (by rw[List.append_assoc];exact h1) h2
noncomputable def Ka:Nat ->List (List (Int×Str)) ->List Obj
 |_,[]=>[]
 |tk,b::r=>dob (ents tk b)::Ka (tk+51) r
include hf1 hf2 in
theorem ZS {base:List Obj} {pos:Pos} {last:List (Int×Str)} (hb:11<=base.length) (hlast:last.length<17): ∀(bs:List (List (Int×Str))) (M:List DictEntry) (T:List Obj) (tk:Nat),(∀b∈bs,b.length=17) ->M≠[] ->(hs M++hk bs.flatten).Nodup ->M.length+bs.flatten.length<100000 ->
  J1 w (400*bs.length) (stL lf gs dr os (base++dob M::T) tk) pos (forIn ((bs.flatten++last).map λx=>J35 (itT pos x)) (some base.length,[]) f)
   (stL lf gs dr os (base++dob (M++ents tk bs.flatten)::(T++Ka tk bs)) (tk+51*bs.length)) pos (some base.length,last.map (itT pos))
 |[],M,T,tk,_,_,_,_=>by
  rw[List.flatten_nil,ents,List.append_nil,Ka,List.append_nil,List.nil_append]
  have:=J1E (w:=w) (s:=stL lf gs dr os (base++dob M::T) tk) (p:=pos) hf1 (last.map (itT pos)) [] (some base.length) (by rw[List.length_map];simpa using hlast)
  rw[List.map_map]at this
  exact this
 |b::bs,M,T,tk,h17,hM,hn,hl=>by
  have hb17:=h17 b List.mem_cons_self
  rw[List.flatten_cons]at hn hl
  rw[List.length_append]at hl
  have hn':(hs M++(hk b++hk bs.flatten)).Nodup:=by
   rw[<-List.map_append];exact hn
  rw[<-List.append_assoc]at hn'
  have hMb:=(List.nodup_append.mp hn').1
  have hbb:(hk b).Nodup:=(List.nodup_append.mp hMb).2.1
  have h0:=Yy (w:=w) (lf:=lf) (gs:=gs) (dr:=dr) (os:=os) (pos:=pos) (base:=base) (T:=T) (M:=M) (sub:=ents tk b) (it:=b.map (itT pos)) (tk:=tk) hb (by intro q;rw[List.map_eq_nil_iff]at q;rw[q]at hb17;simp at hb17) (KX b tk) hM
   (by show(hs M++(ents tk b).map (·.hash)).Nodup;rw[JQ];exact hMb) (by rw[Yi];lia)
   (JR (w:=w) (lf:=lf) (gs:=gs) (dr:=dr) (os:=os) (tk:=tk) (pos:=pos) (L:=base++dob M::T) (it:=b) (by rw[List.length_append];lia) hbb (by lia) (by lia))
  have h1:=ZS (pos:=pos) (last:=last) hb hlast bs (M++ents tk b) (T++[dob (ents tk b)]) (tk+51) (λx hx=>h17 x (List.mem_cons_of_mem _ hx)) (by intro q;exact hM (List.append_eq_nil_iff.mp q).1)
   (by show(List.map _ (M++_)++_).Nodup;rw[List.map_append,JQ];exact hn') (by rw[List.length_append,Yi];lia)
  rw[List.append_assoc,List.append_assoc,show tk+51+51*bs.length=tk+51*(b::bs).length by rw[List.length_cons];lia]at h1
  have e1:ents tk (b++bs.flatten)=ents tk b++ents (tk+51) bs.flatten:=by rw[Ve,hb17]
  rw[List.flatten_cons,e1,Ka]
  rw[hb17]at h0
  rw[show tk+3*17=tk+51 by lia]at h0
  have h2:=Zv hf1 hf2 (rest:=(bs.flatten++last).map λx=>J35 (itT pos x)) (b.map (itT pos)) [] (by rw[List.length_map,hb17];rfl) (by intro q;rw[List.map_eq_nil_iff]at q;rw[q]at hb17;simp at hb17) h0 h1
  rw[List.map_map]at h2
  rw[List.append_assoc,List.map_append]
  refine J1.le (h2) ?_
  rw[Yi,hb17,List.length_cons];lia
end
section
variable {w:World} {s s₁ s':Shared} {p p₁ p':Pos} {lf:Life} {gs:Array GenState} {dr:Drawn} {os:OsState} {pre post:List Obj} {l:List DictEntry} {tk n m:Nat}
theorem J1A {base:List Obj} {pos:Pos} {b0 last:List (Int×Str)} {bs:List (List (Int×Str))} (hb:11<=base.length) (h0:b0.length=17) (h17: ∀b∈bs,b.length=17) (hl1:last≠[]) (hl2:last.length<=15)
  (hn:(hk (b0++(bs.flatten++last))).Nodup) (hl:(b0++(bs.flatten++last)).length<100000) {tk2:Nat} (htk:tk2=tk+51+51*bs.length):
  J1 w (400*bs.length+1000) (stL lf gs dr os base tk) pos (dictDisplay ((b0++(bs.flatten++last)).map λx=>J35 (itT pos x)))
   (stL lf gs dr os (base++dob (ents tk (b0++bs.flatten)++ents2 tk2 last)::(Ka (tk+51) bs++[dob (ents2 tk2 last)])) (tk2+3*last.length)) pos (.ref base.length):=by
 have hn1:(hk b0++hk (bs.flatten++last)).Nodup:=by rw[<-List.map_append];exact hn
 have hn2:(hk b0++hk bs.flatten++hk last).Nodup:=by rw[List.append_assoc,<-List.map_append];exact hn1
 rw[List.length_append,List.length_append]at hl
 have e0:=J40 (w:=w) (lf:=lf) (gs:=gs) (dr:=dr) (os:=os) (tk:=tk) (pos:=pos) (L:=base) (it:=b0) hb (List.nodup_append.mp hn1).1 (by lia) (by lia)
 rw[h0,show tk+3*17=tk+51 by lia]at e0
 have hM:ents tk b0≠[]:=by intro q;have:=congrArg List.length q;rw[Yi,h0]at this;simp at this
 have hM2:ents tk (b0++bs.flatten)≠[]:=by rw[Ve];intro q;exact hM (List.append_eq_nil_iff.mp q).1
 have hents:ents tk (b0++bs.flatten)=ents tk b0++ents (tk+51) bs.flatten:=by rw[Ve,h0]
 have e2:=Yy (w:=w) (lf:=lf) (gs:=gs) (dr:=dr) (os:=os) (pos:=pos) (base:=base) (T:=Ka (tk+51) bs) (M:=ents tk (b0++bs.flatten)) (sub:=ents2 tk2 last) (it:=last.map (itT pos)) (tk:=tk2) hb (by simpa using hl1) (VF last tk2) hM2
  (by show((ents tk _).map (·.hash)++(ents2 tk2 last).map (·.hash)).Nodup;rw[JQ,Zp,List.map_append];exact hn2) (by rw[Yi,J1m,List.length_append];lia)
  (YU (w:=w) (lf:=lf) (gs:=gs) (dr:=dr) (os:=os) (tk:=tk2) (pos:=pos) (L:=base++dob (ents tk (b0++bs.flatten))::Ka (tk+51) bs) (it:=last) (by rw[List.length_append];lia) (List.nodup_append.mp hn2).2.1 hl2)
 rw[J1m]at e2
 rw[hents]at e2⊢
 unfold dictDisplay
 dsimp only
 refine J1.le (n:=(6*last.length+10+(13*last.length+2))+(400*bs.length+(13*17+2))) (J1.bind' (m:=6*last.length+10+(13*last.length+2)) (n:=400*bs.length+(13*17+2)) (a:=(some base.length,last.map (itT pos))) (p₁:=pos) (s₁:=stL lf gs dr os (base++dob (ents tk b0++ents (tk+51) bs.flatten)::Ka (tk+51) bs) tk2) ?_ ?_) (by lia)
 ·rw[List.map_append]
  have hh:=Zv (w:=w) (s:=stL lf gs dr os base tk) (p:=pos) (rest:=(bs.flatten++last).map λx=>J35 (itT pos x)) (mn:=none) (f:=?f) ?h1 ?h2 (b0.map (itT pos)) [] (by rw[List.length_map,h0];rfl) (by intro q;rw[List.map_eq_nil_iff]at q;rw[q]at h0;simp at h0) e0
   (ZS (w:=w) (lf:=lf) (gs:=gs) (dr:=dr) (os:=os) (base:=base) (pos:=pos) (last:=last) (f:=?f) ?h1 ?h2 hb (by lia) bs (ents tk b0) [] (tk+51) h17 hM
    (by show((ents tk b0).map (·.hash)++_).Nodup;rw[JQ];exact(List.nodup_append.mp hn2).1) (by rw[Yi];lia))
  rw[List.map_map,List.nil_append,<-htk]at hh
  exact hh
  ·intro mn x run h
   have:((run++[(x.1,x.2)]).length==17)=false:=by simp;lia
   simp only[this]
   rfl
  ·intro mn x run h
   have:((run++[(x.1,x.2)]).length==17)=true:=by simp;lia
   simp only[this]
   rfl
 ·exact J1.le (n:=0+(6*last.length+10+(13*last.length+2))) (J1.bind' e2 (J1.pure _)) (by lia)
end
noncomputable abbrev kE (P:Params) (k:Str) (t:Nat) (v:Value):DictEntry:=⟨PyData.keyHash P k,.str k t,v⟩
noncomputable def fnP:Stmt ->Arguments
 | .FunctionDef _ a _ _ _ _ _ _ _ _=>a
 |_=>default
noncomputable def fnB:Stmt ->List Stmt
 | .FunctionDef _ _ b _ _ _ _ _ _ _=>b
 |_=>[]
noncomputable def fnS:Stmt ->Scope
 | .FunctionDef _ _ _ _ _ _ sc _ _ _=>sc
 |_=>pw.main.scope
noncomputable def mth (k:Nat):Stmt:=match stm 1 with
 | .ClassDef _ _ _ b _ _ _ _ _ _ _=>(b[k]?).getD (.Pass default)
 |_=> .Pass default
noncomputable def J01 (P:Params):Obj:=⟨.type "tuple",none,.seq #[] 0,#[]⟩
noncomputable def Jfy (P:Params):Obj:=⟨.none,none,.fields #[],#[]⟩
noncomputable def J02 (P:Params):Obj:=⟨.type "code",none,.fields #[.str (nm "<module>") 182,.str (nm "<module>") 183,.str (nm "/claim/cut.py") 184,.int 1 0,.int 0 0,.int 0 0,.int 0 0,.int 0 0,.ref 11,.bool false,.int 181 0,.ref 12,.none,.none,.none,.none,.int 185 0,.int 1 0,.str (nm "/claim/cut.py") 186],#[]⟩
noncomputable def J03 (P:Params):Obj:=⟨.type "frame",none,.plain,#[(some (.ref 13)),(some (.ref 3)),(some (.ref 3)),none,(some (.str (nm "__main__") 164)),none,(some (.ref 0))]⟩
noncomputable def Jgc (P:Params):BT:=(.node (boot_o_0 P) (.node (boot_o_1 P) (.node (boot_o_3 P) (.node (boot_o_7 P) .nil .nil) (.node (J01 P) .nil .nil)) (.node (boot_o_5 P) (.node (boot_o_9 P) .nil .nil) (.node (J02 P) .nil .nil))) (.node (boot_o_2 P) (.node (boot_o_4 P) (.node (boot_o_8 P) .nil .nil) (.node (Jfy P) .nil .nil)) (.node (boot_o_6 P) (.node (boot_o_10 P) .nil .nil) (.node (J03 P) .nil .nil))))
noncomputable def JgU (P:Params):Obj:=⟨.type "dict",none,.dict #[kE P (nm "__name__") 165 (.str (nm "cpy313.stringprep") 304),kE P (nm "__doc__") 166 (.none),kE P (nm "__package__") 167 (.none),kE P (nm "__loader__") 168 (.builtin "__main__.__loader__#opaque"),kE P (nm "__spec__") 169 (.none),kE P (nm "__annotations__") 170 (.ref 6),kE P (nm "__builtins__") 171 (.ref 4),kE P (nm "__file__") 173 (.str (nm "/claim/cut.py") 172),kE P (nm "__cached__") 174 (.none),kE P (nm "TupleComp") 230 (.ref 38),kE P (nm "add_callers") 241 (.ref 49),kE P (nm "count_calls") 250 (.ref 56),kE P (nm "rgb_to_hls") 271 (.ref 63),kE P (nm "rgb_to_hsv") 289 (.ref 70),kE P (nm "hsv_to_rgb") 303 (.ref 77)] 15,#[]⟩
noncomputable def Jcw (P:Params):Obj:=⟨.none,none,.fields #[.int 2 0,.int 0 0,.ref 20,.int 16 0,.int 0 0,.ref 48,.int 29 0,.int 0 0,.ref 55,.int 35 0,.int 0 0,.ref 62,.int 58 0,.int 0 0,.ref 69,.int 77 0,.int 0 0,.ref 76],#[]⟩
noncomputable def J1V (P:Params):Obj:=⟨.type "tuple",none,.seq #[] 0,#[]⟩
noncomputable def J1W (P:Params):Obj:=⟨.type "builtin_function_or_method",none,.fields #[.builtin "type.__prepare__",.type "type"],#[]⟩
noncomputable def J1X (P:Params):Obj:=⟨.type "dict",none,.dict #[kE P (nm "__module__") 196 (.str (nm "cpy313.pstats") 187),kE P (nm "__qualname__") 198 (.str (nm "TupleComp") 197),kE P (nm "__firstlineno__") 200 (.int 2 199),kE P (nm "__init__") 208 (.ref 28),kE P (nm "compare") 221 (.ref 35),kE P (nm "__static_attributes__") 223 (.ref 36)] 6,#[]⟩
noncomputable def J1Y (P:Params):Obj:=⟨.type "tuple",none,.seq #[] 0,#[]⟩
noncomputable def J1Z (P:Params):Obj:=⟨.none,none,.fields #[.int 4 0,.int 4 0,.ref 27,.int 7 0,.int 4 0,.ref 34],#[]⟩
noncomputable def J20 (P:Params):Obj:=⟨.type "code",none,.fields #[.str (nm "TupleComp") 191,.str (nm "TupleComp") 192,.str (nm "/claim/cut.py") 193,.int 2 0,.int 0 0,.int 0 0,.int 0 0,.int 0 0,.ref 18,.bool false,.int 181 0,.ref 19,.none,.none,.none,.none,.int 194 0,.int 2 0,.str (nm "/claim/cut.py") 195],#[]⟩
noncomputable def J21 (P:Params):Obj:=⟨.type "frame",none,.plain,#[(some (.ref 20)),(some (.ref 3)),(some (.ref 17)),none,(some (.str (nm "cpy313.pstats") 187)),none,(some (.ref 0))]⟩
noncomputable def J22 (P:Params):Obj:=⟨.type "tuple",none,.seq #[] 0,#[]⟩
noncomputable def J23 (P:Params):Obj:=⟨.none,none,.fields #[],#[]⟩
noncomputable def J24 (P:Params):Obj:=⟨.type "tuple",none,.seq #[.str (nm "self") 204,.str (nm "comp_select_list") 205] 0,#[]⟩
noncomputable def J25 (P:Params):Obj:=⟨.type "tuple",none,.seq #[] 0,#[]⟩
noncomputable def J26 (P:Params):Obj:=⟨.none,none,.func {name:=nm "__init__",qualname:=nm "TupleComp.__init__",params:=fnP (mth 0),body:= .stmts (fnB (mth 0)),scope:=fnS (mth 0),globals:=0,closure:=[],defaults:= .none,kwdefaults:= .none,doc:= .none,pyModule:= .none,annotations:=none,code:= .none,closureTuple:= .none,builtins:=0},#[]⟩
noncomputable def J27 (P:Params):Obj:=⟨.type "code",none,.fields #[.str (nm "__init__") 201,.str (nm "TupleComp.__init__") 202,.str (nm "/claim/cut.py") 203,.int 4 0,.int 2 0,.int 0 0,.int 0 0,.int 3 0,.ref 22,.bool true,.int 181 0,.ref 23,.none,.ref 24,.ref 25,.ref 26,.int 206 0,.int 4 0,.str (nm "/claim/cut.py") 207],#[]⟩
noncomputable def VO (P:Params):Obj:=⟨.type "function",none,.func {name:=nm "__init__",qualname:=nm "TupleComp.__init__",params:=fnP (mth 0),body:= .stmts (fnB (mth 0)),scope:=fnS (mth 0),globals:=3,closure:=[],defaults:= .none,kwdefaults:= .none,doc:= .none,pyModule:= .str (nm "cpy313.pstats") 187,annotations:=none,code:= .ref 27,closureTuple:= .none,builtins:=0},#[]⟩
noncomputable def J28 (P:Params):Obj:=⟨.type "tuple",none,.seq #[] 0,#[]⟩
noncomputable def J29 (P:Params):Obj:=⟨.none,none,.fields #[],#[]⟩
noncomputable def J2a (P:Params):Obj:=⟨.type "tuple",none,.seq #[.str (nm "self") 212,.str (nm "left") 213,.str (nm "right") 214,.str (nm "index") 215,.str (nm "direction") 216,.str (nm "l") 217,.str (nm "r") 218] 0,#[]⟩
noncomputable def J2b (P:Params):Obj:=⟨.type "tuple",none,.seq #[] 0,#[]⟩
noncomputable def J2c (P:Params):Obj:=⟨.none,none,.func {name:=nm "compare",qualname:=nm "TupleComp.compare",params:=fnP (mth 1),body:= .stmts (fnB (mth 1)),scope:=fnS (mth 1),globals:=0,closure:=[],defaults:= .none,kwdefaults:= .none,doc:= .none,pyModule:= .none,annotations:=none,code:= .none,closureTuple:= .none,builtins:=0},#[]⟩
noncomputable def J2d (P:Params):Obj:=⟨.type "code",none,.fields #[.str (nm "compare") 209,.str (nm "TupleComp.compare") 210,.str (nm "/claim/cut.py") 211,.int 7 0,.int 3 0,.int 0 0,.int 0 0,.int 3 0,.ref 29,.bool true,.int 181 0,.ref 30,.none,.ref 31,.ref 32,.ref 33,.int 219 0,.int 7 0,.str (nm "/claim/cut.py") 220],#[]⟩
noncomputable def VP (P:Params):Obj:=⟨.type "function",none,.func {name:=nm "compare",qualname:=nm "TupleComp.compare",params:=fnP (mth 1),body:= .stmts (fnB (mth 1)),scope:=fnS (mth 1),globals:=3,closure:=[],defaults:= .none,kwdefaults:= .none,doc:= .none,pyModule:= .str (nm "cpy313.pstats") 187,annotations:=none,code:= .ref 34,closureTuple:= .none,builtins:=0},#[]⟩
noncomputable def J2e (P:Params):Obj:=⟨.type "tuple",none,.seq #[.str (nm "comp_select_list") 222] 0,#[]⟩
noncomputable def J2f (P:Params):Obj:=⟨.type "dict",none,.dict #[kE P (nm "__module__") 196 (.str (nm "cpy313.pstats") 187),kE P (nm "__firstlineno__") 200 (.int 2 199),kE P (nm "__init__") 208 (.ref 28),kE P (nm "compare") 221 (.ref 35),kE P (nm "__static_attributes__") 223 (.ref 36),kE P (nm "__dict__") 225 (.ref 39),kE P (nm "__weakref__") 227 (.ref 40),kE P (nm "__doc__") 228 (.none)] 4,#[]⟩
noncomputable def J2g (P:Params):Obj:=⟨.type "type",none,.cls {name:=nm "TupleComp",bases:=[.type "object"],mro:=[.ref 38,.type "object"],ns:=37,qualname:=nm "TupleComp",hasDict:=true,slotNames:=[],subclasses:=[],abstract:=false,collection:=none,hasDel:=false},#[none,none,(some (.str (nm "TupleComp") 189)),(some (.str (nm "TupleComp") 197)),(some (.builtin "object.__new__")),(some (.bool true))]⟩
noncomputable def J2h (P:Params):Obj:=⟨.type "getset_descriptor",none,.fields #[.str (nm "__dict__") 224,.ref 38,.builtin "function.__dict__",.builtin "function.__dict__#set"],#[]⟩
noncomputable def J2i (P:Params):Obj:=⟨.type "getset_descriptor",none,.fields #[.str (nm "__weakref__") 226,.ref 38,.builtin "ExceptionGroup.__weakref__",.none],#[]⟩
noncomputable def J2j (P:Params):Obj:=⟨.type "super",none,.fields #[.ref 38,.ref 38,.ref 38],#[]⟩
noncomputable def J2k (P:Params):Obj:=⟨.type "builtin_function_or_method",none,.fields #[.builtin "object.__init_subclass__",.ref 38],#[]⟩
noncomputable def J2l (P:Params):Obj:=⟨.type "tuple",none,.seq #[] 0,#[]⟩
noncomputable def J2m (P:Params):Obj:=⟨.none,none,.fields #[],#[]⟩
noncomputable def J2n (P:Params):Obj:=⟨.type "tuple",none,.seq #[.str (nm "target") 234,.str (nm "source") 235,.str (nm "new_callers") 236,.str (nm "func") 237,.str (nm "caller") 238] 0,#[]⟩
noncomputable def J2o (P:Params):Obj:=⟨.type "tuple",none,.seq #[] 0,#[]⟩
noncomputable def J2p (P:Params):Obj:=⟨.none,none,.func {name:=nm "add_callers",qualname:=nm "add_callers",params:=fnP (stm 2),body:= .stmts (fnB (stm 2)),scope:=fnS (stm 2),globals:=0,closure:=[],defaults:= .none,kwdefaults:= .none,doc:= .none,pyModule:= .none,annotations:=none,code:= .none,closureTuple:= .none,builtins:=0},#[]⟩
noncomputable def J2q (P:Params):Obj:=⟨.type "code",none,.fields #[.str (nm "add_callers") 231,.str (nm "add_callers") 232,.str (nm "/claim/cut.py") 233,.int 16 0,.int 2 0,.int 0 0,.int 0 0,.int 3 0,.ref 43,.bool true,.int 181 0,.ref 44,.none,.ref 45,.ref 46,.ref 47,.int 239 0,.int 16 0,.str (nm "/claim/cut.py") 240],#[]⟩
noncomputable def J04 (P:Params):Obj:=⟨.type "function",none,.func {name:=nm "add_callers",qualname:=nm "add_callers",params:=fnP (stm 2),body:= .stmts (fnB (stm 2)),scope:=fnS (stm 2),globals:=3,closure:=[],defaults:= .none,kwdefaults:= .none,doc:= .none,pyModule:= .str (nm "cpy313.pstats") 187,annotations:=none,code:= .ref 48,closureTuple:= .none,builtins:=0},#[]⟩
noncomputable def J2r (P:Params):Obj:=⟨.type "tuple",none,.seq #[] 0,#[]⟩
noncomputable def J2s (P:Params):Obj:=⟨.none,none,.fields #[],#[]⟩
noncomputable def J2t (P:Params):Obj:=⟨.type "tuple",none,.seq #[.str (nm "callers") 245,.str (nm "nc") 246,.str (nm "calls") 247] 0,#[]⟩
noncomputable def J2u (P:Params):Obj:=⟨.type "tuple",none,.seq #[] 0,#[]⟩
noncomputable def J2v (P:Params):Obj:=⟨.none,none,.func {name:=nm "count_calls",qualname:=nm "count_calls",params:=fnP (stm 3),body:= .stmts (fnB (stm 3)),scope:=fnS (stm 3),globals:=0,closure:=[],defaults:= .none,kwdefaults:= .none,doc:= .none,pyModule:= .none,annotations:=none,code:= .none,closureTuple:= .none,builtins:=0},#[]⟩
noncomputable def J2w (P:Params):Obj:=⟨.type "code",none,.fields #[.str (nm "count_calls") 242,.str (nm "count_calls") 243,.str (nm "/claim/cut.py") 244,.int 29 0,.int 1 0,.int 0 0,.int 0 0,.int 3 0,.ref 50,.bool true,.int 181 0,.ref 51,.none,.ref 52,.ref 53,.ref 54,.int 248 0,.int 29 0,.str (nm "/claim/cut.py") 249],#[]⟩
noncomputable def J05 (P:Params):Obj:=⟨.type "function",none,.func {name:=nm "count_calls",qualname:=nm "count_calls",params:=fnP (stm 3),body:= .stmts (fnB (stm 3)),scope:=fnS (stm 3),globals:=3,closure:=[],defaults:= .none,kwdefaults:= .none,doc:= .none,pyModule:= .str (nm "cpy313.pstats") 187,annotations:=none,code:= .ref 55,closureTuple:= .none,builtins:=0},#[]⟩
noncomputable def J2x (P:Params):Obj:=⟨.type "tuple",none,.seq #[] 0,#[]⟩
noncomputable def J2y (P:Params):Obj:=⟨.none,none,.fields #[],#[]⟩
noncomputable def J2z (P:Params):Obj:=⟨.type "tuple",none,.seq #[.str (nm "r") 256,.str (nm "g") 257,.str (nm "b") 258,.str (nm "maxc") 259,.str (nm "minc") 260,.str (nm "sumc") 261,.str (nm "rangec") 262,.str (nm "l") 263,.str (nm "s") 264,.str (nm "rc") 265,.str (nm "gc") 266,.str (nm "bc") 267,.str (nm "h") 268] 0,#[]⟩
noncomputable def J2A (P:Params):Obj:=⟨.type "tuple",none,.seq #[] 0,#[]⟩
noncomputable def J2B (P:Params):Obj:=⟨.none,none,.func {name:=nm "rgb_to_hls",qualname:=nm "rgb_to_hls",params:=fnP (stm 5),body:= .stmts (fnB (stm 5)),scope:=fnS (stm 5),globals:=0,closure:=[],defaults:= .none,kwdefaults:= .none,doc:= .none,pyModule:= .none,annotations:=none,code:= .none,closureTuple:= .none,builtins:=0},#[]⟩
noncomputable def J2C (P:Params):Obj:=⟨.type "code",none,.fields #[.str (nm "rgb_to_hls") 253,.str (nm "rgb_to_hls") 254,.str (nm "/claim/cut.py") 255,.int 35 0,.int 3 0,.int 0 0,.int 0 0,.int 3 0,.ref 57,.bool true,.int 181 0,.ref 58,.none,.ref 59,.ref 60,.ref 61,.int 269 0,.int 35 0,.str (nm "/claim/cut.py") 270],#[]⟩
noncomputable def J06 (P:Params):Obj:=⟨.type "function",none,.func {name:=nm "rgb_to_hls",qualname:=nm "rgb_to_hls",params:=fnP (stm 5),body:= .stmts (fnB (stm 5)),scope:=fnS (stm 5),globals:=3,closure:=[],defaults:= .none,kwdefaults:= .none,doc:= .none,pyModule:= .str (nm "cpy313.colorsys") 251,annotations:=none,code:= .ref 62,closureTuple:= .none,builtins:=0},#[]⟩
noncomputable def J2D (P:Params):Obj:=⟨.type "tuple",none,.seq #[] 0,#[]⟩
noncomputable def J2E (P:Params):Obj:=⟨.none,none,.fields #[],#[]⟩
noncomputable def J2F (P:Params):Obj:=⟨.type "tuple",none,.seq #[.str (nm "r") 275,.str (nm "g") 276,.str (nm "b") 277,.str (nm "maxc") 278,.str (nm "minc") 279,.str (nm "rangec") 280,.str (nm "v") 281,.str (nm "s") 282,.str (nm "rc") 283,.str (nm "gc") 284,.str (nm "bc") 285,.str (nm "h") 286] 0,#[]⟩
noncomputable def J2G (P:Params):Obj:=⟨.type "tuple",none,.seq #[] 0,#[]⟩
noncomputable def J2H (P:Params):Obj:=⟨.none,none,.func {name:=nm "rgb_to_hsv",qualname:=nm "rgb_to_hsv",params:=fnP (stm 6),body:= .stmts (fnB (stm 6)),scope:=fnS (stm 6),globals:=0,closure:=[],defaults:= .none,kwdefaults:= .none,doc:= .none,pyModule:= .none,annotations:=none,code:= .none,closureTuple:= .none,builtins:=0},#[]⟩
noncomputable def J2I (P:Params):Obj:=⟨.type "code",none,.fields #[.str (nm "rgb_to_hsv") 272,.str (nm "rgb_to_hsv") 273,.str (nm "/claim/cut.py") 274,.int 58 0,.int 3 0,.int 0 0,.int 0 0,.int 3 0,.ref 64,.bool true,.int 181 0,.ref 65,.none,.ref 66,.ref 67,.ref 68,.int 287 0,.int 58 0,.str (nm "/claim/cut.py") 288],#[]⟩
noncomputable def J07 (P:Params):Obj:=⟨.type "function",none,.func {name:=nm "rgb_to_hsv",qualname:=nm "rgb_to_hsv",params:=fnP (stm 6),body:= .stmts (fnB (stm 6)),scope:=fnS (stm 6),globals:=3,closure:=[],defaults:= .none,kwdefaults:= .none,doc:= .none,pyModule:= .str (nm "cpy313.colorsys") 251,annotations:=none,code:= .ref 69,closureTuple:= .none,builtins:=0},#[]⟩
noncomputable def J2J (P:Params):Obj:=⟨.type "tuple",none,.seq #[] 0,#[]⟩
noncomputable def J2K (P:Params):Obj:=⟨.none,none,.fields #[],#[]⟩
noncomputable def J2L (P:Params):Obj:=⟨.type "tuple",none,.seq #[.str (nm "h") 293,.str (nm "s") 294,.str (nm "v") 295,.str (nm "i") 296,.str (nm "f") 297,.str (nm "p") 298,.str (nm "q") 299,.str (nm "t") 300] 0,#[]⟩
noncomputable def J2M (P:Params):Obj:=⟨.type "tuple",none,.seq #[] 0,#[]⟩
noncomputable def J2N (P:Params):Obj:=⟨.none,none,.func {name:=nm "hsv_to_rgb",qualname:=nm "hsv_to_rgb",params:=fnP (stm 7),body:= .stmts (fnB (stm 7)),scope:=fnS (stm 7),globals:=0,closure:=[],defaults:= .none,kwdefaults:= .none,doc:= .none,pyModule:= .none,annotations:=none,code:= .none,closureTuple:= .none,builtins:=0},#[]⟩
noncomputable def J2O (P:Params):Obj:=⟨.type "code",none,.fields #[.str (nm "hsv_to_rgb") 290,.str (nm "hsv_to_rgb") 291,.str (nm "/claim/cut.py") 292,.int 77 0,.int 3 0,.int 0 0,.int 0 0,.int 3 0,.ref 71,.bool true,.int 181 0,.ref 72,.none,.ref 73,.ref 74,.ref 75,.int 301 0,.int 77 0,.str (nm "/claim/cut.py") 302],#[]⟩
noncomputable def J08 (P:Params):Obj:=⟨.type "function",none,.func {name:=nm "hsv_to_rgb",qualname:=nm "hsv_to_rgb",params:=fnP (stm 7),body:= .stmts (fnB (stm 7)),scope:=fnS (stm 7),globals:=3,closure:=[],defaults:= .none,kwdefaults:= .none,doc:= .none,pyModule:= .str (nm "cpy313.colorsys") 251,annotations:=none,code:= .ref 76,closureTuple:= .none,builtins:=0},#[]⟩
noncomputable def Jez (P:Params):BT:=(.node (boot_o_0 P) (.node (boot_o_1 P) (.node (JgU P) (.node (boot_o_7 P) (.node (J1V P) (.node (J2a P) (.node (J06 P) .nil .nil) .nil) (.node (J2p P) .nil .nil)) (.node (J23 P) (.node (J2h P) (.node (J2J P) .nil .nil) .nil) (.node (J2w P) .nil .nil))) (.node (J01 P) (.node (J1Z P) (.node (VP P) (.node (J2G P) .nil .nil) .nil) (.node (J2s P) .nil .nil)) (.node (J27 P) (.node (J2l P) (.node (J2N P) .nil .nil) .nil) (.node (J2z P) .nil .nil)))) (.node (boot_o_5 P) (.node (boot_o_9 P) (.node (J1X P) (.node (J2c P) (.node (J2E P) .nil .nil) .nil) (.node (J04 P) .nil .nil)) (.node (J25 P) (.node (J2j P) (.node (J2L P) .nil .nil) .nil) (.node (J2x P) .nil .nil))) (.node (J02 P) (.node (J21 P) (.node (J2f P) (.node (J2I P) .nil .nil) .nil) (.node (J2u P) .nil .nil)) (.node (J28 P) (.node (J2n P) (.node (J08 P) .nil .nil) .nil) (.node (J2B P) .nil .nil))))) (.node (boot_o_2 P) (.node (boot_o_4 P) (.node (boot_o_8 P) (.node (J1W P) (.node (J2b P) (.node (J2D P) .nil .nil) .nil) (.node (J2q P) .nil .nil)) (.node (J24 P) (.node (J2i P) (.node (J2K P) .nil .nil) .nil) (.node (J05 P) .nil .nil))) (.node (Jcw P) (.node (J20 P) (.node (J2e P) (.node (J2H P) .nil .nil) .nil) (.node (J2t P) .nil .nil)) (.node (VO P) (.node (J2m P) (.node (J2O P) .nil .nil) .nil) (.node (J2A P) .nil .nil)))) (.node (boot_o_6 P) (.node (boot_o_10 P) (.node (J1Y P) (.node (J2d P) (.node (J2F P) .nil .nil) .nil) (.node (J2r P) .nil .nil)) (.node (J26 P) (.node (J2k P) (.node (J2M P) .nil .nil) .nil) (.node (J2y P) .nil .nil))) (.node (J03 P) (.node (J22 P) (.node (J2g P) (.node (J07 P) .nil .nil) .nil) (.node (J2v P) .nil .nil)) (.node (J29 P) (.node (J2o P) .nil .nil) (.node (J2C P) .nil .nil))))))
noncomputable def JgV (P:Params):Obj:=⟨.type "dict",none,.dict #[kE P (nm "__name__") 165 (.str (nm "cpy313.stringprep") 304),kE P (nm "__doc__") 166 (.none),kE P (nm "__package__") 167 (.none),kE P (nm "__loader__") 168 (.builtin "__main__.__loader__#opaque"),kE P (nm "__spec__") 169 (.none),kE P (nm "__annotations__") 170 (.ref 6),kE P (nm "__builtins__") 171 (.ref 4),kE P (nm "__file__") 173 (.str (nm "/claim/cut.py") 172),kE P (nm "__cached__") 174 (.none),kE P (nm "TupleComp") 230 (.ref 38),kE P (nm "add_callers") 241 (.ref 49),kE P (nm "count_calls") 250 (.ref 56),kE P (nm "rgb_to_hls") 271 (.ref 63),kE P (nm "rgb_to_hsv") 289 (.ref 70),kE P (nm "hsv_to_rgb") 303 (.ref 77),kE P (nm "b1_set") 365 (.ref 85)] 16,#[]⟩
noncomputable def J5c (P:Params):Obj:=⟨.type "list",none,.seq #[.int 173 306,.int 847 307,.int 6150 308,.int 6155 309,.int 6156 310,.int 6157 311,.int 8203 312,.int 8204 313,.int 8205 314,.int 8288 315,.int 65279 316] 0,#[]⟩
noncomputable def J5d (P:Params):Obj:=⟨.type "range",none,.fields #[.int 65024 317,.int 65040 318,.int 1 319],#[]⟩
noncomputable def J5e (P:Params):Obj:=⟨.type "list",none,.seq #[.int 65024 322,.int 65025 323,.int 65026 324,.int 65027 325,.int 65028 326,.int 65029 327,.int 65030 328,.int 65031 329,.int 65032 330,.int 65033 331,.int 65034 332,.int 65035 333,.int 65036 334,.int 65037 335,.int 65038 336,.int 65039 337] 18,#[]⟩
noncomputable def J5f (P:Params):Obj:=⟨.type "range_iterator",none,.fields #[.int 65040 0,.int 0 0,.int 1 0],#[]⟩
noncomputable def J5g (P:Params):Obj:=⟨.type "tuple",none,.seq #[] 0,#[]⟩
noncomputable def J5h (P:Params):Obj:=⟨.type "StopIteration",none,.fields #[.ref 82,.none,.none,.none,.bool false,.none],#[]⟩
noncomputable def J5i (P:Params):Obj:=⟨.type "list",none,.seq #[.int 173 306,.int 847 307,.int 6150 308,.int 6155 309,.int 6156 310,.int 6157 311,.int 8203 312,.int 8204 313,.int 8205 314,.int 8288 315,.int 65279 316,.int 65024 322,.int 65025 323,.int 65026 324,.int 65027 325,.int 65028 326,.int 65029 327,.int 65030 328,.int 65031 329,.int 65032 330,.int 65033 331,.int 65034 332,.int 65035 333,.int 65036 334,.int 65037 335,.int 65038 336,.int 65039 337] 0,#[]⟩
noncomputable def VQ (P:Params):Obj:=⟨.type "set",none,.set #[(65024,.int 65024 322),(65025,.int 65025 323),(65026,.int 65026 324),(65027,.int 65027 325),(65028,.int 65028 326),(65029,.int 65029 327),(6150,.int 6150 308),(65030,.int 65030 328),(65031,.int 65031 329),(65032,.int 65032 330),(65033,.int 65033 331),(6155,.int 6155 309),(6156,.int 6156 310),(6157,.int 6157 311),(8203,.int 8203 312),(8204,.int 8204 313),(8205,.int 8205 314),(65034,.int 65034 332),(65035,.int 65035 333),(65036,.int 65036 334),(65037,.int 65037 335),(65038,.int 65038 336),(65039,.int 65039 337),(173,.int 173 306),(847,.int 847 307),(8288,.int 8288 315),(65279,.int 65279 316)] 29 ⟨127,#[0,1,2,3,4,5,6,7,8,9,10,11,12,13,14,15,16,17,18,19,20,21,22,45,79,96,127],#[],0,!(P.followText "set-order"),2,true⟩,#[]⟩
noncomputable def J5j (P:Params):Obj:=⟨.type "list_iterator",none,.fields #[.none,.int 27 0],#[]⟩
noncomputable def J5k (P:Params):Obj:=⟨.type "tuple",none,.seq #[] 0,#[]⟩
noncomputable def J5l (P:Params):Obj:=⟨.type "StopIteration",none,.fields #[.ref 87,.none,.none,.none,.bool false,.none],#[]⟩
noncomputable def JeA (P:Params):BT:=(.node (boot_o_0 P) (.node (boot_o_1 P) (.node (JgV P) (.node (boot_o_7 P) (.node (J1V P) (.node (J2a P) (.node (J06 P) .nil .nil) .nil) (.node (J2p P) (.node (J5d P) .nil .nil) .nil)) (.node (J23 P) (.node (J2h P) (.node (J2J P) .nil .nil) .nil) (.node (J2w P) (.node (J5k P) .nil .nil) .nil))) (.node (J01 P) (.node (J1Z P) (.node (VP P) (.node (J2G P) .nil .nil) .nil) (.node (J2s P) (.node (J5h P) .nil .nil) .nil)) (.node (J27 P) (.node (J2l P) (.node (J2N P) .nil .nil) .nil) (.node (J2z P) .nil .nil)))) (.node (boot_o_5 P) (.node (boot_o_9 P) (.node (J1X P) (.node (J2c P) (.node (J2E P) .nil .nil) .nil) (.node (J04 P) (.node (J5f P) .nil .nil) .nil)) (.node (J25 P) (.node (J2j P) (.node (J2L P) .nil .nil) .nil) (.node (J2x P) .nil .nil))) (.node (J02 P) (.node (J21 P) (.node (J2f P) (.node (J2I P) .nil .nil) .nil) (.node (J2u P) (.node (VQ P) .nil .nil) .nil)) (.node (J28 P) (.node (J2n P) (.node (J08 P) .nil .nil) .nil) (.node (J2B P) .nil .nil))))) (.node (boot_o_2 P) (.node (boot_o_4 P) (.node (boot_o_8 P) (.node (J1W P) (.node (J2b P) (.node (J2D P) .nil .nil) .nil) (.node (J2q P) (.node (J5e P) .nil .nil) .nil)) (.node (J24 P) (.node (J2i P) (.node (J2K P) .nil .nil) .nil) (.node (J05 P) (.node (J5l P) .nil .nil) .nil))) (.node (Jcw P) (.node (J20 P) (.node (J2e P) (.node (J2H P) .nil .nil) .nil) (.node (J2t P) (.node (J5i P) .nil .nil) .nil)) (.node (VO P) (.node (J2m P) (.node (J2O P) .nil .nil) .nil) (.node (J2A P) .nil .nil)))) (.node (boot_o_6 P) (.node (boot_o_10 P) (.node (J1Y P) (.node (J2d P) (.node (J2F P) .nil .nil) .nil) (.node (J2r P) (.node (J5g P) .nil .nil) .nil)) (.node (J26 P) (.node (J2k P) (.node (J2M P) .nil .nil) .nil) (.node (J2y P) .nil .nil))) (.node (J03 P) (.node (J22 P) (.node (J2g P) (.node (J07 P) .nil .nil) .nil) (.node (J2v P) (.node (J5j P) .nil .nil) .nil)) (.node (J29 P) (.node (J2o P) (.node (J5c P) .nil .nil) .nil) (.node (J2C P) .nil .nil))))))
noncomputable def Jfz (P:Params):Obj:=⟨.type "dict",none,.dict #[kE P (nm "__name__") 165 (.str (nm "cpy313.stringprep") 304),kE P (nm "__doc__") 166 (.none),kE P (nm "__package__") 167 (.none),kE P (nm "__loader__") 168 (.builtin "__main__.__loader__#opaque"),kE P (nm "__spec__") 169 (.none),kE P (nm "__annotations__") 170 (.ref 6),kE P (nm "__builtins__") 171 (.ref 4),kE P (nm "__file__") 173 (.str (nm "/claim/cut.py") 172),kE P (nm "__cached__") 174 (.none),kE P (nm "TupleComp") 230 (.ref 38),kE P (nm "add_callers") 241 (.ref 49),kE P (nm "count_calls") 250 (.ref 56),kE P (nm "rgb_to_hls") 271 (.ref 63),kE P (nm "rgb_to_hsv") 289 (.ref 70),kE P (nm "hsv_to_rgb") 303 (.ref 77),kE P (nm "b1_set") 365 (.ref 85),kE P (nm "in_table_b1") 372 (.ref 95)] 17,#[]⟩
noncomputable def J8K (P:Params):Obj:=⟨.none,none,.fields #[.int 2 0,.int 0 0,.ref 20,.int 16 0,.int 0 0,.ref 48,.int 29 0,.int 0 0,.ref 55,.int 35 0,.int 0 0,.ref 62,.int 58 0,.int 0 0,.ref 69,.int 77 0,.int 0 0,.ref 76,.int 100 0,.int 0 0,.ref 94],#[]⟩
noncomputable def J4i (P:Params):Obj:=⟨.type "tuple",none,.seq #[] 0,#[]⟩
noncomputable def J4j (P:Params):Obj:=⟨.none,none,.fields #[],#[]⟩
noncomputable def J4k (P:Params):Obj:=⟨.type "tuple",none,.seq #[.str (nm "code") 369] 0,#[]⟩
noncomputable def J4l (P:Params):Obj:=⟨.type "tuple",none,.seq #[] 0,#[]⟩
noncomputable def J4m (P:Params):Obj:=⟨.none,none,.func {name:=nm "in_table_b1",qualname:=nm "in_table_b1",params:=fnP (stm 10),body:= .stmts (fnB (stm 10)),scope:=fnS (stm 10),globals:=0,closure:=[],defaults:= .none,kwdefaults:= .none,doc:= .none,pyModule:= .none,annotations:=none,code:= .none,closureTuple:= .none,builtins:=0},#[]⟩
noncomputable def J4n (P:Params):Obj:=⟨.type "code",none,.fields #[.str (nm "in_table_b1") 366,.str (nm "in_table_b1") 367,.str (nm "/claim/cut.py") 368,.int 100 0,.int 1 0,.int 0 0,.int 0 0,.int 3 0,.ref 89,.bool true,.int 181 0,.ref 90,.none,.ref 91,.ref 92,.ref 93,.int 370 0,.int 100 0,.str (nm "/claim/cut.py") 371],#[]⟩
noncomputable def J0N (P:Params):Obj:=⟨.type "function",none,.func {name:=nm "in_table_b1",qualname:=nm "in_table_b1",params:=fnP (stm 10),body:= .stmts (fnB (stm 10)),scope:=fnS (stm 10),globals:=3,closure:=[],defaults:= .none,kwdefaults:= .none,doc:= .none,pyModule:= .str (nm "cpy313.stringprep") 304,annotations:=none,code:= .ref 94,closureTuple:= .none,builtins:=0},#[]⟩
noncomputable def J4z (P:Params):BT:=(.node (boot_o_0 P) (.node (boot_o_1 P) (.node (Jfz P) (.node (boot_o_7 P) (.node (J1V P) (.node (J2a P) (.node (J06 P) .nil .nil) (.node (J0N P) .nil .nil)) (.node (J2p P) (.node (J5d P) .nil .nil) .nil)) (.node (J23 P) (.node (J2h P) (.node (J2J P) .nil .nil) .nil) (.node (J2w P) (.node (J5k P) .nil .nil) .nil))) (.node (J01 P) (.node (J1Z P) (.node (VP P) (.node (J2G P) .nil .nil) .nil) (.node (J2s P) (.node (J5h P) .nil .nil) .nil)) (.node (J27 P) (.node (J2l P) (.node (J2N P) .nil .nil) .nil) (.node (J2z P) (.node (J4k P) .nil .nil) .nil)))) (.node (boot_o_5 P) (.node (boot_o_9 P) (.node (J1X P) (.node (J2c P) (.node (J2E P) .nil .nil) .nil) (.node (J04 P) (.node (J5f P) .nil .nil) .nil)) (.node (J25 P) (.node (J2j P) (.node (J2L P) .nil .nil) .nil) (.node (J2x P) (.node (J4i P) .nil .nil) .nil))) (.node (J02 P) (.node (J21 P) (.node (J2f P) (.node (J2I P) .nil .nil) .nil) (.node (J2u P) (.node (VQ P) .nil .nil) .nil)) (.node (J28 P) (.node (J2n P) (.node (J08 P) .nil .nil) .nil) (.node (J2B P) (.node (J4m P) .nil .nil) .nil))))) (.node (boot_o_2 P) (.node (boot_o_4 P) (.node (boot_o_8 P) (.node (J1W P) (.node (J2b P) (.node (J2D P) .nil .nil) .nil) (.node (J2q P) (.node (J5e P) .nil .nil) .nil)) (.node (J24 P) (.node (J2i P) (.node (J2K P) .nil .nil) .nil) (.node (J05 P) (.node (J5l P) .nil .nil) .nil))) (.node (J8K P) (.node (J20 P) (.node (J2e P) (.node (J2H P) .nil .nil) .nil) (.node (J2t P) (.node (J5i P) .nil .nil) .nil)) (.node (VO P) (.node (J2m P) (.node (J2O P) .nil .nil) .nil) (.node (J2A P) (.node (J4l P) .nil .nil) .nil)))) (.node (boot_o_6 P) (.node (boot_o_10 P) (.node (J1Y P) (.node (J2d P) (.node (J2F P) .nil .nil) .nil) (.node (J2r P) (.node (J5g P) .nil .nil) .nil)) (.node (J26 P) (.node (J2k P) (.node (J2M P) .nil .nil) .nil) (.node (J2y P) (.node (J4j P) .nil .nil) .nil))) (.node (J03 P) (.node (J22 P) (.node (J2g P) (.node (J07 P) .nil .nil) .nil) (.node (J2v P) (.node (J5j P) .nil .nil) .nil)) (.node (J29 P) (.node (J2o P) (.node (J5c P) .nil .nil) .nil) (.node (J2C P) (.node (J4n P) .nil .nil) .nil))))))
noncomputable def JfA (P:Params):Obj:=⟨.type "dict",none,.dict #[kE P (nm "__name__") 165 (.str (nm "cpy313.stringprep") 304),kE P (nm "__doc__") 166 (.none),kE P (nm "__package__") 167 (.none),kE P (nm "__loader__") 168 (.builtin "__main__.__loader__#opaque"),kE P (nm "__spec__") 169 (.none),kE P (nm "__annotations__") 170 (.ref 6),kE P (nm "__builtins__") 171 (.ref 4),kE P (nm "__file__") 173 (.str (nm "/claim/cut.py") 172),kE P (nm "__cached__") 174 (.none),kE P (nm "TupleComp") 230 (.ref 38),kE P (nm "add_callers") 241 (.ref 49),kE P (nm "count_calls") 250 (.ref 56),kE P (nm "rgb_to_hls") 271 (.ref 63),kE P (nm "rgb_to_hsv") 289 (.ref 70),kE P (nm "hsv_to_rgb") 303 (.ref 77),kE P (nm "b1_set") 365 (.ref 85),kE P (nm "in_table_b1") 372 (.ref 95),kE P (nm "b3_exceptions") 2323 (.ref 96)] 18,#[]⟩
noncomputable def JfW (P:Params) (X:Nat ->Obj):BT:=(.node (boot_o_0 P) (.node (boot_o_1 P) (.node (JfA P) (.node (boot_o_7 P) (.node (J1V P) (.node (J2a P) (.node (J06 P) (.node (X 127) .nil .nil) .nil) (.node (J0N P) .nil .nil)) (.node (J2p P) (.node (J5d P) .nil .nil) (.node (X 111) .nil .nil))) (.node (J23 P) (.node (J2h P) (.node (J2J P) .nil .nil) (.node (X 103) .nil .nil)) (.node (J2w P) (.node (J5k P) .nil .nil) (.node (X 119) .nil .nil)))) (.node (J01 P) (.node (J1Z P) (.node (VP P) (.node (J2G P) (.node (X 131) .nil .nil) .nil) (.node (X 99) .nil .nil)) (.node (J2s P) (.node (J5h P) .nil .nil) (.node (X 115) .nil .nil))) (.node (J27 P) (.node (J2l P) (.node (J2N P) .nil .nil) (.node (X 107) .nil .nil)) (.node (J2z P) (.node (J4k P) .nil .nil) (.node (X 123) .nil .nil))))) (.node (boot_o_5 P) (.node (boot_o_9 P) (.node (J1X P) (.node (J2c P) (.node (J2E P) (.node (X 129) .nil .nil) .nil) (.node (X 97) .nil .nil)) (.node (J04 P) (.node (J5f P) .nil .nil) (.node (X 113) .nil .nil))) (.node (J25 P) (.node (J2j P) (.node (J2L P) .nil .nil) (.node (X 105) .nil .nil)) (.node (J2x P) (.node (J4i P) .nil .nil) (.node (X 121) .nil .nil)))) (.node (J02 P) (.node (J21 P) (.node (J2f P) (.node (J2I P) (.node (X 133) .nil .nil) .nil) (.node (X 101) .nil .nil)) (.node (J2u P) (.node (VQ P) .nil .nil) (.node (X 117) .nil .nil))) (.node (J28 P) (.node (J2n P) (.node (J08 P) .nil .nil) (.node (X 109) .nil .nil)) (.node (J2B P) (.node (J4m P) .nil .nil) (.node (X 125) .nil .nil)))))) (.node (boot_o_2 P) (.node (boot_o_4 P) (.node (boot_o_8 P) (.node (J1W P) (.node (J2b P) (.node (J2D P) (.node (X 128) .nil .nil) .nil) (.node (X 96) .nil .nil)) (.node (J2q P) (.node (J5e P) .nil .nil) (.node (X 112) .nil .nil))) (.node (J24 P) (.node (J2i P) (.node (J2K P) .nil .nil) (.node (X 104) .nil .nil)) (.node (J05 P) (.node (J5l P) .nil .nil) (.node (X 120) .nil .nil)))) (.node (J8K P) (.node (J20 P) (.node (J2e P) (.node (J2H P) (.node (X 132) .nil .nil) .nil) (.node (X 100) .nil .nil)) (.node (J2t P) (.node (J5i P) .nil .nil) (.node (X 116) .nil .nil))) (.node (VO P) (.node (J2m P) (.node (J2O P) .nil .nil) (.node (X 108) .nil .nil)) (.node (J2A P) (.node (J4l P) .nil .nil) (.node (X 124) .nil .nil))))) (.node (boot_o_6 P) (.node (boot_o_10 P) (.node (J1Y P) (.node (J2d P) (.node (J2F P) (.node (X 130) .nil .nil) .nil) (.node (X 98) .nil .nil)) (.node (J2r P) (.node (J5g P) .nil .nil) (.node (X 114) .nil .nil))) (.node (J26 P) (.node (J2k P) (.node (J2M P) .nil .nil) (.node (X 106) .nil .nil)) (.node (J2y P) (.node (J4j P) .nil .nil) (.node (X 122) .nil .nil)))) (.node (J03 P) (.node (J22 P) (.node (J2g P) (.node (J07 P) (.node (X 134) .nil .nil) .nil) (.node (X 102) .nil .nil)) (.node (J2v P) (.node (J5j P) .nil .nil) (.node (X 118) .nil .nil))) (.node (J29 P) (.node (J2o P) (.node (J5c P) .nil .nil) (.node (X 110) .nil .nil)) (.node (J2C P) (.node (J4n P) .nil .nil) (.node (X 126) .nil .nil)))))))
noncomputable def JfB (P:Params):Obj:=⟨.type "dict",none,.dict #[kE P (nm "__name__") 165 (.str (nm "law_xh0043_01") 2332),kE P (nm "__doc__") 166 (.none),kE P (nm "__package__") 167 (.none),kE P (nm "__loader__") 168 (.builtin "__main__.__loader__#opaque"),kE P (nm "__spec__") 169 (.none),kE P (nm "__annotations__") 170 (.ref 6),kE P (nm "__builtins__") 171 (.ref 4),kE P (nm "__file__") 173 (.str (nm "/claim/cut.py") 172),kE P (nm "__cached__") 174 (.none),kE P (nm "TupleComp") 230 (.ref 38),kE P (nm "add_callers") 241 (.ref 49),kE P (nm "count_calls") 250 (.ref 56),kE P (nm "rgb_to_hls") 271 (.ref 63),kE P (nm "rgb_to_hsv") 289 (.ref 70),kE P (nm "hsv_to_rgb") 303 (.ref 77),kE P (nm "b1_set") 365 (.ref 85),kE P (nm "in_table_b1") 372 (.ref 95),kE P (nm "b3_exceptions") 2323 (.ref 96),kE P (nm "map_table_b3") 2331 (.ref 141),kE P (nm "_law_typed") 2348 (.ref 148),kE P (nm "_law_paints") 2354 (.ref 153),kE P (nm "_law_round") 2360 (.ref 158),kE P (nm "law") 2366 (.ref 163)] 23,#[]⟩
noncomputable def JdU (P:Params):Obj:=⟨.none,none,.fields #[.int 2 0,.int 0 0,.ref 20,.int 16 0,.int 0 0,.ref 48,.int 29 0,.int 0 0,.ref 55,.int 35 0,.int 0 0,.ref 62,.int 58 0,.int 0 0,.ref 69,.int 77 0,.int 0 0,.ref 76,.int 100 0,.int 0 0,.ref 94,.int 103 0,.int 0 0,.ref 140,.int 109 0,.int 0 0,.ref 147,.int 123 0,.int 0 0,.ref 152,.int 140 0,.int 0 0,.ref 157,.int 142 0,.int 0 0,.ref 162],#[]⟩
noncomputable def Jbe (P:Params):Obj:=⟨.type "tuple",none,.seq #[] 0,#[]⟩
noncomputable def Jbf (P:Params):Obj:=⟨.none,none,.fields #[],#[]⟩
noncomputable def Jbg (P:Params):Obj:=⟨.type "tuple",none,.seq #[.str (nm "code") 2327,.str (nm "r") 2328] 0,#[]⟩
noncomputable def Jbh (P:Params):Obj:=⟨.type "tuple",none,.seq #[] 0,#[]⟩
noncomputable def Jbi (P:Params):Obj:=⟨.none,none,.func {name:=nm "map_table_b3",qualname:=nm "map_table_b3",params:=fnP (stm 12),body:= .stmts (fnB (stm 12)),scope:=fnS (stm 12),globals:=0,closure:=[],defaults:= .none,kwdefaults:= .none,doc:= .none,pyModule:= .none,annotations:=none,code:= .none,closureTuple:= .none,builtins:=0},#[]⟩
noncomputable def Jbj (P:Params):Obj:=⟨.type "code",none,.fields #[.str (nm "map_table_b3") 2324,.str (nm "map_table_b3") 2325,.str (nm "/claim/cut.py") 2326,.int 103 0,.int 1 0,.int 0 0,.int 0 0,.int 3 0,.ref 135,.bool true,.int 181 0,.ref 136,.none,.ref 137,.ref 138,.ref 139,.int 2329 0,.int 103 0,.str (nm "/claim/cut.py") 2330],#[]⟩
noncomputable def J57 (P:Params):Obj:=⟨.type "function",none,.func {name:=nm "map_table_b3",qualname:=nm "map_table_b3",params:=fnP (stm 12),body:= .stmts (fnB (stm 12)),scope:=fnS (stm 12),globals:=3,closure:=[],defaults:= .none,kwdefaults:= .none,doc:= .none,pyModule:= .str (nm "cpy313.stringprep") 304,annotations:=none,code:= .ref 140,closureTuple:= .none,builtins:=0},#[]⟩
noncomputable def Jbk (P:Params):Obj:=⟨.type "tuple",none,.seq #[] 0,#[]⟩
noncomputable def Jbl (P:Params):Obj:=⟨.none,none,.fields #[],#[]⟩
noncomputable def Jbm (P:Params):Obj:=⟨.type "tuple",none,.seq #[.str (nm "word") 2337,.str (nm "style") 2338,.str (nm "unseen") 2339,.str (nm "bases") 2340,.str (nm "other") 2341,.str (nm "typed") 2342,.str (nm "place") 2343,.str (nm "sign") 2344,.str (nm "kind") 2345] 0,#[]⟩
noncomputable def Jbn (P:Params):Obj:=⟨.type "tuple",none,.seq #[] 0,#[]⟩
noncomputable def Jbo (P:Params):Obj:=⟨.none,none,.func {name:=nm "_law_typed",qualname:=nm "_law_typed",params:=fnP (stm 14),body:= .stmts (fnB (stm 14)),scope:=fnS (stm 14),globals:=0,closure:=[],defaults:= .none,kwdefaults:= .none,doc:= .none,pyModule:= .none,annotations:=none,code:= .none,closureTuple:= .none,builtins:=0},#[]⟩
noncomputable def Jbp (P:Params):Obj:=⟨.type "code",none,.fields #[.str (nm "_law_typed") 2334,.str (nm "_law_typed") 2335,.str (nm "/claim/cut.py") 2336,.int 109 0,.int 2 0,.int 0 0,.int 0 0,.int 3 0,.ref 142,.bool true,.int 181 0,.ref 143,.none,.ref 144,.ref 145,.ref 146,.int 2346 0,.int 109 0,.str (nm "/claim/cut.py") 2347],#[]⟩
noncomputable def J58 (P:Params):Obj:=⟨.type "function",none,.func {name:=nm "_law_typed",qualname:=nm "_law_typed",params:=fnP (stm 14),body:= .stmts (fnB (stm 14)),scope:=fnS (stm 14),globals:=3,closure:=[],defaults:= .none,kwdefaults:= .none,doc:= .none,pyModule:= .str (nm "law_xh0043_01") 2332,annotations:=none,code:= .ref 147,closureTuple:= .none,builtins:=0},#[]⟩
noncomputable def Jbq (P:Params):Obj:=⟨.type "tuple",none,.seq #[] 0,#[]⟩
noncomputable def Jbr (P:Params):Obj:=⟨.none,none,.fields #[],#[]⟩
noncomputable def Jbs (P:Params):Obj:=⟨.none,none,.func {name:=nm "_law_paints",qualname:=nm "_law_paints",params:=fnP (stm 15),body:= .stmts (fnB (stm 15)),scope:=fnS (stm 15),globals:=0,closure:=[],defaults:= .none,kwdefaults:= .none,doc:= .none,pyModule:= .none,annotations:=none,code:= .none,closureTuple:= .none,builtins:=0},#[]⟩
noncomputable def Jbt (P:Params):Obj:=⟨.type "code",none,.fields #[.str (nm "_law_paints") 2349,.str (nm "_law_paints") 2350,.str (nm "/claim/cut.py") 2351,.int 123 0,.int 3 0,.int 0 0,.int 0 0,.int 3 0,.ref 149,.bool true,.int 181 0,.ref 150,.none,.none,.none,.ref 151,.int 2352 0,.int 123 0,.str (nm "/claim/cut.py") 2353],#[]⟩
noncomputable def J59 (P:Params):Obj:=⟨.type "function",none,.func {name:=nm "_law_paints",qualname:=nm "_law_paints",params:=fnP (stm 15),body:= .stmts (fnB (stm 15)),scope:=fnS (stm 15),globals:=3,closure:=[],defaults:= .none,kwdefaults:= .none,doc:= .none,pyModule:= .str (nm "law_xh0043_01") 2332,annotations:=none,code:= .ref 152,closureTuple:= .none,builtins:=0},#[]⟩
noncomputable def Jbu (P:Params):Obj:=⟨.type "tuple",none,.seq #[] 0,#[]⟩
noncomputable def Jbv (P:Params):Obj:=⟨.none,none,.fields #[],#[]⟩
noncomputable def Jbw (P:Params):Obj:=⟨.none,none,.func {name:=nm "_law_round",qualname:=nm "_law_round",params:=fnP (stm 16),body:= .stmts (fnB (stm 16)),scope:=fnS (stm 16),globals:=0,closure:=[],defaults:= .none,kwdefaults:= .none,doc:= .none,pyModule:= .none,annotations:=none,code:= .none,closureTuple:= .none,builtins:=0},#[]⟩
noncomputable def Jbx (P:Params):Obj:=⟨.type "code",none,.fields #[.str (nm "_law_round") 2355,.str (nm "_law_round") 2356,.str (nm "/claim/cut.py") 2357,.int 140 0,.int 2 0,.int 0 0,.int 0 0,.int 3 0,.ref 154,.bool true,.int 181 0,.ref 155,.none,.none,.none,.ref 156,.int 2358 0,.int 140 0,.str (nm "/claim/cut.py") 2359],#[]⟩
noncomputable def J5a (P:Params):Obj:=⟨.type "function",none,.func {name:=nm "_law_round",qualname:=nm "_law_round",params:=fnP (stm 16),body:= .stmts (fnB (stm 16)),scope:=fnS (stm 16),globals:=3,closure:=[],defaults:= .none,kwdefaults:= .none,doc:= .none,pyModule:= .str (nm "law_xh0043_01") 2332,annotations:=none,code:= .ref 157,closureTuple:= .none,builtins:=0},#[]⟩
noncomputable def Jby (P:Params):Obj:=⟨.type "tuple",none,.seq #[] 0,#[]⟩
noncomputable def Jbz (P:Params):Obj:=⟨.none,none,.fields #[],#[]⟩
noncomputable def JbA (P:Params):Obj:=⟨.none,none,.func {name:=nm "law",qualname:=nm "law",params:=fnP (stm 17),body:= .stmts (fnB (stm 17)),scope:=fnS (stm 17),globals:=0,closure:=[],defaults:= .none,kwdefaults:= .none,doc:= .none,pyModule:= .none,annotations:=none,code:= .none,closureTuple:= .none,builtins:=0},#[]⟩
noncomputable def JbB (P:Params):Obj:=⟨.type "code",none,.fields #[.str (nm "law") 2361,.str (nm "law") 2362,.str (nm "/claim/cut.py") 2363,.int 142 0,.int 1 0,.int 0 0,.int 0 0,.int 3 0,.ref 159,.bool true,.int 181 0,.ref 160,.none,.none,.none,.ref 161,.int 2364 0,.int 142 0,.str (nm "/claim/cut.py") 2365],#[]⟩
noncomputable def J5b (P:Params):Obj:=⟨.type "function",none,.func {name:=nm "law",qualname:=nm "law",params:=fnP (stm 17),body:= .stmts (fnB (stm 17)),scope:=fnS (stm 17),globals:=3,closure:=[],defaults:= .none,kwdefaults:= .none,doc:= .none,pyModule:= .str (nm "law_xh0043_01") 2332,annotations:=none,code:= .ref 162,closureTuple:= .none,builtins:=0},#[]⟩
noncomputable def J9s (P:Params) (X:Nat ->Obj):BT:=(.node (boot_o_0 P) (.node (boot_o_1 P) (.node (JfB P) (.node (boot_o_7 P) (.node (J1V P) (.node (J2a P) (.node (J06 P) (.node (X 127) .nil .nil) .nil) (.node (J0N P) (.node (Jby P) .nil .nil) .nil)) (.node (J2p P) (.node (J5d P) (.node (Jbl P) .nil .nil) .nil) (.node (X 111) .nil .nil))) (.node (J23 P) (.node (J2h P) (.node (J2J P) (.node (Jbe P) .nil .nil) .nil) (.node (X 103) .nil .nil)) (.node (J2w P) (.node (J5k P) (.node (Jbs P) .nil .nil) .nil) (.node (X 119) .nil .nil)))) (.node (J01 P) (.node (J1Z P) (.node (VP P) (.node (J2G P) (.node (X 131) .nil .nil) .nil) (.node (X 99) (.node (J5b P) .nil .nil) .nil)) (.node (J2s P) (.node (J5h P) (.node (Jbp P) .nil .nil) .nil) (.node (X 115) .nil .nil))) (.node (J27 P) (.node (J2l P) (.node (J2N P) (.node (Jbi P) .nil .nil) .nil) (.node (X 107) .nil .nil)) (.node (J2z P) (.node (J4k P) (.node (Jbv P) .nil .nil) .nil) (.node (X 123) .nil .nil))))) (.node (boot_o_5 P) (.node (boot_o_9 P) (.node (J1X P) (.node (J2c P) (.node (J2E P) (.node (X 129) .nil .nil) .nil) (.node (X 97) (.node (JbA P) .nil .nil) .nil)) (.node (J04 P) (.node (J5f P) (.node (Jbn P) .nil .nil) .nil) (.node (X 113) .nil .nil))) (.node (J25 P) (.node (J2j P) (.node (J2L P) (.node (Jbg P) .nil .nil) .nil) (.node (X 105) .nil .nil)) (.node (J2x P) (.node (J4i P) (.node (J59 P) .nil .nil) .nil) (.node (X 121) .nil .nil)))) (.node (J02 P) (.node (J21 P) (.node (J2f P) (.node (J2I P) (.node (X 133) .nil .nil) .nil) (.node (X 101) .nil .nil)) (.node (J2u P) (.node (VQ P) (.node (Jbq P) .nil .nil) .nil) (.node (X 117) .nil .nil))) (.node (J28 P) (.node (J2n P) (.node (J08 P) (.node (J57 P) .nil .nil) .nil) (.node (X 109) .nil .nil)) (.node (J2B P) (.node (J4m P) (.node (Jbx P) .nil .nil) .nil) (.node (X 125) .nil .nil)))))) (.node (boot_o_2 P) (.node (boot_o_4 P) (.node (boot_o_8 P) (.node (J1W P) (.node (J2b P) (.node (J2D P) (.node (X 128) .nil .nil) .nil) (.node (X 96) (.node (Jbz P) .nil .nil) .nil)) (.node (J2q P) (.node (J5e P) (.node (Jbm P) .nil .nil) .nil) (.node (X 112) .nil .nil))) (.node (J24 P) (.node (J2i P) (.node (J2K P) (.node (Jbf P) .nil .nil) .nil) (.node (X 104) .nil .nil)) (.node (J05 P) (.node (J5l P) (.node (Jbt P) .nil .nil) .nil) (.node (X 120) .nil .nil)))) (.node (JdU P) (.node (J20 P) (.node (J2e P) (.node (J2H P) (.node (X 132) .nil .nil) .nil) (.node (X 100) .nil .nil)) (.node (J2t P) (.node (J5i P) (.node (J58 P) .nil .nil) .nil) (.node (X 116) .nil .nil))) (.node (VO P) (.node (J2m P) (.node (J2O P) (.node (Jbj P) .nil .nil) .nil) (.node (X 108) .nil .nil)) (.node (J2A P) (.node (J4l P) (.node (Jbw P) .nil .nil) .nil) (.node (X 124) .nil .nil))))) (.node (boot_o_6 P) (.node (boot_o_10 P) (.node (J1Y P) (.node (J2d P) (.node (J2F P) (.node (X 130) .nil .nil) .nil) (.node (X 98) (.node (JbB P) .nil .nil) .nil)) (.node (J2r P) (.node (J5g P) (.node (Jbo P) .nil .nil) .nil) (.node (X 114) .nil .nil))) (.node (J26 P) (.node (J2k P) (.node (J2M P) (.node (Jbh P) .nil .nil) .nil) (.node (X 106) .nil .nil)) (.node (J2y P) (.node (J4j P) (.node (Jbu P) .nil .nil) .nil) (.node (X 122) .nil .nil)))) (.node (J03 P) (.node (J22 P) (.node (J2g P) (.node (J07 P) (.node (X 134) .nil .nil) .nil) (.node (X 102) .nil .nil)) (.node (J2v P) (.node (J5j P) (.node (Jbr P) .nil .nil) .nil) (.node (X 118) .nil .nil))) (.node (J29 P) (.node (J2o P) (.node (J5c P) (.node (Jbk P) .nil .nil) .nil) (.node (X 110) .nil .nil)) (.node (J2C P) (.node (J4n P) (.node (J5a P) .nil .nil) .nil) (.node (X 126) .nil .nil)))))))
noncomputable abbrev Zq:Env:={scope:=pw.main.scope,locals:=mainNs,globals:=mainNs,cells:=[],code:= .ref 13,frame:=some 14}
noncomputable abbrev JC:Code:=Code.body (behindTheImports pw) Zq
noncomputable abbrev J10:Option Value:=some (.ref 6)
noncomputable abbrev q0:Pos:=⟨0,0,0,0⟩
noncomputable abbrev stT (t:BT) (n k:Nat) (os:OsState):SharedT:=⟨t,n,{},#[],⟨0,0,0,0⟩,k,os⟩
theorem JfE (w:World) (os:OsState):topGo treeTable pw w 11 J10 12 ⟨boot_heap w.params,Array.mk [],boot_drawn,boot_toks,os⟩ (topStub pw)=some ((stT (Jgc w.params) 15 187 os).abs,⟨denote treeTable JC,JC,q0,[topFrame q0]⟩):=by kernel_rfl
theorem JbD (w:World) (os:OsState):segRun treeTable pw w 11 J10 1 1 (stT (Jgc w.params) 15 187 os).abs (blockOf (behindTheImports pw) Zq JC q0 [topFrame q0])=some (.next,(stT (Jgc w.params) 15 187 os).abs,JC,q0):=by kernel_rfl
theorem JbE:behindTheImports pw=[stm 0,stm 1,stm 2,stm 3,stm 4,stm 5,stm 6,stm 7,stm 8]++([stm 9]++([stm 10]++stm 11::([stm 12,stm 13,stm 14,stm 15,stm 16,stm 17]++[]))):=by kernel_rfl
theorem JgY (w:World) (os:OsState):segRunT treeTable pw w 11 J10 1 30 (stT (JeA w.params) 89 366 os) (piecesOf [stm 10] Zq JC ⟨99,0,99,6⟩ [topFrame q0])=some (.next,stT (J4z w.params) 96 373 os,JC,⟨100,0,101,30⟩):=by kernel_rfl
theorem Jh0 (w:World) (X:Nat ->Obj) (os:OsState):segRunT treeTable pw w 11 J10 1 155 (stT (JfW w.params X) 135 2324 os) (piecesOf [stm 12,stm 13,stm 14,stm 15,stm 16,stm 17] Zq JC ⟨102,0,102,13⟩ [topFrame q0])=some (.next,stT (J9s w.params X) 164 2367 os,JC,⟨142,0,206,63⟩):=by kernel_rfl
theorem Jix (w:World) (os:OsState):segRunT treeTable pw w 11 J10 1 468 (stT (Jgc w.params) 15 187 os) (piecesOf [stm 0,stm 1,stm 2,stm 3,stm 4,stm 5,stm 6,stm 7,stm 8] Zq JC q0 [topFrame q0])=some (.next,stT (Jez w.params) 78 306 os,JC,⟨98,0,98,8⟩):=by
 rw[Fast.te10110043849684766642,Fast.te14364793385576792824];kernel_rfl
theorem Je3 (w:World) (os:OsState):segRunT treeTable pw ((w.withFollow "set-order" true).withFollow "special-get-raises" true) 11 J10 1 999 (stT (Jez ((w.withFollow "set-order" true).withFollow "special-get-raises" true).params) 78 306 os) (piecesOf [stm 9] Zq JC ⟨98,0,98,8⟩ [topFrame q0])=some (.next,stT (JeA ((w.withFollow "set-order" true).withFollow "special-get-raises" true).params) 89 366 os,JC,⟨99,0,99,6⟩):=by
 rw[Fast.te10110043849684766642,Fast.te14364793385576792824];kernel_rfl
theorem Je2 (w:World) (os:OsState):segRunT treeTable pw ((w.withFollow "set-order" true).withFollow "special-get-raises" false) 11 J10 1 999 (stT (Jez ((w.withFollow "set-order" true).withFollow "special-get-raises" false).params) 78 306 os) (piecesOf [stm 9] Zq JC ⟨98,0,98,8⟩ [topFrame q0])=some (.next,stT (JeA ((w.withFollow "set-order" true).withFollow "special-get-raises" false).params) 89 366 os,JC,⟨99,0,99,6⟩):=by
 rw[Fast.te10110043849684766642,Fast.te14364793385576792824];kernel_rfl
theorem Je1 (w:World) (os:OsState):segRunT treeTable pw ((w.withFollow "set-order" false).withFollow "special-get-raises" true) 11 J10 1 999 (stT (Jez ((w.withFollow "set-order" false).withFollow "special-get-raises" true).params) 78 306 os) (piecesOf [stm 9] Zq JC ⟨98,0,98,8⟩ [topFrame q0])=some (.next,stT (JeA ((w.withFollow "set-order" false).withFollow "special-get-raises" true).params) 89 366 os,JC,⟨99,0,99,6⟩):=by
 rw[Fast.te10110043849684766642,Fast.te14364793385576792824];kernel_rfl
theorem Je0 (w:World) (os:OsState):segRunT treeTable pw ((w.withFollow "set-order" false).withFollow "special-get-raises" false) 11 J10 1 999 (stT (Jez ((w.withFollow "set-order" false).withFollow "special-get-raises" false).params) 78 306 os) (piecesOf [stm 9] Zq JC ⟨98,0,98,8⟩ [topFrame q0])=some (.next,stT (JeA ((w.withFollow "set-order" false).withFollow "special-get-raises" false).params) 89 366 os,JC,⟨99,0,99,6⟩):=by
 rw[Fast.te10110043849684766642,Fast.te14364793385576792824];kernel_rfl
theorem Jiy (w:World) (os:OsState):segRunT treeTable pw w 11 J10 1 999 (stT (Jez w.params) 78 306 os) (piecesOf [stm 9] Zq JC ⟨98,0,98,8⟩ [topFrame q0])=some (.next,stT (JeA w.params) 89 366 os,JC,⟨99,0,99,6⟩):=by
 have a:=Je3 w os
 have b:=Je2 w os
 have c:=Je1 w os
 have d:=Je0 w os
 have e1:=World.withFollow_self w "set-order"
 have e2:=World.withFollow_self w "special-get-raises"
 cases h1:w.params.followText "set-order"<;>cases h2:w.params.followText "special-get-raises"<;>rw[h1]at e1<;>rw[h2]at e2
 ·rw[e1,e2]at d;exact d
 ·rw[e1,e2]at c;exact c
 ·rw[e1,e2]at b;exact b
 ·rw[e1,e2]at a;exact a
noncomputable def Jge:Stmt ->List Expr
 | .Assign t _ _=>t
 |_=>[]
noncomputable def Jgd:Stmt ->Pos
 | .Assign _ _ p=>p
 |_=>default
noncomputable def Jcj:Stmt ->List (Option Expr)
 | .Assign _ (.Dict ks _ _) _=>ks
 |_=>[]
noncomputable def Jck:Stmt ->List Expr
 | .Assign _ (.Dict _ vs _) _=>vs
 |_=>[]
noncomputable def Jd2:Stmt ->Pos
 | .Assign _ (.Dict _ _ p) _=>p
 |_=>default
theorem s11:stm 11= .Assign (Jge (stm 11)) (.Dict (Jcj (stm 11)) (Jck (stm 11)) (Jd2 (stm 11))) (Jgd (stm 11)):=by kernel_rfl
noncomputable def kI:Option Expr ->Option Int
 |some (.Constant (.int k) _ _)=>some k
 |_=>none
noncomputable def kS:Expr ->Option Str
 | .Constant (.str x) _ _=>some x
 |_=>none
theorem J8i {k:Option Expr} {i:Int} (h:kI k=some i): ∃a b,k=some (.Constant (.int i) a b):=by
 cases k with
 |none=>exact nn h
 |some e=>cases e with
  |Constant c a b=>cases c with
   |int k=>exact⟨a,b,by rw[show k=i from Option.some.inj h]⟩
   |_=>exact nn h
  |_=>exact nn h
theorem J8j {v:Expr} {x:Str} (h:kS v=some x): ∃a b,v= .Constant (.str x) a b:=by
 cases v with
 |Constant c a b=>cases c with
  |str k=>exact⟨a,b,by rw[show k=x from Option.some.inj h]⟩
  |_=>exact nn h
 |_=>exact nn h
noncomputable def J6o:List (Option Expr) ->List Expr ->Option (List (Int×Str))
 |[],vs=>if vs.isEmpty then some []else none
 |k::ks,vs=>match vs with
  |v::vs=>(kI k).bind λi=>(kS v).bind λx=>(J6o ks vs).map ((i,x):: ·)
  |[]=>none
theorem Jg1 {env:Env} {pos:Pos} {ks:List (Option Expr)}: ∀{vs:List Expr} {it:List (Int×Str)},J6o ks vs=some it ->
  (evalEachOpt ks env).zip ((evalEach vs env).map λv=>do let x<-v;standAt pos;pure x)=it.map λx=>J35 (itT pos x):=by
 induction ks with
 |nil=>intro vs it h;exact J9 h λ_ h=>by rw[<-Option.some.inj h];rfl
 |cons k ks ih=>
  intro vs it h
  cases vs with
  |nil=>exact nn h
  |cons v vs=>
   refine bnd h λi h1 h=>bnd h λx h2 h=>mpd h λr h3 e=>?_
   refine o20 (J8i h1) λa b q1=>?_;subst q1
   refine o20 (J8j h2) λc d q2=>?_;subst q2
   rw[<-e]
   exact congrArg (List.cons (J35 (itT pos (i,x)))) (ih h3)
theorem JbC {ks:List (Option Expr)}: ∀{vs:List Expr} {it:List (Int×Str)},J6o ks vs=some it ->J2P ks vs=it.map λx=>(Key.i x.1,D.str x.2):=by
 induction ks with
 |nil=>intro vs it h;exact J9 h λ_ h=>by rw[<-Option.some.inj h];rfl
 |cons k ks ih=>
  intro vs it h
  cases vs with
  |nil=>exact nn h
  |cons v vs=>
   refine bnd h λi h1 h=>bnd h λx h2 h=>mpd h λr h3 e=>?_
   refine o20 (J8i h1) λa b q1=>?_;subst q1
   refine o20 (J8j h2) λc d q2=>?_;subst q2
   rw[<-e]
   show _::_=_::_
   rw[ih h3]
noncomputable def itB:List (Int×Str):=(J6o (Jcj (stm 11)) (Jck (stm 11))).getD []
theorem JaT:(J6o (Jcj (stm 11)) (Jck (stm 11))).isSome=true:=by kernel_rfl
theorem Jcq:J6o (Jcj (stm 11)) (Jck (stm 11))=some itB:=by
 unfold itB
 obtain⟨x,e⟩:=Option.isSome_iff_exists.mp JaT
 rw[e];rfl
theorem VG:itB.length=650:=by kernel_rfl
noncomputable def Jey:List Int ->Bool
 |a::b::r=>decide (a<b)&&Jey (b::r)
 |_=>true
theorem J4T: ∀{l:List Int} {a:Int},Jey (a::l)=true -> ∀x∈l,a<x
 |[],_,_,_,h=>absurd h List.not_mem_nil
 |b::l,a,e,x,h=>by
  obtain⟨e1,e2⟩:=Bool.and_eq_true_iff.mp (show(decide (a<b)&&Jey (b::l))=true from e)
  have ab:=of_decide_eq_true e1
  exact Or.elim (List.mem_cons.mp h) (λe=>e▸ab) λh=>Int.lt_trans ab (J4T e2 x h)
theorem Zy: ∀{l:List Int},Jey l=true ->l.Nodup
 |[],_=>List.nodup_nil
 |[a],_=>by simp
 |a::b::l,e=>by
  rw[List.nodup_cons]
  exact⟨λh=>absurd (J4T e a h) (Int.lt_irrefl a),Zy (Bool.and_eq_true_iff.mp (show(decide (a<b)&&Jey (b::l))=true from e)).2⟩
theorem J4Y:Jey (hk itB)=true:=by kernel_rfl
noncomputable def chunks:Nat ->List (Int×Str) ->List (List (Int×Str))
 |0,_=>[]
 |n+1,l=>l.take 17::chunks n (l.drop 17)
theorem Vs: ∀(n:Nat) (l:List (Int×Str)),(chunks n l).flatten++l.drop (17*n)=l
 |0,l=>rfl
 |n+1,l=>by
  rw[chunks,List.flatten_cons,List.append_assoc,show 17*(n+1)=17+17*n by lia,<-List.drop_drop,Vs n,List.take_append_drop]
theorem J19: ∀(n:Nat) (l:List (Int×Str)),17*n<=l.length -> ∀b∈chunks n l,b.length=17
 |0,_,_,_,h=>absurd h List.not_mem_nil
 |n+1,l,hl,b,h=>by
  rcases List.mem_cons.mp h with rfl|h
  ·rw[List.length_take];lia
  ·exact J19 n (l.drop 17) (by rw[List.length_drop];lia) b h
theorem KL: ∀(n:Nat) (l:List (Int×Str)),(chunks n l).length=n
 |0,_=>rfl
 |n+1,l=>by rw[chunks,List.length_cons,KL n]
theorem J3e: ∀(bs:List (List (Int×Str))) (tk:Nat),(Ka tk bs).length=bs.length
 |[],_=>rfl
 |b::bs,tk=>by rw[Ka,List.length_cons,List.length_cons,J3e bs]
noncomputable def bsB:List (List (Int×Str)):=chunks 37 (itB.drop 17)
noncomputable def J1L:List (Int×Str):=(itB.drop 17).drop (17*37)
noncomputable def J6t:List DictEntry:=ents 373 (itB.take 17++bsB.flatten)++ents2 2311 J1L
noncomputable def Jev:List Obj:=dob J6t::(Ka 424 bsB++[dob (ents2 2311 J1L)])
noncomputable def XB (j:Nat):Obj:=Jev.getD (j-96) default
theorem Yb:J1L.length=4:=by unfold J1L;rw[List.length_drop,List.length_drop,VG]
theorem J3D:bsB.length=37:=KL _ _
theorem Ja3:Jev.length=39:=by
 unfold Jev
 rw[List.length_cons,List.length_append,J3e,J3D,List.length_singleton]
theorem Jfo (L:List Obj) {n k:Nat} (h:L.length=n):L=(List.range' k n).map λj=>L.getD (j-k) default:=by
 apply List.ext_getElem?
 intro i
 rw[List.getElem?_map]
 by_cases c:i<n
 ·rw[List.getElem?_range' (by exact c)]
  show _=some (L.getD (k+1*i-k) default)
  rw[show k+1*i-k=i by lia,List.getD_eq_getElem?_getD,List.getElem?_eq_getElem (by lia)]
  rfl
 ·rw[List.getElem?_eq_none (by lia),List.getElem?_eq_none (by rw[List.length_range'];lia)]
  rfl
theorem JcJ:Jev=(List.range' 96 39).map XB:=Jfo Jev Ja3
theorem Y7:itB=itB.take 17++(bsB.flatten++J1L):=by
 unfold bsB J1L
 rw[Vs,List.take_append_drop]
noncomputable def Jdq:BT ->Nat ->Nat ->(Nat ->Obj) ->BT
 |t,_,0,_=>t
 |t,n,k+1,X=>Jdq (t.ins n (X n)) (n+1) k X
noncomputable def okL:BT ->Nat ->Nat ->(Nat ->Obj) ->Bool
 |_,_,0,_=>true
 |t,n,k+1,X=>match((t.ins n (X n)).get n).isSome with
  |true=>okL (t.ins n (X n)) (n+1) k X
  |false=>false
theorem J4U {life:Life} {X:Nat ->Obj}: ∀(k:Nat) (t:BT) (n:Nat),okL t n k X=true ->absHeap (Jdq t n k X) (n+k) life=⟨(t.list n++(List.range' n k).map X).toArray,life⟩
 |0,t,n,_=>by rw[Jdq,Nat.add_zero,List.range'_zero,List.map_nil,List.append_nil];rfl
 |k+1,t,n,h=>by
  unfold okL at h
  cases g:((t.ins n (X n)).get n).isSome with
  |false=>rw[g]at h;cases h
  |true=>
   rw[g]at h
   have a:=absHeap_ins (life:=life) g
   have a2:(t.ins n (X n)).list (n+1)=t.list n++[X n]:=by
    have b:=congrArg (λh:Heap=>h.objs.toList) a
    have c:((absHeap t n life).push (X n)).objs.toList=t.list n++[X n]:=by
     show((t.list n).toArray.push (X n)).toList=_
     rw[Array.toList_push]
    exact(show _=_ from b).trans c
   have ih:=J4U (life:=life) (X:=X) k (t.ins n (X n)) (n+1) h
   rw[Jdq,show n+(k+1)=n+1+k by lia,ih,a2,List.range'_succ,List.map_cons,List.append_assoc]
   rfl
noncomputable def Jhd (P:Params) (X:Nat ->Obj):BT:=Jdq (J4z P) 96 39 X
theorem Jiu (P:Params) (X:Nat ->Obj):okL (J4z P) 96 39 X=true:=by kernel_rfl
theorem JcC (t:BT) (n k:Nat) (lf:Life) (gs:Array GenState) (d:Drawn) (os:OsState):(SharedT.mk t n lf gs d k os).abs=Shared.mk (absHeap t n lf) gs d k os:=rfl
theorem Jdr {t:BT} {X:Nat ->Obj} (n m:Nat) (hn:n=39) (hm:m=96+n) (hok:okL t 96 n X=true) (lf:Life) (gs:Array GenState) (d:Drawn) (os:OsState) (k:Nat):
  stL lf gs d os (t.list 96++(List.range' 96 n).map X) k=(SharedT.mk (Jdq t 96 n X) m lf gs d k os).abs:=by
 rw[JcC,hm,J4U (life:=lf) (X:=X) n t 96 hok]
theorem JfR {t:BT} {X:Nat ->Obj} {L:List Obj} (hok:okL t 96 39 X=true) (e:L=(List.range' 96 39).map X) (os:OsState) (k:Nat):stL {} #[] ⟨0,0,0,0⟩ os (t.list 96++L) k=(stT (Jdq t 96 39 X) 135 k os).abs:=by
 rw[e]
 exact Jdr 39 135 rfl rfl hok {} #[] ⟨0,0,0,0⟩ os k
theorem Jj4 (P:Params) (os:OsState) (k:Nat):stL {} #[] ⟨0,0,0,0⟩ os ((J4z P).list 96++Jev) k=(stT (Jhd P XB) 135 k os).abs:=JfR (Jiu P XB) JcJ os k
theorem Jdi (w:World) (os:OsState) (p:Pos):J1 w 16000 (stT (J4z w.params) 96 373 os).abs p
  (do standAt (Jgd (stm 11));eval (.Dict (Jcj (stm 11)) (Jck (stm 11)) (Jd2 (stm 11))) Zq) (stT (Jhd w.params XB) 135 2323 os).abs (Jd2 (stm 11)) (.ref 96):=by
 have hlen:((J4z w.params).list 96).length=96:=by unfold BT.list;rw[List.length_map,List.length_range]
 have hd:=J1A (w:=w) (lf:={}) (gs:= #[]) (dr:=⟨0,0,0,0⟩) (os:=os) (base:=(J4z w.params).list 96) (pos:=Jd2 (stm 11)) (b0:=itB.take 17) (last:=J1L) (bs:=bsB) (tk:=373) (tk2:=2311)
  (by rw[hlen];lia) (by rw[List.length_take,VG];rfl) (J19 37 _ (by rw[List.length_drop,VG];lia)) (by intro h;have:=congrArg List.length h;rw[Yb]at this;simp at this) (by rw[Yb];lia)
  (by rw[<-Y7];exact Zy J4Y) (by rw[<-Y7,VG];lia) (by rw[J3D])
 rw[<-Y7,hlen,Yb,J3D]at hd
 rw[<-Jj4]
 refine J1.le (n:=(400*37+1000+1)+1) (J1.bind' (J3Z _) ?_) (by lia)
 rw[arm_eval_Dict]
 refine J1.bind' (J3Z _) ?_
 rw[Jg1 Jcq]
 exact hd
noncomputable abbrev J7d (v:Value):Sem Flow:=do assignStores Zq v (<-swappedStores (Jge (stm 11)) (.Dict (Jcj (stm 11)) (Jck (stm 11)) (Jd2 (stm 11))) Zq) ((assignEach (Jge (stm 11)) Zq).map (·.2))
theorem Jf0 {env:Env} {t:List Expr} {v:Expr} {p:Pos} (h:swapsWithSole t v p.line env=pure false):
  exec (.Assign t v p) env=((do standAt p;eval v env):Sem Value)>>=λa=>(do assignStores env a (<-swappedStores t v env) ((assignEach t env).map (·.2))):=by
 rw[arm_exec_Assign,h,bind_assoc]
 rfl
theorem JgB:exec (stm 11) Zq=((do standAt (Jgd (stm 11));eval (.Dict (Jcj (stm 11)) (Jck (stm 11)) (Jd2 (stm 11))) Zq):Sem Value)>>=J7d:=
 (congrArg (exec · Zq) s11).trans (Jf0 (by kernel_rfl))
theorem JgZ (w:World) (X:Nat ->Obj) (os:OsState):segRunT treeTable pw w 11 J10 1 30 (stT (Jhd w.params X) 135 2323 os) ⟨(J7d (.ref 96)).wrap doneF deadEnd id id,JC,Jd2 (stm 11),[topFrame q0]⟩=some (.next,stT (JfW w.params X) 135 2324 os,JC,⟨102,0,102,13⟩):=by kernel_rfl
theorem J81 {w:World} {α:Type} {x:Sem α} {g:α ->Sem Flow} {a:α} {st:Stmt} {rest:List Stmt} {n m N:Nat} {s s₁ s₂ r:Shared} {c:Code} {p p₁ p₂:Pos} (e:exec st Zq=x>>=g) (h:J1 w n s p x s₁ p₁ a)
  (h2:segRun treeTable pw w 11 J10 1 m s₁ ⟨(g a).wrap doneF deadEnd id id,c,p₁,[topFrame q0]⟩=some (.next,s₂,c,p₂))
  (k:topRun treeTable pw w 11 J10 N s₂ (restOf rest Zq c p₂ [topFrame q0])=some r):topRun treeTable pw w 11 J10 (m+N+n) s (restOf (st::rest) Zq c p [topFrame q0])=some r:=by
 obtain⟨b,hb,hN⟩:=seg_top (res:=id) (K':=λf=>match f with| .next=>(execs rest Zq).wrap doneF (leaveH Zq) id id|f=>doneF f) (H':=leaveH Zq) (B:=[topFrame q0]) rfl m s₁ ⟨(g a).wrap doneF deadEnd id id,c,p₁,[topFrame q0]⟩
  ⟨(g a).wrap (λf=>match f with| .next=>(execs rest Zq).wrap doneF (leaveH Zq) id id|f=>doneF f) (leaveH Zq) id id,c,p₁,[topFrame q0]⟩ _ _ _ _ ⟨rfl,rfl,.inl ⟨rfl,rfl,_,rfl,rfl⟩⟩ h2
 obtain rfl:b= .next:=hb
 unfold restOf
 rw[execs_cons_wrap,e,Sem.bind_eq_wrap',Sem.wrap_wrap]
 exact h _ _ _ _ c (topFrame q0) [] _ r (hN N r k)
theorem JfD (w:World) (X:Nat ->Obj) (os:OsState):topRun treeTable pw w 11 J10 10 (stT (J9s w.params X) 164 2367 os).abs ⟨doneF .next,JC,⟨142,0,206,63⟩,[topFrame q0]⟩=some (stT (J9s w.params X) 164 2367 os).abs:=by kernel_rfl
theorem Jel (w:World) (os:OsState):topRun treeTable pw w 11 J10 20000 ⟨boot_heap w.params,Array.mk [],boot_drawn,boot_toks,os⟩ (topStub pw)=some (stT (J9s w.params XB) 164 2367 os).abs:=by
 have h0:=piece_nil (env:=Zq) (JfD w XB os)
 have h1:=piece_app (segRun_of (Jh0 w XB os)) h0
 have h2:=J81 JgB (Jdi w os ⟨100,0,101,30⟩) (segRun_of (JgZ w XB os)) h1
 have h3:=piece_app (segRun_of (JgY w os)) h2
 have h4:=piece_app (segRun_of (Jiy w os)) h3
 have h5:=piece_app (segRun_of (Jix w os)) h4
 rw[<-JbE]at h5
 have h6:=go_top (JfE w os) (piece_block (JbD w os) h5)
 have e:12+(1+(468+(999+(30+(30+(155+10)+16000)))))+2295=20000:=by decide
 rw[<-e]
 exact topRun_mono 2295 _ _ _ _ h6
end
section
open PySem.W PySem.Calls PySem.Spec
noncomputable def qL:Program:={pw with main:={pw.main with body:=[stm 17]}}
noncomputable def J1N:List Str:=[nm "TupleComp",nm "add_callers",nm "count_calls",nm "rgb_to_hls",nm "rgb_to_hsv",nm "hsv_to_rgb",nm "b1_set",nm "in_table_b1",nm "b3_exceptions",nm "map_table_b3",nm "_law_typed",nm "_law_paints",nm "_law_round"]
noncomputable abbrev HX (P:Params):Heap:=absHeap (J9s P XB) 164 {}
noncomputable def XtX (s:Shared):Bool:=xlAt qL [] s&&recOk [] s
noncomputable abbrev YfX (s:Shared):Heap×Nat:=(s.heap,s.toks)
noncomputable abbrev YaX (w:World):Heap×Nat:=(HX w.params,2367)
theorem Jfp (w:World) (os:OsState):(staticsOk (importedModules pw.main.body) (boot_heap w.params) (HX w.params)&&namesBound pw (HX w.params)&&gensDone ⟨HX w.params,#[],⟨0,0,0,0⟩,2367,os⟩&&laidKept (boot_heap w.params) (HX w.params))=true:=by kernel_rfl
theorem J8u (w:World):((boot_heap w.params).isNs mainGlobals&&(Array.mk []:Array GenState).size==0,(boot_heap w.params).objs.size,(boot_heap w.params).nsMap mainGlobals "__annotations__")=(true,11,J10):=by kernel_rfl
theorem Jfq (w:World) (os:OsState):openSeen qL J1N (importedModules pw.main.body) XtX true ⟨HX w.params,#[],⟨0,0,0,0⟩,2367,os⟩=openGood qL J1N:=by kernel_rfl
theorem Jfi:LeftO pw qL J1N XtX YfX YaX 20000:=
 LeftO.of_pieces (H₀:=boot_heap) (H₁:=HX) (gs₀:=Array.mk []) (gs₁:= #[]) (d₀:=boot_drawn) (d₁:=⟨0,0,0,0⟩) (k₀:=boot_toks) (k₁:=2367) (m₀:=11) (ann:=J10) (M:=20000)
  (boot_open (by kernel_rfl) (by kernel_rfl) (λs=>by kernel_rfl)) J8u Jel (by kernel_rfl)
  (λw=>funext λos=>by
   rw[Jfp,Jfq])
noncomputable abbrev rX:OpenRow:=PySem.Challenge.rw_xh0043_01.row
theorem JeV:(defOf qL rX.name).isSome=true:=by kernel_rfl
noncomputable def dX:DefRec:=((defOf qL rX.name).get JeV).1
noncomputable def kX:List (Str×Expr):=((defOf qL rX.name).get JeV).2
theorem Jd3:defOf qL rX.name=some (dX,kX):=by kernel_rfl
theorem Jik:rX.prog.theDef rX.name=some (dX.params,dX.body,dX.scope):=by kernel_rfl
theorem Jij:kwWritten? dX.params.kwonlyargs dX.params.kw_defaults=some kX:=by kernel_rfl
theorem Jit:(chainsOk qL&&opensWell rX.prog&&(frees rX.toRowW&&rX.within.isEmpty))=true:=by kernel_rfl
theorem JeI:rX.prog.bare:=⟨rfl,rfl,rfl,rfl,rfl,by decide+kernel⟩
theorem JfH:rX.toRowW.promised:=⟨[.list []],by decide+kernel,by decide+kernel⟩
theorem JbN:namesResolve PySem.Challenge.pw_xh0043_01=true:=by
 rw[Fast.te8377067652309620493];kernel_rfl
theorem J9b:noRoadLSs {strict:=!(importedModules PySem.Challenge.pw_xh0043_01.main.body).all cThrough.contains,foot:=none,bare:=(["vars","dir","locals"]:List Str).filter (readsOut PySem.Challenge.pw_xh0043_01 PySem.Challenge.pw_xh0043_01.main.body)} PySem.Challenge.pw_xh0043_01.main.body=true:=by
 rw[Fast.te8326940854005059898];kernel_rfl
theorem J99:(namesMeet PySem.Challenge.pw_xh0043_01 PySem.Challenge.pw_xh0043_01.main.body λ_ n=>attrL n)=true:=by
 rw[Fast.te17119622794617984870];kernel_rfl
theorem J6O:looksOpen PySem.Challenge.pw_xh0043_01=true:=by
 delta looksOpen
 exact look_both (look_both (look_both (look_both (look_both (by kernel_rfl) (by kernel_rfl)) JbN) (by kernel_rfl)) J9b) J99
theorem J9a:PySem.Challenge.rw_xh0043_01.row.partSaid=true:=by
 delta OpenRow.partSaid
 exact look_both (look_both (look_both (look_both (look_both (look_both (look_both (look_both (look_both (look_both (look_both (look_both (look_both J6O (by kernel_rfl)) (by kernel_rfl)) (by kernel_rfl)) (by kernel_rfl)) (by kernel_rfl)) (by kernel_rfl)) (by kernel_rfl)) (by kernel_rfl)) (by kernel_rfl)) (by kernel_rfl)) (by kernel_rfl)) (by kernel_rfl)) (by kernel_rfl)
theorem JbO:PySem.Challenge.rw_xh0043_01.row.wellSaid=true:=by
 delta OpenRow.wellSaid
 exact look_both (look_both J9a (by kernel_rfl)) (by kernel_rfl)
theorem J6M:(namesMeet PySem.Challenge.rw_xh0043_01.prog PySem.Challenge.rw_xh0043_01.above λ_ n=>!PySem.Challenge.rw_xh0043_01.own.contains n)=true:=by
 rw[Fast.te17119622794617984870];kernel_rfl
theorem J6N:(PySem.Challenge.rw_xh0043_01.bound'.all λn=>!builtinNamed n||PySem.Challenge.rw_xh0043_01.about==[n]||!PySem.Challenge.rw_xh0043_01.reads n)=true:=by kernel_rfl
theorem JbM:PySem.Challenge.rw_xh0043_01.wellSaid=true:=by
 delta OpenLaw.wellSaid
 exact look_both (look_both (look_both (look_both (look_both (look_both (look_both (look_both (look_both (look_both (look_both (look_both (look_both (look_both (look_both (look_both (look_both (look_both JbO (by kernel_rfl)) (by kernel_rfl)) (by kernel_rfl)) (by kernel_rfl)) (by kernel_rfl)) (by kernel_rfl)) (by kernel_rfl)) (by kernel_rfl)) (by kernel_rfl)) J6N) (by kernel_rfl)) (by kernel_rfl)) (by kernel_rfl)) (by kernel_rfl)) (by kernel_rfl)) (by kernel_rfl)) J6M) (by kernel_rfl)
set_option maxHeartbeats 4000000 in
theorem Jaj (call:WalkX qL J1N (XL qL []) YfX YaX rX.toRowW dX kX λf vs=>PySem.call f vs):PySem.Challenge.rw_xh0043_01.Holds:=by
 refine holds_law JbM λsaid=>?_
 exact holds_openX (r:=rX) (q:=qL) (loose:=J1N) (Xt:=XtX) (XP:=XL qL []) (Yf:=YfX) (Ya:=YaX) (N:=20000) Jfi (λs e=>xl_of s (Bool.and_eq_true_iff.mp e).1) XL.keeps Jd3 Jik Jij
  (λs e=>recFacts_of (Bool.and_eq_true_iff.mp e).2) (by kernel_rfl) said Jit JeI JfH call
noncomputable def J3J:Stmt ->Bool
 | .FunctionDef _ a _ _ _ _ sc _ _ _=>a.posonlyargs.isEmpty&&a.vararg.isNone&&a.kwonlyargs.isEmpty&&a.kwarg.isNone&&!sc.isCoroutine&&!sc.isGenerator&&decide (sc.kind= .function)&&decide (a.args.map (·.arg)).Nodup&&
  (a.args.all λx=>sc.names.lookup x.arg==some .local||sc.names.lookup x.arg==some .cell)&&(sc.names.all λp=>!(p.2== .free))
 |_=>false
structure FdLike (fd:FuncData) (st:Stmt):Prop where
 params:fd.params=fnP st
 body:fd.body= .stmts (fnB st)
 scope:fd.scope=fnS st
 dflt:fd.defaults= .none
 globals:fd.globals=mainGlobals
 builtins:fd.builtins=builtinsNs
 closure:fd.closure=[]
theorem J6r {β:Type} {l:List (Str×β)} {x:Str} {b:β} (h:l.lookup x=some b): ∃p∈l,p.2=b:=⟨_,JT h,rfl⟩
theorem JgD {st:Stmt} {f:Fn} {fd:FuncData} (hf:Kk st=some f) (hc:J3J st=true) (h:FdLike fd st):FdOk fd f:=by
 cases st with
 |FunctionDef n a b ds rt tp sc ts bd p=>
  have e:(⟨a.args.map (·.arg),b,sc⟩:Fn)=f:=Option.some.inj hf
  rw[<-e]
  clear hf e
  have sp: ∀{x y:Bool},(x&&y)=true ->x=true/\ y=true:=Bool.and_eq_true_iff.mp
  refine o01 (sp (show(_&&_)=true from hc)) λhc c10=>o01 (sp hc) λhc c9=>o01 (sp hc) λhc c8=>o01 (sp hc) λhc c7=>o01 (sp hc) λhc c6=>o01 (sp hc) λhc c5=>o01 (sp hc) λhc c4=>o01 (sp hc) λhc c3=>o01 (sp hc) λc1 c2=>?_
  have hp:fd.params=a:=h.params
  have hs:fd.scope=sc:=h.scope
  refine⟨hs,h.body,by rw[hp],by rw[hp];exact List.isEmpty_iff.mp c1,by rw[hp];exact Option.isNone_iff_eq_none.mp c2,by rw[hp];exact List.isEmpty_iff.mp c3,by rw[hp];exact Option.isNone_iff_eq_none.mp c4,h.dflt,h.globals,h.builtins,h.closure,by rw[hs];simpa using c5,by rw[hs];simpa using c6,by rw[hs];exact of_decide_eq_true c7,of_decide_eq_true c8,λx hx=>?_,λx hx=>?_⟩
  ·exact o11 (List.mem_map.mp hx) λy hy e=>e▸(Bool.or_eq_true_iff.mp (List.all_eq_true.mp c9 y hy)).imp eq_of_beq eq_of_beq
  ·refine o11 (J6r hx) λq hq e=>?_
   have q:=List.all_eq_true.mp c10 q hq
   rw[e]at q
   exact Bool.noConfusion q
 |_=>exact nn hf
noncomputable def JfS (q:Str):Option Value ->Bool
 |some (.str q' _)=>decide (q'=q)
 |_=>false
noncomputable def Jak (o:Obj) (q:Str):Bool:=match o.data with
 | .fields vs=>JfS q vs[1]?
 |_=>false
noncomputable def Jch (h:Heap) (cd:Value) (q:Str):Bool:=match cd with
 | .ref c=>match h.get? c with
  |some o=>Jak o q
  |none=>false
 |_=>false
theorem JbS {q:Str} {o:Option Value} (h:JfS q o=true): ∃t,o=some (.str q t):=by
 cases o with
 |none=>exact Bool.noConfusion h
 |some v=>cases v with
  |str q' t=>exact⟨t,by rw[show q'=q from of_decide_eq_true h]⟩
  |_=>exact Bool.noConfusion h
theorem Jal {o:Obj} {q:Str} (e:Jak o q=true): ∃vs t,o.data= .fields vs/\ vs[1]?=some (.str q t):=by
 unfold Jak at e
 cases hd:o.data with
 |fields vs=>rw[hd]at e;exact o10 (JbS e) λt h=>⟨vs,t,rfl,h⟩
 |_=>rw[hd]at e;exact Bool.noConfusion e
theorem JcW {h:Heap} {cd:Value} {q:Str} (e:Jch h cd q=true):h.CodeRec cd q:=by
 cases cd with
 |ref c=>
  replace e:(match h.get? c with
   |some o=>Jak o q
   |none=>false)=true:=e
  cases ho:h.get? c with
  |none=>rw[ho]at e;exact Bool.noConfusion e
  |some o=>rw[ho]at e;exact o20 (Jal e) λvs t q=>⟨c,o,vs,t,rfl,ho,q⟩
 |_=>exact Bool.noConfusion e
theorem Zs {h:Heap} {a:Addr} {fd:FuncData} {dd:Option Addr} {sl:Array (Option Value)} {st:Stmt} (e:h.get? a=some ⟨.type "function",dd,.func fd,sl⟩) (hc:J3J st=true) (hk:Jch h fd.code fd.qualname=true) (hl:FdLike fd st) {f:Fn} (hf:Kk st=some f):Zh h a f:=
 ⟨_,fd,e,rfl,rfl,JgD hf hc hl,JcW hk⟩
theorem J0A (P:Params):(HX P).get? 49=some (J04 P):=by kernel_rfl
theorem J0k:J3J (stm 2)=true:=by kernel_rfl
theorem Ku (P:Params) {f:Fn} (hf:Kk (stm 2)=some f):Zh (HX P) 49 f:=Zs (J0A P) J0k (by kernel_rfl) ⟨rfl,rfl,rfl,rfl,rfl,rfl,rfl⟩ hf
theorem J0B (P:Params):(HX P).get? 56=some (J05 P):=by kernel_rfl
theorem J0l:J3J (stm 3)=true:=by kernel_rfl
theorem Kv (P:Params) {f:Fn} (hf:Kk (stm 3)=some f):Zh (HX P) 56 f:=Zs (J0B P) J0l (by kernel_rfl) ⟨rfl,rfl,rfl,rfl,rfl,rfl,rfl⟩ hf
theorem J1x (P:Params):(HX P).get? 63=some (J06 P):=by kernel_rfl
theorem J15:J3J (stm 5)=true:=by kernel_rfl
theorem J0x (P:Params) {f:Fn} (hf:Kk (stm 5)=some f):Zh (HX P) 63 f:=Zs (J1x P) J15 (by kernel_rfl) ⟨rfl,rfl,rfl,rfl,rfl,rfl,rfl⟩ hf
theorem J1y (P:Params):(HX P).get? 70=some (J07 P):=by kernel_rfl
theorem J16:J3J (stm 6)=true:=by kernel_rfl
theorem J0y (P:Params) {f:Fn} (hf:Kk (stm 6)=some f):Zh (HX P) 70 f:=Zs (J1y P) J16 (by kernel_rfl) ⟨rfl,rfl,rfl,rfl,rfl,rfl,rfl⟩ hf
theorem J1v (P:Params):(HX P).get? 77=some (J08 P):=by kernel_rfl
theorem J13:J3J (stm 7)=true:=by kernel_rfl
theorem J0v (P:Params) {f:Fn} (hf:Kk (stm 7)=some f):Zh (HX P) 77 f:=Zs (J1v P) J13 (by kernel_rfl) ⟨rfl,rfl,rfl,rfl,rfl,rfl,rfl⟩ hf
theorem J0C (P:Params):(HX P).get? 95=some (J0N P):=by kernel_rfl
theorem J0m:J3J (stm 10)=true:=by kernel_rfl
theorem Kx (P:Params) {f:Fn} (hf:Kk (stm 10)=some f):Zh (HX P) 95 f:=Zs (J0C P) J0m (by kernel_rfl) ⟨rfl,rfl,rfl,rfl,rfl,rfl,rfl⟩ hf
theorem Kz (P:Params):(HX P).get? 141=some (J57 P):=by kernel_rfl
theorem Kn:J3J (stm 12)=true:=by kernel_rfl
theorem Vy (P:Params) {f:Fn} (hf:Kk (stm 12)=some f):Zh (HX P) 141 f:=Zs (Kz P) Kn (by kernel_rfl) ⟨rfl,rfl,rfl,rfl,rfl,rfl,rfl⟩ hf
theorem J3W (P:Params):(HX P).get? 148=some (J58 P):=by kernel_rfl
theorem J3F:J3J (stm 14)=true:=by kernel_rfl
theorem J1q (P:Params) {f:Fn} (hf:Kk (stm 14)=some f):Zh (HX P) 148 f:=Zs (J3W P) J3F (by kernel_rfl) ⟨rfl,rfl,rfl,rfl,rfl,rfl,rfl⟩ hf
theorem J1w (P:Params):(HX P).get? 153=some (J59 P):=by kernel_rfl
theorem J14:J3J (stm 15)=true:=by kernel_rfl
theorem J0w (P:Params) {f:Fn} (hf:Kk (stm 15)=some f):Zh (HX P) 153 f:=Zs (J1w P) J14 (by kernel_rfl) ⟨rfl,rfl,rfl,rfl,rfl,rfl,rfl⟩ hf
theorem J3V (P:Params):(HX P).get? 158=some (J5a P):=by kernel_rfl
theorem J3E:J3J (stm 16)=true:=by kernel_rfl
theorem J1p (P:Params) {f:Fn} (hf:Kk (stm 16)=some f):Zh (HX P) 158 f:=Zs (J3V P) J3E (by kernel_rfl) ⟨rfl,rfl,rfl,rfl,rfl,rfl,rfl⟩ hf
theorem Jf4 (P:Params):(HX P).get? 163=some (J5b P):=by kernel_rfl
theorem Jgm:J3J (stm 17)=true:=by kernel_rfl
theorem Jf1 (P:Params) {f:Fn} (hf:Kk (stm 17)=some f):Zh (HX P) 163 f:=Zs (Jf4 P) Jgm (by kernel_rfl) ⟨rfl,rfl,rfl,rfl,rfl,rfl,rfl⟩ hf
theorem Jcn (P:Params):(HX P).get? 28=some (VO P):=by kernel_rfl
theorem JeM:J3J (mth 0)=true:=by kernel_rfl
theorem Jd8 (P:Params) {f:Fn} (hf:Kk (mth 0)=some f):Zh (HX P) 28 f:=Zs (Jcn P) JeM (by kernel_rfl) ⟨rfl,rfl,rfl,rfl,rfl,rfl,rfl⟩ hf
theorem J1u (P:Params):(HX P).get? 35=some (VP P):=by kernel_rfl
theorem J7r:J3J (mth 1)=true:=by kernel_rfl
theorem J66 (P:Params) {f:Fn} (hf:Kk (mth 1)=some f):Zh (HX P) 35 f:=Zs (J1u P) J7r (by kernel_rfl) ⟨rfl,rfl,rfl,rfl,rfl,rfl,rfl⟩ hf
noncomputable abbrev esS (P:Params):Array (Int×Value):=match(VQ P).data with
 | .set es _ _=>es
 |_=> #[]
theorem Jie (P:Params):(HX P).get? 85=some (VQ P):=by kernel_rfl
theorem Jia (P:Params):((esS P).toList.all λe=>match e.2 with| .int k _=>decide (e.1=hashInt k)&&Internal.b1.contains k|_=>false)=true:=by kernel_rfl
theorem Jib (P:Params):(Internal.b1.all λk=>(esS P).toList.any λe=>Value.isInt k e.2)=true:=by kernel_rfl
theorem Jh4 (w:World):J11 w (HX w.params) 85 Internal.b1:=by
 have h1:=List.all_eq_true.mp (Jia w.params)
 have h2:=List.all_eq_true.mp (Jib w.params)
 refine⟨27,VQ w.params,esS w.params,29,_,Jie w.params,⟨rfl,rfl,rfl⟩,rfl,λe he=>?_,λk=>⟨λhk=>?_,λ⟨e,he,hk⟩=>?_⟩,(show(27:Nat)<4096 by lia),by kernel_rfl,by kernel_rfl⟩
 ·have:=h1 e he
  cases q:e.2 with
  |int k t=>
   rw[q]at this
   simp only[Bool.and_eq_true,decide_eq_true_eq]at this
   exact⟨⟨k,by show(k==k)=true;simp,this.1⟩,rfl⟩
  |_=>rw[q]at this;cases this
 ·refine o11 (List.any_eq_true.mp (h2 k (List.contains_iff_mem.mp hk))) λe he q=>?_
  exact⟨e,he,q⟩
 ·have:=h1 e he
  refine o10 (Value.isInt_shape hk) λt q=>?_
  rw[q]at this
  simp only[Bool.and_eq_true]at this
  exact this.2
inductive E3:List DictEntry ->List (Int×Str) ->Prop
 |nil:E3 [] []
 |cons {e:DictEntry} {x:Int×Str} {es:List DictEntry} {it:List (Int×Str)} {t u:Nat}:e.hash=hashInt x.1 ->e.key= .int x.1 t ->e.val= .str x.2 u ->u≠0 ->u<2367 ->E3 es it ->E3 (e::es) (x::it)
theorem E3.app {a b:List DictEntry} {x y:List (Int×Str)} (h:E3 a x) (k:E3 b y):E3 (a++b) (x++y):=by
 induction h with
 |nil=>exact k
 |cons h1 h2 h3 h4 h5 _ ih=>exact .cons h1 h2 h3 h4 h5 ih
theorem E3.ents: ∀(it:List (Int×Str)) (tk:Nat),tk+3*it.length<2367 ->E3 (ents tk it) it
 |[],_,_=> .nil
 |x::it,tk,h=>by
  rw[List.length_cons]at h
  exact .cons (t:=tk) (u:=tk+1) rfl rfl rfl (Nat.succ_ne_zero _) (by omega) (E3.ents it (tk+3) (by omega))
theorem E3.ents2: ∀(it:List (Int×Str)) (tk:Nat),tk+3*it.length<2367 ->E3 (ents2 tk it) it
 |[],_,_=> .nil
 |x::it,tk,h=>by
  rw[List.length_cons]at h
  exact .cons (t:=tk) (u:=tk+1) rfl rfl rfl (Nat.succ_ne_zero _) (by lia) (E3.ents2 it (tk+2) (by lia))
theorem E3.keys {w:World} {es:List DictEntry} {it:List (Int×Str)} (h:E3 es it): ∀e∈es,∃k,(mixKind pw w).is k e.key=true/\ e.hash=(mixKind pw w).hash k:=by
 induction h with
 |nil=>intro e he;cases he
 | @cons e' x es it t u h1 h2 h3 h4 h5 _ ih=>
  intro e he
  exact Or.elim (List.mem_cons.mp he) (λe=>e▸⟨.i x.1,by rw[h2];show(x.1==x.1)=true;simp,h1⟩) λhe=>ih e he
theorem E3.pairs {w:World} {s:Shared} {ms:List Addr} (ht:2367<=s.toks) {es:List DictEntry} {it:List (Int×Str)} (h:E3 es it):
  ∃kvs:List (Key×Value),Pairs (mixKind pw w) es kvs/\ RepK w s ms kvs (it.map λx=>(Key.i x.1,D.str x.2))/\ kvs.map (·.1)=it.map λx=>Key.i x.1:=by
 induction h with
 |nil=>exact⟨[],.nil,.nil,rfl⟩
 | @cons e' x es it t u h1 h2 h3 h4 h5 _ ih=>
  refine o12 ih λkvs a b c=>?_;clear ih
  exact⟨(.i x.1,.str x.2 u)::kvs,.cons (by rw[h2];show(x.1==x.1)=true;simp) h3 a,.cons (.str _ _ h4 (Nat.lt_of_lt_of_le h5 ht)) b,by rw[List.map_cons,List.map_cons,c]⟩
theorem J8x:E3 J6t itB:=by
 have h:=E3.app (E3.ents (itB.take 17++bsB.flatten) 373 (by
  have h:=congrArg List.length Y7
  rw[VG,List.length_append,List.length_append,Yb]at h
  rw[List.length_append];lia)) (E3.ents2 J1L 2311 (by rw[Yb];lia))
 rw[List.append_assoc,<-Y7]at h
 exact h
theorem J6n:(itB.map λx=>Key.i x.1).Nodup:=by
 have h:(itB.map λx=>hashInt x.1).Nodup:=Zy J4Y
 unfold List.Nodup at h⊢
 rw[List.pairwise_map]at h⊢
 exact h.imp λq e=>q (by injection e with e;rw[e])
theorem Jgh:Internal.b3=itB.map λx=>(Key.i x.1,D.str x.2):=by
 have e:Internal.b3=J2P (Jcj (stm 11)) (Jck (stm 11)):=by kernel_rfl
 rw[e,JbC Jcq]
theorem Jif (P:Params):(HX P).get? 96=some (dob J6t):=by kernel_rfl
theorem JeX {w:World} {s:Shared} {ms:List Addr} (hk: ∀b o,(HX w.params).get? b=some o ->s.heap.get? b=some o) (ht:T0<=s.toks) (hm: ∀m∈ms,N0<=m):Rep w s ms (.ref 96) (.dct Internal.b3):=by
 refine o12 (J8x.pairs (w:=w) (s:=s) (ms:=ms) ht) λkvs a b c=>?_
 rw[Jgh]
 refine .dct ⟨⟨dob J6t,J6t.toArray,J6t.length,hk _ _ (Jif _),⟨rfl,rfl,rfl⟩,rfl,λe he=>J8x.keys e (by simpa using he),by simpa using a,by rw[c];exact J6n⟩,rfl⟩ (λh=>absurd (hm _ h) (by decide)) b
theorem Jgl (P:Params):bltOf.map (λp=>((HX P).nsMap mainGlobals p.1,(HX P).nsMap builtinsNs p.1))=bltOf.map (λp=>((none:Option Value),some p.2)):=by kernel_rfl
theorem Jid (P:Params) (x:Str) (f:Fn) (e:theTop.fns x=some f): ∃a,(HX P).nsMap mainGlobals x=some (.ref a)/\ Zh (HX P) a f:=by
 refine bnd (show(J3T.lookup x).bind (λi=>Kk (stm i))=some f from e) λi h1 h2=>?_
 have hm:=JT h1
 simp only[J3T,List.mem_cons,Prod.mk.injEq,List.not_mem_nil,or_false]at hm
 rcases hm with⟨rfl,rfl⟩|⟨rfl,rfl⟩|⟨rfl,rfl⟩|⟨rfl,rfl⟩|⟨rfl,rfl⟩|⟨rfl,rfl⟩|⟨rfl,rfl⟩|⟨rfl,rfl⟩|⟨rfl,rfl⟩|⟨rfl,rfl⟩
 ·exact⟨49,by kernel_rfl,Ku P h2⟩
 ·exact⟨56,by kernel_rfl,Kv P h2⟩
 ·exact⟨63,by kernel_rfl,J0x P h2⟩
 ·exact⟨70,by kernel_rfl,J0y P h2⟩
 ·exact⟨77,by kernel_rfl,J0v P h2⟩
 ·exact⟨95,by kernel_rfl,Kx P h2⟩
 ·exact⟨141,by kernel_rfl,Vy P h2⟩
 ·exact⟨148,by kernel_rfl,J1q P h2⟩
 ·exact⟨153,by kernel_rfl,J0w P h2⟩
 ·exact⟨158,by kernel_rfl,J1p P h2⟩
theorem Jcv (k:Nat):meth 1 k=Kk (mth k):=by
 have h:stm 1= .ClassDef (match stm 1 with| .ClassDef a _ _ _ _ _ _ _ _ _ _=>a|_=>nm "") (match stm 1 with| .ClassDef _ a _ _ _ _ _ _ _ _ _=>a|_=>[]) (match stm 1 with| .ClassDef _ _ a _ _ _ _ _ _ _ _=>a|_=>[]) (match stm 1 with| .ClassDef _ _ _ a _ _ _ _ _ _ _=>a|_=>[])
  (match stm 1 with| .ClassDef _ _ _ _ a _ _ _ _ _ _=>a|_=>[]) (match stm 1 with| .ClassDef _ _ _ _ _ a _ _ _ _ _=>a|_=>[]) (match stm 1 with| .ClassDef _ _ _ _ _ _ a _ _ _ _=>a|_=>pw.main.scope) (match stm 1 with| .ClassDef _ _ _ _ _ _ _ a _ _ _=>a|_=>none)
  (match stm 1 with| .ClassDef _ _ _ _ _ _ _ _ a _ _=>a|_=>nm "") (match stm 1 with| .ClassDef _ _ _ _ _ _ _ _ _ a _=>a|_=>[]) (match stm 1 with| .ClassDef _ _ _ _ _ _ _ _ _ _ a=>a|_=>default):=by kernel_rfl
 unfold meth mth
 rw[h]
 dsimp only
 generalize (match stm 1 with| .ClassDef _ _ _ a _ _ _ _ _ _ _=>a|_=>[])=l
 cases l[k]?<;>rfl
theorem Jgq (P:Params):ClsAt (HX P):=by
 refine⟨37,(HX P).nsMap 37,28,35,VO P,VP P,⟨⟨nm "TupleComp",nm "TupleComp",[.type "object"],[],[],none,none,none,none,some (.str (nm "TupleComp") 189),some (.str (nm "TupleComp") 197),some (.bool true),by kernel_rfl⟩,Heap.Ns.of_isNs (by kernel_rfl)⟩,
  by kernel_rfl,by kernel_rfl,by kernel_rfl,by kernel_rfl,by kernel_rfl,Jcn P,rfl,λf hf=>?_,by kernel_rfl,J1u P,rfl,λf hf=>?_⟩
 ·rw[Jcv]at hf;exact Jd8 P hf
 ·rw[Jcv]at hf;exact J66 P hf
theorem Jig (w:World):Gb w ((HX w.params).nsMap mainGlobals) ((HX w.params).nsMap builtinsNs) (HX w.params) where
 g:=Heap.Ns.of_isNs (by kernel_rfl)
 b:=Heap.Ns.of_isNs (by kernel_rfl)
 blt:=λx v h=>by
  have:=List.map_inj_left.mp (Jgl w.params) (x,v) (JT h)
  exact Prod.mk.inj this
 fn:=λx f e=>Jid w.params x f e
 cls:=Jgq w.params
 maker:=by kernel_rfl
 nolim:=⟨(HX w.params).nsMap cStatics,Heap.Ns.of_isNs (by kernel_rfl),by kernel_rfl⟩
 digits:=⟨(HX w.params).nsMap cStatics,Heap.Ns.of_isNs (by kernel_rfl),by kernel_rfl,by kernel_rfl⟩
 b3:=⟨96,by kernel_rfl,λs ms hk ht hm=>JeX hk ht hm⟩
 b1:=⟨85,by kernel_rfl,Jh4 w,by decide⟩
theorem JgL (P:Params) (b:Addr) (o:Obj) (e:(HX P).get? b=some o):b<N0:=by
 have:=Heap.lt_size e
 rwa [absHeap_size]at this
end
section
open PySem.W PySem.W.X PySem.Calls PySem.Spec
theorem J4V {w:World} {s:Shared} {ms:List Addr}: ∀{vs:List Value} {xs:List Int},IntsAre vs xs ->RepL w s ms vs (xs.map .int)
 |_,_,.nil=> .nil
 |_,_,.cons n t h=> .cons (.int n t) (J4V h)
set_option tactic.hygienic true in
set_option maxHeartbeats 4000000 in
theorem claim_from (H: ∀xs:List Int,xs.length<=63 ->callF (level theTop 20) J4a [.lst (xs.map .int)]=some (.bool true)):PySem.Challenge.rw_xh0043_01.Holds:=by
 refine Jaj ?_
 intro w s₀ s₁ mg mb G y fa o pm cd doc dV kV ho hd hcd hD hmg hg args vals as L hpre hlay hrd hwl hlo
 wrow_args hpre hlay hrd hwl hlo
 rename_i xs _ _ _ _ _ _ _ a vs _ hL _ _ _ hI _ hlen _
 refine o01 (script_at L) λhat hsz=>?_
 have yh:s₀.heap=HX w.params:=congrArg Prod.fst y
 have yt:s₀.toks=2367:=congrArg Prod.snd y
 have htk:=script_toks L yt
 have hobj:=script_obj L hL
 have hN:s₀.heap.objs.size=164:=by rw[yh];exact absHeap_size _ _ _
 have hk: ∀b o,(HX w.params).get? b=some o ->s₁.heap.get? b=some o:=λb o e=>L.keeps b o (by rw[yh];exact e)
 have C:Cx w ((HX w.params).nsMap mainGlobals) ((HX w.params).nsMap builtinsNs) s₁ []:=
  ⟨⟨_,Jig w,JgL w.params,hk⟩,λm hm=>(nomatch hm),λm hm=>(nomatch hm),htk,⟨_,hk _ _ (Jf4 w.params)⟩⟩
 have hfa:fa=163:=by
  refine o33 G.T.g λo1 es1 ep1 a1 a2 _ a4=>?_
  refine o33 C.glob.g λo2 es2 ep2 b1 b2 _ b4=>?_
  rw[b1]at a1
  cases a1
  rw[b2]at a2
  cases a2
  have e1:=(a4 dX.name).symm.trans (b4 dX.name)
  rw[hmg]at e1
  have e2:(HX w.params).nsMap mainGlobals dX.name=some (.ref 163):=by kernel_rfl
  rw[e2]at e1
  cases e1;rfl
 subst hfa
 have hf:Kk (stm 17)=some J4a:=by kernel_rfl
 have hFn:Zh s₁.heap 163 J4a:=(Jf1 w.params hf).keeps hk
 have hrep:RepL w s₁ [] [.ref a] [.lst (xs.map .int)]:=by
  refine .cons (.lst ⟨_,hobj⟩ (λh=>nomatch h) ?_) .nil
  exact J4V hI
 refine J98 (H xs (by lia)) ⟨rfl,by decide,by decide⟩ C hFn hrep λv s' k r=>?_
 cases r
 refine o21 k.k λh' t' q1 hkk=>?_;subst q1
 refine⟨.inl ⟨_,.bool true,[],rfl,λcls=>?_,.bool true,?_,λ_=>⟨List.nodup_nil,λa ha=>nomatch ha⟩⟩,.of_keep hkk,rfl,.of_eq hg⟩
 ·rfl
 ·wrow_post
end
namespace Z
section
noncomputable def lst (k:Nat):Stmt:=(J4a.body[k]?).getD (.Pass default)
noncomputable abbrev scL:Scope:=J4a.scope
noncomputable abbrev L19:Lv:=level theTop 19
noncomputable def step1 (L:Lv) (sc:Scope) (st:Stmt) (ρ:Rho):Option (Rho×Fl):=JeZ theTop L sc (frzAll (theTop.frz (ZV st)) ρ) st
theorem dj3 {k:Nat} (h:k<3):k=0∨k=1∨k=2:=by lia
theorem dj5 {k:Nat} (h:k<5):k=0∨k=1∨k=2∨k=3∨k=4:=by lia
theorem dj6 {k:Nat} (h:k<6):k=0∨k=1∨k=2∨k=3∨k=4∨k=5:=by lia
theorem dj7 {k:Nat} (h:k<7):k=0∨k=1∨k=2∨k=3∨k=4∨k=5∨k=6:=by lia
theorem JcL:J4a.body=(List.range 31).map lst:=by kernel_rfl
theorem bdE {α β:Type} {o:Option α} {f:α ->Option β} {a:α} {z:Option β} (h:o=some a) (k:f a=z):o.bind f=z:=(congrArg (Option.bind · f) h).trans k
theorem mpE {α β:Type} {o:Option α} {f:α ->β} {a:α} {z:Option β} (h:o=some a) (k:some (f a)=z):o.map f=z:=(congrArg (Option.map f) h).trans k
theorem ifE {α:Type} {c:Prop} [Decidable c] {x y z:α} (h:c) (k:x=z):(if c then x else y)=z:=(if_pos h).trans k
theorem J8y {α β:Type} {f g:α ->β} {l:List α} (h:l.map f=l.foldr (λx r=>g x::r) []) {x:α} (m:x∈l):f x=g x:=by
 induction l with
 |nil=>exact absurd m List.not_mem_nil
 |cons a l ih=>exact(List.mem_cons.mp m).elim (λe=>e▸(List.cons.inj h).1) (ih (List.cons.inj h).2)
theorem JN {β:Type} {f g:Nat ->β} {n k:Nat} (h:(List.range n).map f=(List.range n).foldr (λx r=>g x::r) []) (m:k<n):f k=g k:=J8y h (List.mem_range.mpr m)
theorem gdm {α:Type} {l:List α} {d:α} {k:Nat} (h:k<l.length):l.getD k d∈l:=by rw[List.getD_eq_getElem?_getD,List.getElem?_eq_getElem h];exact List.getElem_mem h
theorem Jhm {α:Type} {l:List α} {a:α} {n:Nat} (h:l.length<=n):(l++[a]).length<=n+1:=(List.length_append (as:=l) (bs:=[a])).symm▸Nat.succ_le_succ h
theorem J0 {L:Lv} {sc:Scope} {st:Stmt} {r:List Stmt} {ρ ρ':Rho} {z:Option (Rho×Fl)} (h:step1 L sc st ρ=some (ρ',.next)) (k:exSs theTop L sc r ρ'=z):exSs theTop L sc (st::r) ρ=z:=by
 exact bdE h k
theorem J7 {L:Lv} {sc:Scope} {st:Stmt} {r:List Stmt} {ρ ρ':Rho} {d:D} (h:step1 L sc st ρ=some (ρ',.ret d)):exSs theTop L sc (st::r) ρ=some (ρ',.ret d):=bdE h rfl
theorem J7N {L:Lv} {sc:Scope} {st:Stmt} {r:List Stmt} {ρ ρ':Rho} (h:step1 L sc st ρ=some (ρ',.cont)):exSs theTop L sc (st::r) ρ=some (ρ',.cont):=bdE h rfl
theorem J2 {f:D ->Rho ->Option (Rho×Fl)} {d:D} {r:List D} {ρ ρ':Rho} {z:Option (Rho×Fl)} (h:f d ρ=some (ρ',.next)) (k:loopX f r ρ'=z):loopX f (d::r) ρ=z:=bdE h k
theorem J8v {f:D ->Rho ->Option (Rho×Fl)} {d:D} {r:List D} {ρ ρ':Rho} {z:Option (Rho×Fl)} (h:f d ρ=some (ρ',.cont)) (k:loopX f r ρ'=z):loopX f (d::r) ρ=z:=bdE h k
theorem Vi {f:D ->Rho ->Option (Rho×Fl)} {d v:D} {r:List D} {ρ ρ':Rho} (h:f d ρ=some (ρ',.ret v)):loopX f (d::r) ρ=some (ρ',.ret v):=bdE h rfl
noncomputable def forF (L:Lv) (sc:Scope) (st:Stmt) (d:D) (ρ:Rho):Option (Rho×Fl):=match st with
 | .For t _ body [] _=>(bindT 9 sc t d ρ).bind λρ'=>L.ex sc ρ' body
 |_=>none
noncomputable def JU:Stmt ->Expr
 | .Assign _ v _=>v
 | .Return (some v) _=>v
 |_=> .Name (nm "") default
noncomputable def Jfg:Expr ->List Comprehension
 | .ListComp _ gs _ _=>gs
 | .DictComp _ _ gs _ _=>gs
 |_=>[]
noncomputable def J8o:Expr ->Scope
 | .ListComp _ _ sc _=>sc
 | .DictComp _ _ _ sc _=>sc
 |_=>scL
noncomputable def J4b:Expr ->Expr
 | .ListComp e _ _ _=>e
 | .DictComp e _ _ _ _=>e
 |e=>e
noncomputable abbrev lD (c:Nat):D:= .str (J9U c)
noncomputable abbrev wD (l:List Nat):D:= .str ⟨l.toArray⟩
noncomputable abbrev JeJ:List D:=[.int 18,.int 2054085,.int 200547,.int 542,.int 217]
noncomputable abbrev R0 (v:D) (l:List D):Rho:=[(nm "script",.val v),(nm "cells",.mls l)]
noncomputable abbrev R0' (v:D) (l:List D) (p n:D):Rho:=[(nm "script",.val v),(nm "cells",.mls l),(nm "place",.val p),(nm "number",.val n)]
noncomputable abbrev R1 (s:Slot) (b:Bool) (v:D) (p n:D):Rho:=[(nm "script",.val v),(nm "cells",s)]++match b with|true=>[(nm "place",.val p),(nm "number",.val n)]|false=>[]
theorem st0 (v:D):step1 L19 scL (lst 0) [(nm "script",.val v)]=some (R0 v JeJ,.next):=by kernel_rfl
theorem st1 (xs:List D) (l:List D):step1 L19 scL (lst 1) (R0 (.lst xs) l)=((JL (.lst xs) none (some (.int 60))).bind λd=>(drawn d).map (enumD 0)).bind λitems=>loopX (forF L19 scL (lst 1)) items (R0 (.lst xs) l):=by kernel_rfl
noncomputable def forB:Stmt ->List Stmt
 | .For _ _ b _ _=>b
 |_=>[]
noncomputable def bst (st:Stmt) (k:Nat):Stmt:=((forB st)[k]?).getD (.Pass default)
theorem bd1:forB (lst 1)=[bst (lst 1) 0]:=by kernel_rfl
theorem JiP (v:D) (l:List D) (p n:Int):step1 (level theTop 18) scL (bst (lst 1) 0) (R0' v l (.int p) (.int n))=(itemD (.lst l) (.int (p.fmod 5))).bind λa=>(addI .Add a (.int (n.fmod 1000000))).bind λz=>(VV l (.int (p.fmod 5)) (.int z)).map λl'=>(setR (nm "cells") (.mls l') (R0' v l (.int p) (.int n)),Fl.next):=by kernel_rfl
theorem JiN (v:D) (l:List D) (p n:Int):forF L19 scL (lst 1) (.tup [.int p,.int n]) (R0 v l)=exSs theTop (level theTop 18) scL (forB (lst 1)) (R0' v l (.int p) (.int n)):=by kernel_rfl
theorem JiO (v q m:D) (l:List D) (p n:Int):forF L19 scL (lst 1) (.tup [.int p,.int n]) (R0' v l q m)=exSs theTop (level theTop 18) scL (forB (lst 1)) (R0' v l (.int p) (.int n)):=by kernel_rfl
theorem Jx (a:Int) (n:Nat) (hn:0<n) {G:Prop} (f: ∀k:Nat,k<n ->a.fmod (n:Int)=(k:Int) ->G):G:=by
 have h0:(n:Int)≠0:=Int.ne_of_gt (Int.natCast_pos.mpr hn)
 have h1:=Int.emod_nonneg a h0
 exact f (a%n).toNat ((Int.toNat_lt h1).mpr (Int.emod_lt_of_pos a (Int.natCast_pos.mpr hn))) ((Int.fmod_eq_emod_of_nonneg _ (Int.natCast_nonneg n)).trans (Int.toNat_of_nonneg h1).symm)
theorem J5R (v:D) (a b c d e p n:Int) {G:Prop} (f: ∀a' b' c' d' e':Int,step1 (level theTop 18) scL (bst (lst 1) 0) (R0' v [.int a,.int b,.int c,.int d,.int e] (.int p) (.int n))=some (R0' v [.int a',.int b',.int c',.int d',.int e'] (.int p) (.int n),.next) ->G):G:=by
 refine Jx p 5 (by decide) λk hk e1=>?_
 have q:=JiP v [.int a,.int b,.int c,.int d,.int e] p n
 rw[show p.fmod 5=(k:Int)from e1]at q
 refine(dj5 hk).elim (λh=>?_) λh=>h.elim (λh=>?_) λh=>h.elim (λh=>?_) λh=>h.elim (λh=>?_) λh=>?_<;>rw[h]at q<;>exact f _ _ _ _ _ (q.trans rfl)
theorem KJ (v:D) (a b c d e p n:Int) {G:Prop} (f: ∀a' b' c' d' e':Int,exSs theTop (level theTop 18) scL (forB (lst 1)) (R0' v [.int a,.int b,.int c,.int d,.int e] (.int p) (.int n))=some (R0' v [.int a',.int b',.int c',.int d',.int e'] (.int p) (.int n),.next) ->G):G:=
 J5R v a b c d e p n λ_ _ _ _ _ h=>f _ _ _ _ _ (bd1▸J0 h rfl)
theorem J3I (v:D) (ys:List Int) (k:Nat) (a b c d e:Int) (p n:D) {G:Prop} (f: ∀(a' b' c' d' e':Int) (p' n':D),loopX (forF L19 scL (lst 1)) (enumD k (ys.map .int)) (R0' v [.int a,.int b,.int c,.int d,.int e] p n)=some (R0' v [.int a',.int b',.int c',.int d',.int e'] p' n',.next) ->G):G:=by
 induction ys generalizing k a b c d e p n with
 |nil=>exact f a b c d e p n rfl
 |cons y ys ih=>
  exact KJ v a b c d e k y λa1 b1 c1 d1 e1 h=>ih (k+1) a1 b1 c1 d1 e1 (.int k) (.int y) λ_ _ _ _ _ _ _ h2=>f _ _ _ _ _ _ _ (J2 ((JiO ..).trans h) h2)
theorem J5Q (v:D) (ys:List Int) (a b c d e:Int) {G:Prop} (f: ∀(t:Bool) (a' b' c' d' e':Int) (p' n':D),loopX (forF L19 scL (lst 1)) (enumD 0 (ys.map .int)) (R0 v [.int a,.int b,.int c,.int d,.int e])=some (R1 (.mls [.int a',.int b',.int c',.int d',.int e']) t v p' n',.next) ->G):G:=by
 cases ys with
 |nil=>exact f false a b c d e v v rfl
 |cons y ys=>
  exact KJ v a b c d e (0:Nat) y λa1 b1 c1 d1 e1 h=>J3I v ys 1 a1 b1 c1 d1 e1 (.int (0:Nat)) (.int y) λ_ _ _ _ _ _ _ h2=>f true _ _ _ _ _ _ _ (J2 ((JiN ..).trans h) h2)
theorem J90 (is:List Nat) (xs:List Int) {G:Prop} (f: ∀ys:List Int,is.filterMap ((xs.map D.int)[·]?)=ys.map .int ->G):G:=by
 induction is with
 |nil=>exact f [] rfl
 |cons i is ih=>
  refine ih λys h=>?_
  rw[List.filterMap_cons,List.getElem?_map]at f
  cases e:xs[i]? with
  |none=>rw[e]at f;exact f ys h
  |some x=>rw[e]at f;exact f (x::ys) (congrArg (_:: ·) h)
theorem J7u (xs:List Int) (hl:xs.length<=63) {G:Prop} (f: ∀(t:Bool) (a b c d e:Int) (p n:D),step1 L19 scL (lst 1) (R0 (.lst (xs.map .int)) JeJ)=some (R1 (.mls [.int a,.int b,.int c,.int d,.int e]) t (.lst (xs.map .int)) p n,.next) ->G):G:=
 J90 (sliceRange (sliceBounds none (some 60) none (xs.map D.int).length).1 (sliceBounds none (some 60) none (xs.map D.int).length).2.1 (sliceBounds none (some 60) none (xs.map D.int).length).2.2) xs λys hy=>
 J5Q (.lst (xs.map .int)) ys 18 2054085 200547 542 217 λ_ _ _ _ _ _ _ _ h=>f _ _ _ _ _ _ _ _ ((st1 ..).trans (bdE (bdE (show JL (.lst (xs.map .int)) none (some (.int 60))=some (.lst (ys.map .int))from
  ifE (Nat.le_trans ((List.length_map (as:=xs) D.int).symm▸hl) (by decide)) (congrArg (λl=>some (D.lst l)) hy)) rfl) h))
noncomputable abbrev turnedL:List (List Int):=[[0,1,2],[0,2,1],[1,0,2],[1,2,0],[2,0,1],[2,1,0]]
noncomputable abbrev manyL:List (List Int):=[[4,1,1],[2,2,2],[4,2,0],[2,2,1],[3,3,0],[3,2,1]]
noncomputable abbrev iD (l:List Int):D:= .lst (l.map .int)
noncomputable abbrev turnedD:D:= .lst (turnedL.map iD)
noncomputable abbrev manyD:D:= .lst (manyL.map iD)
structure Cl where
 t:Bool
 v:D
 p:D
 n:D
 a:Int
 b:Int
 c:Int
 d:Int
 e:Int
@[elab_as_elim] theorem Cl.tt {P:Cl ->Prop} (X:Cl) (h:P {X with t:=false}) (h':P {X with t:=true}):P X:=by
 obtain⟨t,v,p,n,a,b,c,d,e⟩:=X
 cases t
 ·exact h
 ·exact h'
noncomputable abbrev Cl.cs (X:Cl):List D:=[.int X.a,.int X.b,.int X.c,.int X.d,.int X.e]
noncomputable abbrev B0 (X:Cl):Rho:=R1 (.val (.lst X.cs)) X.t X.v X.p X.n++[(nm "turned",.val turnedD)]
theorem st2 (X:Cl):step1 L19 scL (lst 2) (R1 (.mls X.cs) X.t X.v X.p X.n)=some (B0 X,.next):=by
 refine Cl.tt X ?_ ?_<;>kernel_rfl
theorem st3 (X:Cl):step1 L19 scL (lst 3) (B0 X)=(itemD manyD (.int (X.a.fmod 6))).bind λm=>some (B0 X++[(nm "many",.val m)],.next):=by
 refine Cl.tt X ?_ ?_<;>kernel_rfl
noncomputable abbrev rgbC:List Nat:=[114,103,98]
noncomputable abbrev Jg9:List D:=rgbC.map lD
noncomputable def J5H:D ->Option (List D)
 | .lst y=>if Jg9.length==y.length then some (zipD Jg9 y)else none
 |_=>none
noncomputable def Jg6 (L:Lv) (e:Expr) (ρ:Rho) (items:List D):Option D:=((Jd L (J8o e) (λρ'=>(L.ev (J8o e) ρ' (J4b e)).map λd=>[d]) (Jfg e) items ρ).bind YK).map .lst
theorem st4 (X:Cl) (m:D):step1 L19 scL (lst 4) (B0 X++[(nm "many",.val m)])=(((itemD turnedD (.int ((X.a.fdiv 6).fmod 6))).bind J5H).bind (Jg6 (level theTop 18) (JU (lst 4)) [(nm "many",.val m)])).bind λd=>
  (J3h d).bind λs=>some (B0 X++[(nm "many",.val m),(nm "pool",s)],.next):=by
 refine Cl.tt X ?_ ?_<;>kernel_rfl
noncomputable def poolL (m tu:List Int):List Nat:=(rgbC.zip tu).flatMap λx=>List.replicate ((m[x.2.toNat]?).getD 0).toNat x.1
theorem JbG:manyL.map (λm=>turnedL.map λtu=>((J5H (iD tu)).bind (Jg6 (level theTop 18) (JU (lst 4)) [(nm "many",.val (iD m))])))=manyL.map λm=>turnedL.map λtu=>some (.lst ((poolL m tu).map lD)):=by kernel_rfl
theorem Je5 {m tu:List Int} (hm:m∈manyL) (ht:tu∈turnedL):(J5H (iD tu)).bind (Jg6 (level theTop 18) (JU (lst 4)) [(nm "many",.val (iD m))])=some (.lst ((poolL m tu).map lD)):=
 List.map_inj_left.mp (List.map_inj_left.mp JbG m hm) tu ht
noncomputable abbrev B5 (X:Cl) (m:D) (pl:List D) (w dr:D):Rho:=B0 X++[(nm "many",.val m),(nm "pool",.mls pl),(nm "word",.val w),(nm "draw",.val dr)]
noncomputable abbrev B6 (X:Cl) (m:D) (pl:List D) (w dr sz:D):Rho:=B0 X++[(nm "many",.val m),(nm "pool",.mls pl),(nm "word",.val w),(nm "draw",.val dr),(nm "size",.val sz)]
theorem st5 (X:Cl) (m:D) (pl:List D):step1 L19 scL (lst 5) (B0 X++[(nm "many",.val m),(nm "pool",.mls pl)])=some (B5 X m pl (wD []) (.int X.e),.next):=by
 refine Cl.tt X ?_ ?_<;>kernel_rfl
noncomputable def Jas:Nat ->List D
 |0=>[]
 |n+1=> .int ((n+1:Nat):Int)::Jas n
noncomputable def Jef (m:List Int):Nat:=(m.foldl (· + ·) 0).toNat
theorem st6 {m:List Int} (hm:m∈manyL) (X:Cl) (pl:List D) (w dr:D):step1 L19 scL (lst 6) (B5 X (iD m) pl w dr)=loopX (forF L19 scL (lst 6)) (Jas (Jef m)) (B5 X (iD m) pl w dr):=by
 obtain⟨t,v,p,n,a,b,c,d,e⟩:=X
 simp only[manyL,List.mem_cons,List.not_mem_nil,or_false]at hm
 rcases hm with rfl|rfl|rfl|rfl|rfl|rfl<;>cases t<;>kernel_rfl
theorem bd6:forB (lst 6)=[bst (lst 6) 0]:=by kernel_rfl
theorem Jj1 (X:Cl) (m:D) (pl:List D) (w dr sz:D):forF L19 scL (lst 6) sz (B5 X m pl w dr)=exSs theTop (level theTop 18) scL (forB (lst 6)) (B6 X m pl w dr sz):=by
 refine Cl.tt X ?_ ?_<;>kernel_rfl
theorem Jj2 (X:Cl) (m:D) (pl:List D) (w dr sz sz':D):forF L19 scL (lst 6) sz (B6 X m pl w dr sz')=exSs theTop (level theTop 18) scL (forB (lst 6)) (B6 X m pl w dr sz):=by
 refine Cl.tt X ?_ ?_<;>kernel_rfl
theorem Jj3 (X:Cl) (m:D) (pl:List D) (w dr sz:D):step1 (level theTop 18) scL (bst (lst 6) 0) (B6 X m pl w dr sz)=(binD .Mod dr sz).bind λi=>(J91 pl i).bind λq=>(binD .Add w q.1).bind λv1=>
  (binD .FloorDiv dr sz).bind λv2=>some (B6 X m q.2 v1 v2 sz,.next):=by
 refine Cl.tt X ?_ ?_<;>kernel_rfl
theorem JcE (w:List Nat) (c:Nat) (h:w.length<=1000):binD .Add (wD w) (lD c)=some (wD (w++[c])):=by
 show(if(⟨w.toArray⟩:Str).length+(J9U c).length<=100000 then some (D.str (⟨w.toArray⟩++J9U c))else none)=_
 have e1:(⟨w.toArray⟩:Str).length=w.length:=by show w.toArray.size=_;simp
 have e2:(J9U c).length=1:=rfl
 rw[if_pos (by lia)]
 have e3:(⟨w.toArray⟩:Str)++J9U c=⟨(w++[c]).toArray⟩:=by
  show Str.mk (w.toArray++ #[c])=_
  simp
 rw[e3]
theorem J1H {n k:Nat} (h:k<n) (hn:n<=1000):idx n (k:Int)=some k:=by
 unfold idx
 rw[if_pos (by lia)]
 unfold seqIndex?
 simp
 lia
theorem J1o {α β:Type} (f:α ->β): ∀(l:List α) (k:Nat),(l.map f).eraseIdx k=(l.eraseIdx k).map f
 |[],_=>rfl
 |_::_,0=>rfl
 |a::l,k+1=>congrArg (f a:: ·) (J1o f l k)
theorem ZC: ∀{l:List Nat} {k:Nat} (hk:k<l.length),l.Perm (l[k]::l.eraseIdx k)
 |a::l,0,_=> .refl _
 |a::l,k+1,hk=>((ZC (l:=l) (Nat.lt_of_succ_lt_succ hk)).cons a).trans (.swap _ _ _)
theorem JfG {l:List Nat} {k:Nat} (h:k<l.length) (hn:l.length<=1000):J91 (l.map lD) (.int (k:Int))=some (lD l[k],(l.eraseIdx k).map lD):=by
 show(idx (l.map lD).length (k:Int)).bind _=_
 simp only[List.length_map,J1H h hn]
 show((l.map lD)[k]?).map _=_
 simp only[List.getElem?_map,List.getElem?_eq_getElem h,J1o]
 rfl
theorem JdO (dr:Int) {n:Nat} (h:n<1000):binD .Mod (.int dr) (.int ((n+1:Nat):Int))=some (.int (dr.fmod ((n+1:Nat):Int)))/\ binD .FloorDiv (.int dr) (.int ((n+1:Nat):Int))=some (.int (dr.fdiv ((n+1:Nat):Int))):=by
 have hne:(((n+1:Nat):Int)==0)=false:=beq_eq_false_iff_ne.mpr (Int.ne_of_gt (Int.natCast_pos.mpr (Nat.succ_pos n)))
 constructor
 ·show(if(((n+1:Nat):Int)==0)=true then none else some (D.int (dr.fmod ((n+1:Nat):Int))))=_
  rw[hne];rfl
 ·show(if(((n+1:Nat):Int)==0||!decide (((n+1:Nat):Int).natAbs<1073741824))=true then none else some (D.int (dr.fdiv ((n+1:Nat):Int))))=_
  rw[hne,decide_eq_true (show((n+1:Nat):Int).natAbs<1073741824 from Nat.lt_trans (Nat.succ_lt_succ h) (by decide))];rfl
theorem J3q (X:Cl) (m:D) (l w:List Nat) (dr:Int) (n:Nat) (hl:l.length=n+1) (hn:n+w.length<=500) {G:Prop} (f: ∀(k:Nat) (hk:k<l.length) (dr':Int),
  exSs theTop (level theTop 18) scL (forB (lst 6)) (B6 X m (l.map lD) (wD w) (.int dr) (.int ((n+1:Nat):Int)))=some (B6 X m ((l.eraseIdx k).map lD) (wD (w++[l[k]])) (.int dr') (.int ((n+1:Nat):Int)),.next) ->G):G:=
 have n5:n<=500:=Nat.le_trans (Nat.le_add_right ..) hn
 have M:=JdO dr (n:=n) (Nat.lt_of_le_of_lt n5 (by decide))
 Jx dr (n+1) (Nat.succ_pos n) λk hk e=>
 have hk':k<l.length:=hl.symm▸hk
 f k hk' (dr.fdiv ((n+1:Nat):Int)) (bd6▸J0 ((Jj3 ..).trans (bdE (M.1.trans (congrArg (λz=>some (D.int z)) e)) (bdE (JfG hk' (hl.symm▸Nat.le_trans (Nat.succ_le_succ n5) (by decide)))
  (bdE (JcE w l[k] (Nat.le_trans (Nat.le_trans (Nat.le_add_left ..) hn) (by decide))) (bdE M.2 rfl))))) rfl)
theorem Jcm {l:List Nat} {k n:Nat} (hk:k<l.length) (hl:l.length=n+1):(l.eraseIdx k).length=n:=by
 rw[List.length_eraseIdx_of_lt hk,hl];rfl
theorem J75 (X:Cl) (m:D) (n:Nat) (l w:List Nat) (dr:Int) (sz:D) (hl:l.length=n) (hn:n+w.length<=500) {G:Prop} (f: ∀(w':List Nat) (dr':Int) (sz':D),(w++l).Perm w' ->
  loopX (forF L19 scL (lst 6)) (Jas n) (B6 X m (l.map lD) (wD w) (.int dr) sz)=some (B6 X m [] (wD w') (.int dr') sz',.next) ->G):G:=by
 induction n generalizing l w dr sz with
 |zero=>
  have e:=List.eq_nil_of_length_eq_zero hl
  rw[e]at f
  exact f w dr sz (.of_eq (List.append_nil w)) rfl
 |succ n ih=>
  exact J3q X m l w dr n hl (Nat.le_trans (Nat.add_le_add_right (Nat.le_succ n) _) hn) λk hk dr1 h1=>
   ih (l.eraseIdx k) (w++[l[k]]) dr1 (.int ((n+1:Nat):Int)) (Jcm hk hl) (by rw[List.length_append];exact Nat.succ_add_eq_add_succ n w.length▸hn) λw' dr' sz' hp h2=>
   f w' dr' sz' (((List.Perm.append_left w (ZC hk)).trans (.of_eq (List.append_assoc w [l[k]] _).symm)).trans hp) (J2 ((Jj2 ..).trans h1) h2)
theorem J9O (X:Cl) (m:D) (n:Nat) (l:List Nat) (dr:Int) (hl:l.length=n+1) (hn:n+1<=500) {G:Prop} (f: ∀(w':List Nat) (dr':Int) (sz':D),l.Perm w' ->
  loopX (forF L19 scL (lst 6)) (Jas (n+1)) (B5 X m (l.map lD) (wD []) (.int dr))=some (B6 X m [] (wD w') (.int dr') sz',.next) ->G):G:=
 J3q X m l [] dr n hl (Nat.le_trans (Nat.le_succ n) hn) λk hk dr1 h1=>
 J75 X m n (l.eraseIdx k) ([]++[l[k]]) dr1 (.int ((n+1:Nat):Int)) (Jcm hk hl) (Nat.le_trans (Nat.add_le_add_left (m:=1) (Nat.le_of_ble_eq_true rfl) n) hn) λw' dr' sz' hp h2=>f w' dr' sz' ((ZC hk).trans hp) (J2 ((Jj1 ..).trans h1) h2)
noncomputable def fnAt (i:Nat):Fn:=(Kk (stm i)).getD ⟨[],[],scL⟩
noncomputable def fst (i k:Nat):Stmt:=((fnAt i).body[k]?).getD (.Pass default)
theorem st7 (X:Cl) (m:D) (w dr sz:D):step1 L19 scL (lst 7) (B6 X m [] w dr sz)=(callF (level theTop 18) (fnAt 14) [w,.int X.e]).bind λd=>some (B6 X m [] w dr sz++[(nm "typed",.val d)],.next):=by
 refine Cl.tt X ?_ ?_<;>kernel_rfl
theorem Jw {L:Lv} {f:Fn} {as:List D} {ρ:Rho} {d:D} (hl:(f.params.length==as.length)=true) (h:L.ex f.scope (bindAll f.params as) f.body=some (ρ,.ret d)):callF L f as=some d:=by
 unfold callF
 rw[hl,h];rfl
theorem JeL:(fnAt 14).body=[fst 14 0,fst 14 1,fst 14 2,fst 14 3,fst 14 4,fst 14 5]:=by kernel_rfl
noncomputable abbrev J32:Scope:=(fnAt 14).scope
noncomputable abbrev L17:Lv:=level theTop 17
noncomputable abbrev L16:Lv:=level theTop 16
noncomputable abbrev Kg:List Int:=[173,847,6150,6155,6156,6157,8203,8204,8205,8288,65279,65024,65025,65026,65027,65028,65029,65030,65031,65032,65033,65034,65035,65036,65037,65038,65039]
noncomputable abbrev Jcg:List Int:=[97,65,119808,119860,119912,120016,120172,120224,120276,120328,120380,120432]
noncomputable abbrev Jcx:List (List Int):=[[8475,8476,8477],[119970,120074,120126],[8492,120069,120121]]
noncomputable abbrev E3' (w s:D):Rho:=[(nm "word",.val w),(nm "style",.val s),(nm "unseen",.val (iD Kg)),(nm "bases",.val (iD Jcg)),(nm "other",.val (.lst (Jcx.map iD)))]
noncomputable abbrev E4' (w s:D) (l:List D):Rho:=E3' w s++[(nm "typed",.mls l)]
noncomputable abbrev E5' (w s:D) (l:List D) (p c:D) (k:Option D):Rho:=E3' w s++[(nm "typed",.mls l),(nm "place",.val p),(nm "sign",.val c)]++match k with|some k=>[(nm "kind",.val k)]|none=>[]
theorem ty0 (w s:D):exSs theTop L17 J32 [fst 14 0,fst 14 1,fst 14 2,fst 14 3,fst 14 4,fst 14 5] [(nm "word",.val w),(nm "style",.val s)]=exSs theTop L17 J32 [fst 14 4,fst 14 5] (E4' w s []):=by kernel_rfl
theorem ty4 (w s:Int) (l:List Nat):step1 L17 J32 (fst 14 4) (E4' (wD l) (.int s) [])=(((truthy (.int (s.fmod 2))).bind λc=>if c then ZE ⟨l.toArray⟩ [wD [103,98],lD 13191]else some (wD l)).bind λd=>(drawn d).map (enumD 0)).bind λitems=>loopX (forF L17 J32 (fst 14 4)) items (E4' (wD l) (.int s) []):=by kernel_rfl
theorem Jj8 (w s:D) (l:List D) (p c:D):forF L17 J32 (fst 14 4) (.tup [p,c]) (E4' w s l)=exSs theTop L16 J32 (forB (fst 14 4)) (E5' w s l p c none):=by kernel_rfl
theorem Jj9 (w s:D) (l:List D) (p c p' c' k:D):forF L17 J32 (fst 14 4) (.tup [p,c]) (E5' w s l p' c' (some k))=exSs theTop L16 J32 (forB (fst 14 4)) (E5' w s l p c (some k)):=by kernel_rfl
theorem bdt:forB (fst 14 4)=[bst (fst 14 4) 0,bst (fst 14 4) 1,bst (fst 14 4) 2,bst (fst 14 4) 3]:=by kernel_rfl
theorem tb0 (w c:D) (s p:Int) (l:List D) (k:Option D):step1 L16 J32 (bst (fst 14 4) 0) (E5' w (.int s) l (.int p) c k)=(((itemD (iD Kg) (.int ((s.fdiv 2+10*p).fmod 27))).bind λd=>some [d]).bind (J4 (nm "chr"))).bind λd=>if l.length<=1000000 then some (E5' w (.int s) (l++[d]) (.int p) c k,.next)else none:=by
 cases k<;>kernel_rfl
theorem tb1 (w c:D) (s p:Int) (l:List D) (k:Option D):step1 L16 J32 (bst (fst 14 4) 1) (E5' w (.int s) l (.int p) c k)=some (E5' w (.int s) l (.int p) c (some (.int ((s.fdiv 54+4*p).fmod 15))),.next):=by
 cases k<;>kernel_rfl
theorem tb3 (w c k s p:D) (l:List D):step1 L16 J32 (bst (fst 14 4) 3) (E5' w s l p c (some k))=if l.length<=1000000 then some (E5' w s (l++[c]) p c (some k),.next)else none:=by kernel_rfl
noncomputable abbrev signsL:List Nat:=[114,103,98,13191]
noncomputable def Yd (k c:Nat):Nat:=if c==13191 then c else if k<12 then((Jcg[k]?).getD 0).toNat+c-97 else((((Jcx[if c==114 then 0 else if c==103 then 1 else 2]?).getD [])[k-12]?).getD 0).toNat
theorem Jeg (w s p:D) (l:List D):signsL.map (λc=>(List.range 15).map λ(k:Nat)=>step1 L16 J32 (bst (fst 14 4) 2) (E5' w s l p (lD c) (some (.int k))))=signsL.map λc=>(List.range 15).map λ(k:Nat)=>some (E5' w s l p (lD (Yd k c)) (some (.int k)),Fl.next):=by kernel_rfl
theorem tb2 {k c:Nat} (hc:c∈signsL) (hk:k<15) (w s p:D) (l:List D):step1 L16 J32 (bst (fst 14 4) 2) (E5' w s l p (lD c) (some (.int k)))=some (E5' w s l p (lD (Yd k c)) (some (.int k)),.next):=List.map_inj_left.mp (List.map_inj_left.mp (Jeg w s p l) c hc) k (List.mem_range.mpr hk)
theorem ty5 (w s:D) (l:List D) (p c k:D):step1 L17 J32 (fst 14 5) (E5' w s l p c (some k))=some (frzAll [nm "typed"] (E5' w s l p c (some k)),.ret (.lst l)):=by kernel_rfl
noncomputable def Jq:List Nat:=Kg.map (·.toNat)
theorem JfX:(List.range 27).map (λ(j:Nat)=>((itemD (iD Kg) (.int (j:Int))).bind λd=>some [d]).bind (J4 (nm "chr")))=(List.range 27).map λj=>some (lD ((Jq[j]?).getD 0)):=by kernel_rfl
theorem Jhe {j:Nat} (h:j<27):((itemD (iD Kg) (.int (j:Int))).bind λd=>some [d]).bind (J4 (nm "chr"))=some (lD ((Jq[j]?).getD 0)):=List.map_inj_left.mp JfX j (List.mem_range.mpr h)
inductive Typ:List Nat ->List Nat ->Prop
 |nil:Typ [] []
 |cons {c:Nat} {cs t:List Nat} {j k:Nat}:c∈signsL ->j<27 ->k<15 ->Typ cs t ->Typ (c::cs) ((Jq[j]?).getD 0::Yd k c::t)
theorem Typ.len {cs t:List Nat} (h:Typ cs t):t.length=2*cs.length:=by
 induction h with
 |nil=>rfl
 |cons _ _ _ _ ih=>simp only[List.length_cons,ih];lia
theorem J9B (w:D) (s p:Int) (l:List Nat) {c:Nat} (hc:c∈signsL) (hl:l.length<=1000) (kd:Option D) {G:Prop} (f: ∀(j k:Nat),j<27 ->k<15 ->
  exSs theTop L16 J32 (forB (fst 14 4)) (E5' w (.int s) (l.map lD) (.int p) (lD c) kd)=some (E5' w (.int s) ((l++[(Jq[j]?).getD 0,Yd k c]).map lD) (.int p) (lD (Yd k c)) (some (.int (k:Int))),.next) ->G):G:=by
 refine Jx (s.fdiv 2+10*p) 27 (by lia) λj hj ej=>?_
 refine Jx (s.fdiv 54+4*p) 15 (by lia) λk hk ek=>?_
 refine f j k hj hk ?_
 have hm:(l.map lD).length<=1000:=(List.length_map (as:=l) lD).symm▸hl
 rw[List.map_append,show[(Jq[j]?).getD 0,Yd k c].map lD=[lD ((Jq[j]?).getD 0)]++[lD (Yd k c)]from rfl,<-List.append_assoc]
 have h1:=tb1 w (lD c) s p (l.map lD++[lD ((Jq[j]?).getD 0)]) kd
 rw[show(s.fdiv 54+4*p).fmod 15=(k:Int)from ek]at h1
 exact bdt▸J0 ((tb0 ..).trans (bdE (ej▸Jhe hj) (ifE (Nat.le_trans hm (by decide)) rfl))) (J0 h1 (J0 (tb2 hc hk _ _ _ _) (J0 ((tb3 ..).trans (ifE (Nat.le_trans (Jhm hm) (by decide)) rfl)) rfl)))
theorem Jep (w:D) (s:Int) (cs:List Nat) (p:Nat) (l:List Nat) (p0 c0 k0:D) (hc: ∀c∈cs,c∈signsL) (hl:l.length+2*cs.length<=1000) {G:Prop} (f: ∀(t:List Nat) (p' c' k':D),Typ cs t ->
  loopX (forF L17 J32 (fst 14 4)) (enumD p (cs.map lD)) (E5' w (.int s) (l.map lD) p0 c0 (some k0))=some (E5' w (.int s) ((l++t).map lD) p' c' (some k'),.next) ->G):G:=by
 induction cs generalizing p l p0 c0 k0 with
 |nil=>exact f [] p0 c0 k0 .nil (congrArg (λ(l:List Nat)=>some (E5' w (.int s) (l.map lD) p0 c0 (some k0),Fl.next)) (List.append_nil l).symm)
 |cons c cs ih=>
  exact J9B w s p l (hc c List.mem_cons_self) (Nat.le_trans (Nat.le_add_right ..) hl) (some k0) λj k hj hk h1=>
   ih (p+1) (l++[(Jq[j]?).getD 0,Yd k c]) (.int p) (lD (Yd k c)) (.int (k:Int)) (λx hx=>hc x (List.mem_cons_of_mem _ hx)) (by rw[List.length_append,List.length_cons]at*;simp only[List.length_cons,List.length_nil];lia) λt p' c' k' ht h2=>
   f _ p' c' k' (.cons (hc c List.mem_cons_self) hj hk ht) (J2 ((Jj9 ..).trans h1) (h2.trans (congrArg (λ(l:List Nat)=>some (E5' w (.int s) (l.map lD) p' c' (some k'),Fl.next)) (List.append_assoc l _ t))))
theorem J7w (l:List Nat):chars ⟨l.toArray⟩=l.map lD:=by
 unfold chars
 rw[List.toList_toArray]
theorem Jeo (l:List Nat) (s:Int) (cs:List Nat) (hcs:cs≠[]) (hc: ∀c∈cs,c∈signsL) (hl:cs.length<=100) (h:((truthy (.int (s.fmod 2))).bind λc=>if c then ZE ⟨l.toArray⟩ [wD [103,98],lD 13191]else some (wD l))=some (wD cs))
  {G:Prop} (f: ∀t,Typ cs t ->callF (level theTop 18) (fnAt 14) [wD l,.int s]=some (.lst (t.map lD)) ->G):G:=by
 cases cs with
 |nil=>exact absurd rfl hcs
 |cons c cs=>
  refine J9B (wD l) s (0:Nat) [] (hc c List.mem_cons_self) (Nat.zero_le _) none λj k hj hk h1=>?_
  refine Jep (wD l) s cs 1 ([]++[(Jq[j]?).getD 0,Yd k c]) (.int (0:Nat)) (lD (Yd k c)) (.int (k:Int)) (λx hx=>hc x (List.mem_cons_of_mem _ hx)) (Nat.le_trans (Nat.add_le_add_left (Nat.mul_le_mul_left 2 (Nat.le_trans (Nat.le_succ _) hl)) 2) (by decide)) λt p' c' k' ht h2=>?_
  refine f _ (.cons (hc c List.mem_cons_self) hj hk ht) (Jw (ρ:=frzAll [nm "typed"] (E5' (wD l) (.int s) (([]++[(Jq[j]?).getD 0,Yd k c]++t).map lD) p' c' (some k'))) (by kernel_rfl) ?_)
  show exSs theTop L17 J32 (fnAt 14).body [(nm "word",.val (wD l)),(nm "style",.val (.int s))]=_
  rw[JeL,ty0]
  refine J0 (ρ':=E5' (wD l) (.int s) (([]++[(Jq[j]?).getD 0,Yd k c]++t).map lD) p' c' (some k')) ?_ ?_
  ·exact(ty4 0 ..).trans (bdE (bdE h (congrArg (λz=>some (enumD 0 z)) (J7w (c::cs)))) (J2 ((Jj8 ..).trans h1) h2))
  ·exact J7 (ty5 ..)
open StrLaws Builtin.Str in
noncomputable def J3s (s sub:List Nat) (hi limit:Nat):List Nat ->Nat ->Nat ->List Nat
 |[],_,_=>[]
 |i::r,n,free=>match Nat.blt n limit&&Nat.ble free i&&Nat.ble (i+sub.length) hi&&((s.drop i).take sub.length==sub)with
  |true=>i::J3s s sub hi limit r (n+1) (i+sub.length)
  |false=>J3s s sub hi limit r n free
open StrLaws Builtin.Str in
theorem J8L (s sub:List Nat) (hi limit:Nat): ∀(l:List Nat) (st:Array Nat×Nat),(forIn l st (occBody ⟨s.toArray⟩ ⟨sub.toArray⟩ hi limit)).run.fst.toList=st.1.toList++J3s s sub hi limit l st.1.size st.2
 |[],st=>by rw[List.forIn_nil,J3s,List.append_nil];rfl
 |i::l,(f,fr)=>by
  rw[List.forIn_cons]
  unfold occBody
  have e:subAt ⟨s.toArray⟩ ⟨sub.toArray⟩ i=((s.drop i).take sub.length==sub):=by rw[subAt_eq];simp[Str.length]
  have eL:(⟨sub.toArray⟩:Str).length=sub.length:=by simp[Str.length]
  rw[J3s]
  by_cases hc:((f.size<limit/\ fr<=i)/\ i+sub.length<=hi)/\ ((s.drop i).take sub.length==sub)=true
  ·have q:(Nat.blt f.size limit&&Nat.ble fr i&&Nat.ble (i+sub.length) hi&&((s.drop i).take sub.length==sub))=true:=by
    rw[hc.2,Bool.and_true,Nat.ble_eq_true_of_le hc.1.2,Nat.ble_eq_true_of_le hc.1.1.2,Bool.and_true,Bool.and_true]
    exact Nat.ble_eq_true_of_le hc.1.1.1
   rw[eL,e,if_pos hc]
   have ih:=J8L s sub hi limit l (f.push i,i+sub.length)
   simp only[q]
   show(forIn l (f.push i,i+sub.length) (occBody ⟨s.toArray⟩ ⟨sub.toArray⟩ hi limit)).run.fst.toList=_
   rw[ih,Array.toList_push,Array.size_push,List.append_assoc];rfl
  ·have q:(Nat.blt f.size limit&&Nat.ble fr i&&Nat.ble (i+sub.length) hi&&((s.drop i).take sub.length==sub))=false:=by
    rw[Bool.eq_false_iff]
    intro h
    simp only[Bool.and_eq_true]at h
    exact hc ⟨⟨⟨Nat.le_of_ble_eq_true h.1.1.1,Nat.le_of_ble_eq_true h.1.1.2⟩,Nat.le_of_ble_eq_true h.1.2⟩,h.2⟩
   rw[eL,e,if_neg hc]
   have ih:=J8L s sub hi limit l (f,fr)
   simp only[q]
   exact ih
open StrLaws Builtin.Str in
theorem JdV (s sub:List Nat) (lo hi limit:Nat):occurrences ⟨s.toArray⟩ ⟨sub.toArray⟩ lo hi limit=J3s s sub hi limit (List.range' lo (hi+1-lo)) 0 lo:=by
 rw[occ_eq,J8L];rfl
noncomputable abbrev JfC (s sub:List Nat):List Nat:=J3s s sub s.length (s.length+1) (List.range' 0 (s.length+1)) 0 0
theorem Yc (l:List Nat):(⟨l.toArray⟩:Str).length=l.length:=by simp[Str.length]
theorem Jd0 (s:List Nat) (c:Nat):ZO ⟨s.toArray⟩ [lD c]=some (.int ((JfC s [c]).length:Nat)):=by
 show some (D.int (Txt.count ⟨s.toArray⟩ ⟨[c].toArray⟩))=_
 unfold Txt.count
 rw[JdV,Yc];rfl
end
section
open Builtin.Str
noncomputable def Jg3 (z:List Nat) (parts:List (List Nat)):List Nat:=(parts.drop 1).foldl (λacc p=>acc++z++p) (parts.headD [])
noncomputable def Jgs (x cuts:List Nat) (n:Nat):List (List Nat):=((0::cuts.map (· +n)).zip (cuts++[x.length])).map λp=>(x.drop p.1).take (p.2-p.1)
noncomputable def J4r (x y z:List Nat):List Nat:=match JfC x y with
 |[]=>x
 |a::r=>Jg3 z (Jgs x (a::r) y.length)
noncomputable abbrev sD (l:List Nat):Str:=⟨l.toArray⟩
theorem J4O (z:List Nat): ∀(parts:List (List Nat)) (acc:List Nat),(parts.map sD).foldl (λ(a:Array Nat) p=>a++(sD z).cps++p.cps) acc.toArray=(parts.foldl (λacc p=>acc++z++p) acc).toArray
 |[],_=>rfl
 |p::r,acc=>by
  rw[List.map_cons,List.foldl_cons,List.foldl_cons]
  have:acc.toArray++(sD z).cps++(sD p).cps=(acc++z++p).toArray:=by simp
  rw[this]
  exact J4O z r _
theorem J7Z (z:List Nat) (parts:List (List Nat)):glued (sD z) (parts.map sD)=sD (Jg3 z parts):=by
 unfold glued Jg3
 cases parts with
 |nil=>rfl
 |cons p r=>
  show Str.mk ((r.map sD).foldl _ p.toArray)=_
  rw[J4O];rfl
theorem JdZ (x cuts:List Nat) (n:Nat):partsBetween (sD x) cuts n=(Jgs x cuts n).map sD:=by
 unfold partsBetween Jgs
 rw[List.map_map,Yc]
 refine List.map_congr_left λp _=>?_
 show Str.mk _=Str.mk _
 congr 1
 apply Array.toList_inj.mp
 simp[Array.toList_extract,List.extract_eq_take_drop]
theorem Jcy (x y z:List Nat) (hy:y≠[]):Txt.replace (sD x) (sD y) (sD z)=sD (J4r x y z):=by
 unfold Txt.replace J4r
 rw[JdV,Yc,Yc]
 have:(y.length==0)=false:=by cases y with
  |nil=>exact absurd rfl hy
  |cons=>rfl
 rw[this,Bool.false_and,Bool.or_false,Nat.sub_zero]
 cases h:J3s x y x.length (x.length+1) (List.range' 0 (x.length+1)) 0 0 with
 |nil=>rw[show JfC x y=[]from h];rfl
 |cons a r=>
  rw[show JfC x y=a::r from h]
  show glued (sD z) (partsBetween (sD x) (a::r) y.length)=_
  rw[JdZ,J7Z]
theorem J8h: ∀(l:List (List Nat)) (acc:List Nat),l.foldl (λacc p=>acc++[]++p) acc=acc++l.flatten
 |[],acc=>by simp
 |p::l,acc=>by rw[List.foldl_cons,J8h l];simp
theorem Jeh (l:List (List Nat)):Kc (l.map wD)=some (l.map sD):=by
 induction l with
 |nil=>rfl
 |cons p l ih=>exact congrArg (Option.map (sD p:: ·)) ih
theorem J5B: ∀(l:List (List Nat)) (n:Nat),(l.map sD).foldl (λ(a:Nat) (x:Str)=>a+x.length+(sD []).length) n=n+l.flatten.length
 |[],n=>by simp
 |p::l,n=>by
  rw[List.map_cons,List.foldl_cons,J5B l,Yc,Yc,List.flatten_cons,List.length_append,List.length_nil];lia
theorem Jfc (l:List (List Nat)) (h:l.flatten.length<=1000):J1K (sD []) [.lst (l.map wD)]=some (wD l.flatten):=by
 show(Kc (l.map wD)).bind _=_
 rw[Jeh]
 show(if JoinOk (sD []) (l.map sD)=true then some (D.str (Txt.join (sD []) (l.map sD)))else none)=_
 have e:JoinOk (sD []) (l.map sD)=true:=by
  unfold JoinOk tooLong
  rw[List.foldl_toArray,J5B,sizeLine_eq]
  simp only[Nat.zero_add,Bool.not_eq_true',decide_eq_false_iff_not];lia
 rw[e,if_pos rfl]
 unfold Txt.join
 rw[J7Z]
 unfold Jg3
 cases l with
 |nil=>rfl
 |cons p r=>
  show some (D.str (sD (r.foldl (λacc p=>acc++[]++p) p)))=_
  rw[J8h,List.flatten_cons]
end
section
noncomputable def wordsN:Nat ->List (List Nat)
 |0=>[[]]
 |n+1=>(wordsN n).flatMap λw=>rgbC.map (· ::w)
theorem VM: ∀{n:Nat} {w:List Nat},w.length=n ->(∀c∈w,c∈rgbC) ->w∈wordsN n
 |0,w,h,_=>by obtain rfl:=List.eq_nil_of_length_eq_zero h;exact List.mem_cons_self
 |n+1,[],h,_=>by cases h
 |n+1,c::w,h,hc=>by
  rw[wordsN,List.mem_flatMap]
  exact⟨w,VM (Nat.succ.inj h) λx hx=>hc x (List.mem_cons_of_mem _ hx),List.mem_map_of_mem (hc c List.mem_cons_self)⟩
noncomputable def glue (c:Nat):List Nat ->List Nat
 |[]=>[c]
 |d::t=>if c==103&&d==98 then 13191::t else c::d::t
theorem YR (c d:Nat) (t:List Nat):glue c (d::t)=if c==103&&d==98 then 13191::t else c::d::t:=rfl
noncomputable def gbJoin:List Nat ->List Nat
 |[]=>[]
 |c::r=>glue c (gbJoin r)
noncomputable def back (c:Nat):List Nat:=if c==13191 then[103,98]else[c]
theorem J7g (c:Nat) (hc:c≠13191): ∀l:List Nat,(glue c l).flatMap back=c::l.flatMap back
 |[]=>by simp[glue,back,hc]
 |d::t=>by
  rw[YR]
  split
  ·rename_i h
   simp only[Bool.and_eq_true,beq_iff_eq]at h
   clear hc;obtain⟨rfl,rfl⟩:=h
   rfl
  ·rw[List.flatMap_cons]
   have:back c=[c]:=by unfold back;rw[if_neg (by simpa using hc)]
   rw[this];rfl
theorem Jcz {c:Nat} (h:c∈rgbC):c≠13191:=by
 simp only[rgbC,List.mem_cons,List.not_mem_nil,or_false]at h
 lia
theorem J7f: ∀{w:List Nat},(∀c∈w,c∈rgbC) ->(gbJoin w).flatMap back=w
 |[],_=>rfl
 |c::w,h=>by rw[gbJoin,J7g c (Jcz (h c List.mem_cons_self)),J7f λx hx=>h x (List.mem_cons_of_mem _ hx)]
theorem J7h: ∀{w:List Nat},(∀c∈w,c∈rgbC) ->w.flatMap back=w
 |[],_=>rfl
 |c::w,h=>by
  rw[List.flatMap_cons,J7h λx hx=>h x (List.mem_cons_of_mem _ hx)]
  simp[back,Jcz (h c List.mem_cons_self)]
theorem JaG {c:Nat} {l:List Nat} (hc:c∈signsL) (hl: ∀x∈l,x∈signsL): ∀x∈glue c l,x∈signsL:=by
 cases l with
 |nil=>intro x hx;simp[glue]at hx;subst hx;exact hc
 |cons d t=>
  rw[YR]
  intro x hx
  split at hx
  ·rcases List.mem_cons.mp hx with rfl|hx
   ·simp[signsL]
   ·exact hl x (List.mem_cons_of_mem _ hx)
  ·exact Or.elim (List.mem_cons.mp hx) (λe=>e▸hc) λhx=>hl x hx
theorem J5s {c:Nat} (h:c∈rgbC):c∈signsL:=by
 simp only[rgbC,signsL,List.mem_cons,List.not_mem_nil,or_false]at h⊢
 lia
theorem Jcp: ∀{w:List Nat},(∀c∈w,c∈rgbC) -> ∀x∈gbJoin w,x∈signsL
 |[],_,x,hx=>absurd hx List.not_mem_nil
 |c::w,h,x,hx=>JaG (J5s (h c List.mem_cons_self)) (Jcp λx hx=>h x (List.mem_cons_of_mem _ hx)) x hx
theorem JaF (c:Nat) (l:List Nat):(glue c l).length<=l.length+1:=by
 cases l with
 |nil=>exact Nat.le_refl _
 |cons d t=>rw[YR];split<;>simp
theorem Jco: ∀w:List Nat,(gbJoin w).length<=w.length
 |[]=>Nat.le_refl _
 |c::w=>by have:=JaF c (gbJoin w);have:=Jco w;rw[gbJoin,List.length_cons];lia
theorem JgI {w:List Nat} (h:w≠[]):gbJoin w≠[]:=by
 cases w with
 |nil=>exact absurd rfl h
 |cons c w=>
  rw[gbJoin]
  cases gbJoin w with
  |nil=>simp[glue]
  |cons d t=>rw[YR];split<;>simp
theorem JfJ:(wordsN 5).map (λw=>J4r w [103,98] [13191])=(wordsN 5).map gbJoin:=by kernel_rfl
theorem JfK:(wordsN 6).map (λw=>J4r w [103,98] [13191])=(wordsN 6).map gbJoin:=by kernel_rfl
theorem JfL {w:List Nat} (hl:w.length=5∨w.length=6) (hc: ∀c∈w,c∈rgbC):ZE (sD w) [wD [103,98],lD 13191]=some (wD (gbJoin w)):=by
 have e:J4r w [103,98] [13191]=gbJoin w:=by
  refine Or.elim hl (λh=>?_) λh=>?_
  ·exact List.map_inj_left.mp JfJ w (VM h hc)
  ·exact List.map_inj_left.mp JfK w (VM h hc)
 show(if(sD [103,98]==sD [13191])=true then none else if(sD w).length<=1000&&(sD [13191]).length<=10 then some (D.str (Txt.replace (sD w) (sD [103,98]) (sD [13191])))else none)=_
 rw[if_neg (by decide),Yc,if_pos (by simp[Yc];lia),Jcy _ _ _ (by simp),e]
theorem gC {α:Type} {f:D ->Option (List α)} {d:D} {r:List D} {xs ys:List α} (h:f d=some xs) (k:J6 f r=some ys):J6 f (d::r)=some (xs++ys):=by
 show(f d).bind _=_
 rw[h]
 exact congrArg (Option.bind · λys=>some (xs++ys)) k
theorem J69 {α:Type} {f:D ->Option (List α)} {g:D ->List α} {l:List D} (h: ∀d∈l,f d=some (g d)):J6 f l=some (l.flatMap g):=by
 induction l with
 |nil=>rfl
 |cons d l ih=>exact gC (h d List.mem_cons_self) (ih λx hx=>h x (List.mem_cons_of_mem _ hx))
theorem Jgg:(List.range 27).map (λ(j:Nat)=>callF L17 (fnAt 10) [lD ((Jq[j]?).getD 0)])=(List.range 27).map λ_=>some (.bool true):=by kernel_rfl
theorem Jgf:signsL.map (λc=>(List.range 15).map λk=>callF L17 (fnAt 10) [lD (Yd k c)])=signsL.map λc=>(List.range 15).map λk=>some (.bool false):=by kernel_rfl
theorem Jgi:signsL.map (λc=>(List.range 15).map λk=>callF L16 (fnAt 12) [lD (Yd k c)])=signsL.map λc=>(List.range 15).map λk=>some (wD (back c)):=by kernel_rfl
theorem JhW {j:Nat} (h:j<27):callF L17 (fnAt 10) [lD ((Jq[j]?).getD 0)]=some (.bool true):=List.map_inj_left.mp Jgg j (List.mem_range.mpr h)
theorem JhV {c k:Nat} (hc:c∈signsL) (h:k<15):callF L17 (fnAt 10) [lD (Yd k c)]=some (.bool false):=List.map_inj_left.mp (List.map_inj_left.mp Jgf c hc) k (List.mem_range.mpr h)
theorem JhX {c k:Nat} (hc:c∈signsL) (h:k<15):callF L16 (fnAt 12) [lD (Yd k c)]=some (wD (back c)):=List.map_inj_left.mp (List.map_inj_left.mp Jgi c hc) k (List.mem_range.mpr h)
noncomputable def Zw:Nat ->List D
 |0=>[]
 |n+1=> .bool true:: .bool false::Zw n
noncomputable abbrev B7 (X:Cl) (m w dr sz:D) (ty:List D):Rho:=B6 X m [] w dr sz++[(nm "typed",.val (.lst ty))]
noncomputable abbrev B8 (X:Cl) (m w dr sz:D) (ty:List D) (go:D):Rho:=B6 X m [] w dr sz++[(nm "typed",.val (.lst ty)),(nm "gone",.val go)]
theorem st8 (X:Cl) (m w dr sz:D) (ty:List D):step1 L19 scL (lst 8) (B7 X m w dr sz ty)=(((J6 (λd=>(callF L17 (fnAt 10) [d]).map λd=>[d]) ty).bind YK).map .lst).bind λd=>some (B8 X m w dr sz ty d,.next):=by
 refine Cl.tt X ?_ ?_<;>kernel_rfl
theorem J82: ∀{cs t:List Nat},Typ cs t ->J6 (λd=>(callF L17 (fnAt 10) [d]).map λd=>[d]) (t.map lD)=some (Zw cs.length)
 |_,_,.nil=>rfl
 |_,_,.cons (cs:=cs) (t:=t) hc hj hk h=>by
  exact gC (congrArg _ (JhW hj)) (gC (congrArg _ (JhV hc hk)) (J82 h))
noncomputable def J7e:Expr ->Expr
 | .Call _ (a::_) _ _=>a
 |e=>e
noncomputable def clF (L:Lv) (e:Expr) (ρ:Rho) (d:D):Option (List D):=match Jfg e with
 |g::_=>(bindT 9 (J8o e) g.target d ρ).bind λρ'=>(J5M L (J8o e) ρ' g.ifs).bind λt=>if t then(L.ev (J8o e) ρ' (J4b e)).map λd=>[d]else some []
 |[]=>none
noncomputable abbrev B9 (X:Cl) (m w dr sz:D) (ty go:List D) (tx:D):Rho:=B6 X m [] w dr sz++[(nm "typed",.val (.lst ty)),(nm "gone",.val (.lst go)),(nm "text",.val tx)]
theorem st9 (X:Cl) (m w dr sz:D) (ty go:List D):step1 L19 scL (lst 9) (B8 X m w dr sz ty (.lst go))=(((((if ty.length==go.length then some (zipD ty go)else none).bind λitems=>((J6 (clF L17 (J7e (JU (lst 9))) []) items).bind YK).map .lst).bind λd=>some [d]).bind (J1K (sD [])))).bind λd=>some (B9 X m w dr sz ty go d,.next):=by
 refine Cl.tt X ?_ ?_<;>kernel_rfl
theorem Jgp (d:D):clF L17 (J7e (JU (lst 9))) [] (.tup [d,.bool true])=some []:=by kernel_rfl
theorem Jgo (d:D):clF L17 (J7e (JU (lst 9))) [] (.tup [d,.bool false])=(callF L16 (fnAt 12) [d]).map λd=>[d]:=by kernel_rfl
theorem J9p: ∀{cs t:List Nat},Typ cs t ->J6 (clF L17 (J7e (JU (lst 9))) []) (zipD (t.map lD) (Zw cs.length))=some (cs.map λc=>wD (back c))
 |_,_,.nil=>rfl
 |_,_,.cons (cs:=cs) (t:=t) hc hj hk h=>by
  exact gC (Jgp _) (gC ((Jgo _).trans (congrArg _ (JhX hc hk))) (J9p h))
theorem J1F (n:Nat):(Zw n).length=2*n:=by
 induction n with
 |zero=>rfl
 |succ n ih=>exact congrArg (· +2) ih
theorem J83 {cs t:List Nat} (h:Typ cs t) (hl:cs.length<=100) (X:Cl) (m w dr sz:D):step1 L19 scL (lst 8) (B7 X m w dr sz (t.map lD))=some (B8 X m w dr sz (t.map lD) (.lst (Zw cs.length)),.next):=by
 rw[st8,J82 h]
 show((YK (Zw cs.length)).map D.lst).bind _=_
 unfold YK
 rw[if_pos (by rw[J1F];lia)]
 rfl
theorem J9q {cs t w:List Nat} (h:Typ cs t) (hl:cs.length<=100) (hw:cs.flatMap back=w) (hw2:w.length<=1000) (X:Cl) (m wd dr sz:D):
  step1 L19 scL (lst 9) (B8 X m wd dr sz (t.map lD) (.lst (Zw cs.length)))=some (B9 X m wd dr sz (t.map lD) (Zw cs.length) (wD w),.next):=by
 rw[st9,List.length_map,h.len,J1F,if_pos (by simp)]
 show(((((J6 (clF L17 (J7e (JU (lst 9))) []) (zipD (t.map lD) (Zw cs.length))).bind YK).map D.lst).bind λd=>some [d]).bind (J1K (sD []))).bind _=_
 rw[J9p h]
 show(((((YK (cs.map λc=>wD (back c)))).map D.lst).bind λd=>some [d]).bind (J1K (sD []))).bind _=_
 unfold YK
 rw[if_pos (by rw[List.length_map];lia)]
 show(J1K (sD []) [.lst (cs.map λc=>wD (back c))]).bind _=_
 have e:(cs.map λc=>wD (back c))=(cs.map back).map wD:=by rw[List.map_map];rfl
 have e2:(cs.map back).flatten=w:=by rw[<-hw,List.flatMap_def]
 rw[e,Jfc _ (by rw[e2];exact hw2),e2]
 rfl
noncomputable abbrev B10 (X:Cl) (m w dr sz:D) (ty go:List D) (tx:D) (ns:List D):Rho:=B6 X m [] w dr sz++[(nm "typed",.val (.lst ty)),(nm "gone",.val (.lst go)),(nm "text",.val tx),(nm "notes",.mls ns)]
noncomputable def J1U (n:Nat):D:= .lst ((Zw n).map λd=>match d with| .bool b=> .tup [.bool b,.bool (!b)]|d=>d)
theorem JiD {n:Nat} (h:n<=6) (X:Cl) (m w dr sz:D) (ty:List D) (tx:D):step1 L19 scL (lst 10) (B9 X m w dr sz ty (Zw n) tx)=some (B10 X m w dr sz ty (Zw n) tx [.tup [J1U n,J1U n]],.next):=by
 obtain⟨t,v,p,q,a,b,c,d,e⟩:=X
 have:n=0∨n=1∨n=2∨n=3∨n=4∨n=5∨n=6:=dj7 (by lia)
 clear h;rcases this with rfl|rfl|rfl|rfl|rfl|rfl|rfl<;>cases t<;>kernel_rfl
noncomputable def ifB:Stmt ->List Stmt
 | .If _ b _ _=>b
 |_=>[]
theorem JiE (X:Cl) (m dr sz:D) (ty go:List D) (w t:Str) (ns:List D):step1 L19 scL (lst 11) (B10 X m (.str w) dr sz ty go (.str t) ns)=((some (t==w)).map (!·)).bind λc=>if c then L19.ex scL (B10 X m (.str w) dr sz ty go (.str t) ns) (ifB (lst 11))else some (B10 X m (.str w) dr sz ty go (.str t) ns,.next):=by
 refine Cl.tt X ?_ ?_<;>kernel_rfl
theorem Jh5 (X:Cl) (m dr sz:D) (ty go:List D) (w:Str) (ns:List D):step1 L19 scL (lst 11) (B10 X m (.str w) dr sz ty go (.str w) ns)=some (B10 X m (.str w) dr sz ty go (.str w) ns,.next):=by
 rw[JiE,beq_self_eq_true];rfl
noncomputable def JeB:Stmt ->List Expr
 | .Assign [.Tuple ts _ _] _ _=>ts
 |_=>[]
noncomputable def Jem:Stmt ->List Expr
 | .Assign _ (.Tuple ts _ _) _=>ts
 |_=>[]
theorem JiF (X:Cl) (m dr sz:D) (ty go:List D) (w t:Str) (ns:List D):step1 L19 scL (lst 12) (B10 X m (.str w) dr sz ty go (.str t) ns)=((J4 (nm "len") [.str t]).bind λa=>((((J6 (λd=>(ZO t [d]).map λd=>[d]) Jg9).bind YK).map .lst).bind λb=>some [b]).bind λbs=>some (a::bs)).bind λds=>
  (Jk theTop scL (JeB (lst 12)) (Jem (lst 12)) ds (B10 X m (.str w) dr sz ty go (.str t) ns)).map λr=>(r,.next):=by
 refine Cl.tt X ?_ ?_<;>kernel_rfl
noncomputable abbrev B12 (X:Cl) (m w dr sz:D) (ty go:List D) (tx:D) (ns:List D) (ct:D):Rho:=B10 X m w dr sz ty go tx ns++[(nm "counts",.val ct)]
theorem Jh6 (X:Cl) (m w dr sz:D) (ty go:List D) (tx:D) (ns:List D) (a b:D):Jk theTop scL (JeB (lst 12)) (Jem (lst 12)) [a,b] (B10 X m w dr sz ty go tx ns)=some (B12 X m w dr a ty go tx ns b):=by
 refine Cl.tt X ?_ ?_<;>kernel_rfl
noncomputable abbrev F:=UInt64
noncomputable abbrev f0:F:=0
noncomputable abbrev f1:F:=0x3FF0000000000000
noncomputable abbrev f2:F:=0x4000000000000000
noncomputable abbrev f4:F:=0x4010000000000000
noncomputable abbrev f6:F:=0x4018000000000000
noncomputable abbrev fh:F:=0x3FE0000000000000
noncomputable abbrev fdv (x y:F):Option D:=if Float64.isZero y then none else some (.flt (Float64.div x y))
noncomputable abbrev sc7:Scope:=(fnAt 7).scope
theorem bd7:(fnAt 7).body=fst 7 0::fst 7 1::[fst 7 2,fst 7 3,fst 7 4,fst 7 5,fst 7 6]++[fst 7 7,fst 7 8,fst 7 9,fst 7 10,fst 7 11,fst 7 12]:=by kernel_rfl
noncomputable abbrev H0 (h s v:F):Rho:=[(nm "h",.val (.flt h)),(nm "s",.val (.flt s)),(nm "v",.val (.flt v))]
theorem h70 (m:Nat) (h s v:F):step1 (level theTop (m+7)) sc7 (fst 7 0) (H0 h s v)=(some (fEq s f0)).bind λc=>if c then some (H0 h s v,.ret (.tup [.flt v,.flt v,.flt v]))else some (H0 h s v,.next):=by kernel_rfl
noncomputable abbrev H1 (h s v:F) (i:D):Rho:=[(nm "h",.val (.flt h)),(nm "s",.val (.flt s)),(nm "v",.val (.flt v)),(nm "i",.val i)]
theorem h71 (m:Nat) (h s v:F):step1 (level theTop (m+7)) sc7 (fst 7 1) (H0 h s v)=(J4 (nm "int") [.flt (Float64.mul h f6)]).bind λi=>some (H1 h s v i,.next):=by kernel_rfl
noncomputable abbrev pF (s v:F):F:=Float64.mul v (Float64.sub f1 s)
noncomputable abbrev qF (s v f:F):F:=Float64.mul v (Float64.sub f1 (Float64.mul s f))
noncomputable abbrev tF (s v f:F):F:=Float64.mul v (Float64.sub f1 (Float64.mul s (Float64.sub f1 f)))
noncomputable abbrev H6 (h s v f:F) (i:D):Rho:=[(nm "h",.val (.flt h)),(nm "s",.val (.flt s)),(nm "v",.val (.flt v)),(nm "i",.val i),(nm "f",.val (.flt f)),(nm "p",.val (.flt (pF s v))),(nm "q",.val (.flt (qF s v f))),(nm "t",.val (.flt (tF s v f)))]
noncomputable abbrev H2 (h s v:F) (i f:D):Rho:=[(nm "h",.val (.flt h)),(nm "s",.val (.flt s)),(nm "v",.val (.flt v)),(nm "i",.val i),(nm "f",.val f)]
theorem h72 (m:Nat) (h s v:F) (i:D):step1 (level theTop (m+7)) sc7 (fst 7 2) (H1 h s v i)=(binD .Sub (.flt (Float64.mul h f6)) i).bind λf=>some (H2 h s v i f,.next):=by kernel_rfl
theorem h73 (m:Nat) (h s v f:F) (i:Int) (z:List Stmt):exSs theTop (level theTop (m+7)) sc7 (fst 7 3::fst 7 4::fst 7 5::fst 7 6::z) (H2 h s v (.int i) (.flt f))=exSs theTop (level theTop (m+7)) sc7 z (H6 h s v f (.int (i.fmod 6))):=by kernel_rfl
noncomputable def Je4 (r:Nat) (v p q t:F):D:=match r with
 |0=> .tup [.flt v,.flt t,.flt p]
 |1=> .tup [.flt q,.flt v,.flt p]
 |2=> .tup [.flt p,.flt v,.flt t]
 |3=> .tup [.flt p,.flt q,.flt v]
 |4=> .tup [.flt t,.flt p,.flt v]
 |_=> .tup [.flt v,.flt p,.flt q]
theorem h77 (m:Nat) (h s v f:F) {r:Nat} (hr:r<6):exSs theTop (level theTop (m+7)) sc7 [fst 7 7,fst 7 8,fst 7 9,fst 7 10,fst 7 11,fst 7 12] (H6 h s v f (.int (r:Int)))=some (H6 h s v f (.int (r:Int)),.ret (Je4 r v (pF s v) (qF s v f) (tF s v f))):=by
 have:r=0∨r=1∨r=2∨r=3∨r=4∨r=5:=dj6 (by omega)
 clear hr;rcases this with rfl|rfl|rfl|rfl|rfl|rfl<;>kernel_rfl
theorem JaP (m:Nat) (h s v:F) (hs:fEq s f0=true):callF (level theTop (m+8)) (fnAt 7) [.flt h,.flt s,.flt v]=some (.tup [.flt v,.flt v,.flt v]):=by
 refine Jw (ρ:=H0 h s v) (by kernel_rfl) ?_
 show exSs theTop (level theTop (m+7)) sc7 (fnAt 7).body (H0 h s v)=_
 rw[bd7]
 refine J7 ?_
 rw[h70,hs];rfl
theorem JaO (m:Nat) (h s v f:F) (k:Int) {r:Nat} (hr:r<6) (hs:fEq s f0=false) (hi:J4 (nm "int") [.flt (Float64.mul h f6)]=some (.int k)) (hf:binD .Sub (.flt (Float64.mul h f6)) (.int k)=some (.flt f)) (hm:k.fmod 6=(r:Int)):
  callF (level theTop (m+8)) (fnAt 7) [.flt h,.flt s,.flt v]=some (Je4 r v (pF s v) (qF s v f) (tF s v f)):=by
 refine Jw (ρ:=H6 h s v f (.int (r:Int))) (by kernel_rfl) ?_
 show exSs theTop (level theTop (m+7)) sc7 (fnAt 7).body (H0 h s v)=_
 rw[bd7]
 refine J0 (ρ':=H0 h s v) (by rw[h70,hs];rfl) (J0 (ρ':=H1 h s v (.int k)) (by rw[h71,hi];rfl) (J0 (ρ':=H2 h s v (.int k) (.flt f)) (by rw[h72,hf];rfl) ?_))
 show exSs theTop (level theTop (m+7)) sc7 (fst 7 3::fst 7 4::fst 7 5::fst 7 6::[fst 7 7,fst 7 8,fst 7 9,fst 7 10,fst 7 11,fst 7 12]) _=_
 rw[h73,hm,h77 m h s v f hr]
noncomputable abbrev sc6:Scope:=(fnAt 6).scope
noncomputable abbrev sc5:Scope:=(fnAt 5).scope
noncomputable abbrev V0 (r g b:F):Rho:=[(nm "r",.val (.flt r)),(nm "g",.val (.flt g)),(nm "b",.val (.flt b))]
noncomputable abbrev V1 (r g b:F) (x:D):Rho:=V0 r g b++[(nm "maxc",.val x)]
noncomputable abbrev V2 (r g b:F) (x y:D):Rho:=V0 r g b++[(nm "maxc",.val x),(nm "minc",.val y)]
noncomputable abbrev V4 (r g b mx mn:F):Rho:=V0 r g b++[(nm "maxc",.val (.flt mx)),(nm "minc",.val (.flt mn)),(nm "rangec",.val (.flt (Float64.sub mx mn))),(nm "v",.val (.flt mx))]
noncomputable abbrev V5 (r g b mx mn:F) (s:D):Rho:=V4 r g b mx mn++[(nm "s",.val s)]
noncomputable abbrev V6 (r g b mx mn:F) (s a:D):Rho:=V4 r g b mx mn++[(nm "s",.val s),(nm "rc",.val a)]
noncomputable abbrev V7 (r g b mx mn:F) (s a c:D):Rho:=V4 r g b mx mn++[(nm "s",.val s),(nm "rc",.val a),(nm "gc",.val c)]
noncomputable abbrev V8 (r g b mx mn:F) (s a c d:D):Rho:=V4 r g b mx mn++[(nm "s",.val s),(nm "rc",.val a),(nm "gc",.val c),(nm "bc",.val d)]
noncomputable abbrev V9 (r g b mx mn:F) (s a c d h:D):Rho:=V4 r g b mx mn++[(nm "s",.val s),(nm "rc",.val a),(nm "gc",.val c),(nm "bc",.val d),(nm "h",.val h)]
noncomputable def elB:Stmt ->List Stmt
 | .If _ _ o _=>o
 |_=>[]
noncomputable abbrev Jdm (c1 c2:Bool) (rc gc bc:F):F:=if c1 then Float64.sub bc gc else if c2 then Float64.sub (Float64.add f2 rc) bc else Float64.sub (Float64.add f4 gc) rc
noncomputable abbrev JaQ (x:F):F:=(Float64.divmod (Float64.div x f6) f1).2
section
variable (m:Nat) (r g b mx mn:F)
noncomputable abbrev Lm (m:Nat):Lv:=level theTop (m+7)
theorem Jhq:(fnAt 6).body=[fst 6 0,fst 6 1,fst 6 2,fst 6 3,fst 6 4,fst 6 5,fst 6 6,fst 6 7,fst 6 8,fst 6 9,fst 6 10,fst 6 11]:=by kernel_rfl
theorem v0:step1 (Lm m) sc6 (fst 6 0) (V0 r g b)=(J4 (nm "max") [.flt r,.flt g,.flt b]).bind λd=>some (V1 r g b d,.next):=by kernel_rfl
theorem v1 (x:D):step1 (Lm m) sc6 (fst 6 1) (V1 r g b x)=(J4 (nm "min") [.flt r,.flt g,.flt b]).bind λd=>some (V2 r g b x d,.next):=by kernel_rfl
theorem v2 (z:List Stmt):exSs theTop (Lm m) sc6 (fst 6 2::fst 6 3::z) (V2 r g b (.flt mx) (.flt mn))=exSs theTop (Lm m) sc6 z (V4 r g b mx mn):=by kernel_rfl
theorem v4:step1 (Lm m) sc6 (fst 6 4) (V4 r g b mx mn)=(some (fEq mn mx)).bind λc=>if c then some (V4 r g b mx mn,.ret (.tup [.flt f0,.flt f0,.flt mx]))else some (V4 r g b mx mn,.next):=by kernel_rfl
theorem v5:step1 (Lm m) sc6 (fst 6 5) (V4 r g b mx mn)=(fdv (Float64.sub mx mn) mx).bind λd=>some (V5 r g b mx mn d,.next):=by kernel_rfl
theorem v6 (s:D):step1 (Lm m) sc6 (fst 6 6) (V5 r g b mx mn s)=(fdv (Float64.sub mx r) (Float64.sub mx mn)).bind λd=>some (V6 r g b mx mn s d,.next):=by kernel_rfl
theorem v7 (s a:D):step1 (Lm m) sc6 (fst 6 7) (V6 r g b mx mn s a)=(fdv (Float64.sub mx g) (Float64.sub mx mn)).bind λd=>some (V7 r g b mx mn s a d,.next):=by kernel_rfl
theorem v8 (s a c:D):step1 (Lm m) sc6 (fst 6 8) (V7 r g b mx mn s a c)=(fdv (Float64.sub mx b) (Float64.sub mx mn)).bind λd=>some (V8 r g b mx mn s a c d,.next):=by kernel_rfl
theorem v9 (s:D) (a c d:F):step1 (Lm m) sc6 (fst 6 9) (V8 r g b mx mn s (.flt a) (.flt c) (.flt d))=(some (fEq r mx)).bind λq=>if q then some (V9 r g b mx mn s (.flt a) (.flt c) (.flt d) (.flt (Float64.sub d c)),.next)else
  exSs theTop (level theTop (m+6)) sc6 [((elB (fst 6 9))[0]?).getD (.Pass default)] (V8 r g b mx mn s (.flt a) (.flt c) (.flt d)):=by kernel_rfl
theorem v9e (s:D) (a c d:F):step1 (level theTop (m+6)) sc6 (((elB (fst 6 9))[0]?).getD (.Pass default)) (V8 r g b mx mn s (.flt a) (.flt c) (.flt d))=(some (fEq g mx)).bind λq=>if q then some (V9 r g b mx mn s (.flt a) (.flt c) (.flt d) (.flt (Float64.sub (Float64.add f2 a) d)),.next)else
  some (V9 r g b mx mn s (.flt a) (.flt c) (.flt d) (.flt (Float64.sub (Float64.add f4 c) a)),.next):=by kernel_rfl
theorem v9' (s:D) (a c d:F):step1 (Lm m) sc6 (fst 6 9) (V8 r g b mx mn s (.flt a) (.flt c) (.flt d))=some (V9 r g b mx mn s (.flt a) (.flt c) (.flt d) (.flt (Jdm (fEq r mx) (fEq g mx) a c d)),.next):=by
 rw[v9]
 cases h1:fEq r mx with
 |true=>rfl
 |false=>
  show exSs theTop (level theTop (m+6)) sc6 _ _=_
  refine J0 ?_ rfl
  rw[v9e]
  cases h2:fEq g mx<;>rfl
theorem v10 (s a c d:D) (h:F):exSs theTop (Lm m) sc6 [fst 6 10,fst 6 11] (V9 r g b mx mn s a c d (.flt h))=some (V9 r g b mx mn s a c d (.flt (JaQ h)),.ret (.tup [.flt (JaQ h),s,.flt mx])):=by kernel_rfl
theorem J2W (hx:J4 (nm "max") [.flt r,.flt g,.flt b]=some (.flt mx)) (hn:J4 (nm "min") [.flt r,.flt g,.flt b]=some (.flt mn)) (hne:fEq mn mx=false) {s a c d:F}
  (hs:fdv (Float64.sub mx mn) mx=some (.flt s)) (ha:fdv (Float64.sub mx r) (Float64.sub mx mn)=some (.flt a)) (hc:fdv (Float64.sub mx g) (Float64.sub mx mn)=some (.flt c)) (hd:fdv (Float64.sub mx b) (Float64.sub mx mn)=some (.flt d)):
  callF (level theTop (m+8)) (fnAt 6) [.flt r,.flt g,.flt b]=some (.tup [.flt (JaQ (Jdm (fEq r mx) (fEq g mx) a c d)),.flt s,.flt mx]):=by
 refine Jw (ρ:=V9 r g b mx mn (.flt s) (.flt a) (.flt c) (.flt d) (.flt (JaQ (Jdm (fEq r mx) (fEq g mx) a c d)))) (by kernel_rfl) ?_
 show exSs theTop (Lm m) sc6 (fnAt 6).body (V0 r g b)=_
 rw[Jhq]
 refine J0 (ρ':=V1 r g b (.flt mx)) (by rw[v0,hx];rfl) (J0 (ρ':=V2 r g b (.flt mx) (.flt mn)) (by rw[v1,hn];rfl) ?_)
 rw[v2]
 refine J0 (ρ':=V4 r g b mx mn) (by rw[v4,hne];rfl) (J0 (ρ':=V5 r g b mx mn (.flt s)) (by rw[v5,hs];rfl) (J0 (ρ':=V6 r g b mx mn (.flt s) (.flt a)) (by rw[v6,ha];rfl) (J0 (ρ':=V7 r g b mx mn (.flt s) (.flt a) (.flt c)) (by rw[v7,hc];rfl)
  (J0 (ρ':=V8 r g b mx mn (.flt s) (.flt a) (.flt c) (.flt d)) (by rw[v8,hd];rfl) (J0 (v9' m r g b mx mn (.flt s) a c d) ?_)))))
 rw[v10]
theorem J2X (hx:J4 (nm "max") [.flt r,.flt g,.flt b]=some (.flt mx)) (hn:J4 (nm "min") [.flt r,.flt g,.flt b]=some (.flt mn)) (hne:fEq mn mx=true):
  callF (level theTop (m+8)) (fnAt 6) [.flt r,.flt g,.flt b]=some (.tup [.flt f0,.flt f0,.flt mx]):=by
 refine Jw (ρ:=V4 r g b mx mn) (by kernel_rfl) ?_
 show exSs theTop (Lm m) sc6 (fnAt 6).body (V0 r g b)=_
 rw[Jhq]
 refine J0 (ρ':=V1 r g b (.flt mx)) (by rw[v0,hx];rfl) (J0 (ρ':=V2 r g b (.flt mx) (.flt mn)) (by rw[v1,hn];rfl) ?_)
 rw[v2]
 exact J7 (by rw[v4,hne];rfl)
end
noncomputable abbrev smF (mx mn:F):F:=Float64.add mx mn
noncomputable abbrev lF (mx mn:F):F:=Float64.div (Float64.add mx mn) f2
noncomputable abbrev U4 (r g b mx mn:F):Rho:=V0 r g b++[(nm "maxc",.val (.flt mx)),(nm "minc",.val (.flt mn)),(nm "sumc",.val (.flt (smF mx mn))),(nm "rangec",.val (.flt (Float64.sub mx mn))),(nm "l",.val (.flt (lF mx mn)))]
noncomputable abbrev U5 (r g b mx mn:F) (s:D):Rho:=U4 r g b mx mn++[(nm "s",.val s)]
noncomputable abbrev U6 (r g b mx mn:F) (s a:D):Rho:=U4 r g b mx mn++[(nm "s",.val s),(nm "rc",.val a)]
noncomputable abbrev U7 (r g b mx mn:F) (s a c:D):Rho:=U4 r g b mx mn++[(nm "s",.val s),(nm "rc",.val a),(nm "gc",.val c)]
noncomputable abbrev U8 (r g b mx mn:F) (s a c d:D):Rho:=U4 r g b mx mn++[(nm "s",.val s),(nm "rc",.val a),(nm "gc",.val c),(nm "bc",.val d)]
noncomputable abbrev U9 (r g b mx mn:F) (s a c d h:D):Rho:=U4 r g b mx mn++[(nm "s",.val s),(nm "rc",.val a),(nm "gc",.val c),(nm "bc",.val d),(nm "h",.val h)]
noncomputable abbrev leF (x y:F):Bool:=Float64.cmp x y==some .lt||Float64.cmp x y==some .eq
noncomputable abbrev sF (mx mn:F):Option D:=if leF (lF mx mn) fh then fdv (Float64.sub mx mn) (smF mx mn)else fdv (Float64.sub mx mn) (Float64.sub (Float64.sub f2 mx) mn)
section
variable (m:Nat) (r g b mx mn:F)
theorem Jhp:(fnAt 5).body=[fst 5 0,fst 5 1,fst 5 2,fst 5 3,fst 5 4,fst 5 5,fst 5 6,fst 5 7,fst 5 8,fst 5 9,fst 5 10,fst 5 11,fst 5 12]:=by kernel_rfl
theorem u0:step1 (Lm m) sc5 (fst 5 0) (V0 r g b)=(J4 (nm "max") [.flt r,.flt g,.flt b]).bind λd=>some (V1 r g b d,.next):=by kernel_rfl
theorem u1 (x:D):step1 (Lm m) sc5 (fst 5 1) (V1 r g b x)=(J4 (nm "min") [.flt r,.flt g,.flt b]).bind λd=>some (V2 r g b x d,.next):=by kernel_rfl
theorem u2 (z:List Stmt):exSs theTop (Lm m) sc5 (fst 5 2::fst 5 3::fst 5 4::z) (V2 r g b (.flt mx) (.flt mn))=exSs theTop (Lm m) sc5 z (U4 r g b mx mn):=by kernel_rfl
theorem u4:step1 (Lm m) sc5 (fst 5 5) (U4 r g b mx mn)=(some (fEq mn mx)).bind λc=>if c then some (U4 r g b mx mn,.ret (.tup [.flt f0,.flt (lF mx mn),.flt f0]))else some (U4 r g b mx mn,.next):=by kernel_rfl
theorem u5:step1 (Lm m) sc5 (fst 5 6) (U4 r g b mx mn)=(some (leF (lF mx mn) fh)).bind λq=>if q then exSs theTop (level theTop (m+6)) sc5 [((ifB (fst 5 6))[0]?).getD (.Pass default)] (U4 r g b mx mn)else exSs theTop (level theTop (m+6)) sc5 [((elB (fst 5 6))[0]?).getD (.Pass default)] (U4 r g b mx mn):=by kernel_rfl
theorem u5a:step1 (level theTop (m+6)) sc5 (((ifB (fst 5 6))[0]?).getD (.Pass default)) (U4 r g b mx mn)=(fdv (Float64.sub mx mn) (smF mx mn)).bind λd=>some (U5 r g b mx mn d,.next):=by kernel_rfl
theorem u5b:step1 (level theTop (m+6)) sc5 (((elB (fst 5 6))[0]?).getD (.Pass default)) (U4 r g b mx mn)=(fdv (Float64.sub mx mn) (Float64.sub (Float64.sub f2 mx) mn)).bind λd=>some (U5 r g b mx mn d,.next):=by kernel_rfl
theorem u5' {s:D} (h:sF mx mn=some s):step1 (Lm m) sc5 (fst 5 6) (U4 r g b mx mn)=some (U5 r g b mx mn s,.next):=by
 rw[u5]
 unfold sF at h
 cases q:leF (lF mx mn) fh with
 |true=>
  rw[q,if_pos rfl]at h
  show exSs theTop (level theTop (m+6)) sc5 _ _=_
  refine J0 ?_ rfl
  rw[u5a,h];rfl
 |false=>
  rw[q,if_neg Bool.false_ne_true]at h
  show exSs theTop (level theTop (m+6)) sc5 _ _=_
  refine J0 ?_ rfl
  rw[u5b,h];rfl
theorem u6 (s:D):step1 (Lm m) sc5 (fst 5 7) (U5 r g b mx mn s)=(fdv (Float64.sub mx r) (Float64.sub mx mn)).bind λd=>some (U6 r g b mx mn s d,.next):=by kernel_rfl
theorem u7 (s a:D):step1 (Lm m) sc5 (fst 5 8) (U6 r g b mx mn s a)=(fdv (Float64.sub mx g) (Float64.sub mx mn)).bind λd=>some (U7 r g b mx mn s a d,.next):=by kernel_rfl
theorem u8 (s a c:D):step1 (Lm m) sc5 (fst 5 9) (U7 r g b mx mn s a c)=(fdv (Float64.sub mx b) (Float64.sub mx mn)).bind λd=>some (U8 r g b mx mn s a c d,.next):=by kernel_rfl
theorem u9 (s:D) (a c d:F):step1 (Lm m) sc5 (fst 5 10) (U8 r g b mx mn s (.flt a) (.flt c) (.flt d))=(some (fEq r mx)).bind λq=>if q then some (U9 r g b mx mn s (.flt a) (.flt c) (.flt d) (.flt (Float64.sub d c)),.next)else
  exSs theTop (level theTop (m+6)) sc5 [((elB (fst 5 10))[0]?).getD (.Pass default)] (U8 r g b mx mn s (.flt a) (.flt c) (.flt d)):=by kernel_rfl
theorem u9e (s:D) (a c d:F):step1 (level theTop (m+6)) sc5 (((elB (fst 5 10))[0]?).getD (.Pass default)) (U8 r g b mx mn s (.flt a) (.flt c) (.flt d))=(some (fEq g mx)).bind λq=>if q then some (U9 r g b mx mn s (.flt a) (.flt c) (.flt d) (.flt (Float64.sub (Float64.add f2 a) d)),.next)else
  some (U9 r g b mx mn s (.flt a) (.flt c) (.flt d) (.flt (Float64.sub (Float64.add f4 c) a)),.next):=by kernel_rfl
theorem u9' (s:D) (a c d:F):step1 (Lm m) sc5 (fst 5 10) (U8 r g b mx mn s (.flt a) (.flt c) (.flt d))=some (U9 r g b mx mn s (.flt a) (.flt c) (.flt d) (.flt (Jdm (fEq r mx) (fEq g mx) a c d)),.next):=by
 rw[u9]
 cases h1:fEq r mx with
 |true=>rfl
 |false=>
  show exSs theTop (level theTop (m+6)) sc5 _ _=_
  refine J0 ?_ rfl
  rw[u9e]
  cases h2:fEq g mx<;>rfl
theorem u10 (s a c d:D) (h:F):exSs theTop (Lm m) sc5 [fst 5 11,fst 5 12] (U9 r g b mx mn s a c d (.flt h))=some (U9 r g b mx mn s a c d (.flt (JaQ h)),.ret (.tup [.flt (JaQ h),.flt (lF mx mn),s])):=by kernel_rfl
theorem J2U (hx:J4 (nm "max") [.flt r,.flt g,.flt b]=some (.flt mx)) (hn:J4 (nm "min") [.flt r,.flt g,.flt b]=some (.flt mn)) (hne:fEq mn mx=false) {s a c d:F}
  (hs:sF mx mn=some (.flt s)) (ha:fdv (Float64.sub mx r) (Float64.sub mx mn)=some (.flt a)) (hc:fdv (Float64.sub mx g) (Float64.sub mx mn)=some (.flt c)) (hd:fdv (Float64.sub mx b) (Float64.sub mx mn)=some (.flt d)):
  callF (level theTop (m+8)) (fnAt 5) [.flt r,.flt g,.flt b]=some (.tup [.flt (JaQ (Jdm (fEq r mx) (fEq g mx) a c d)),.flt (lF mx mn),.flt s]):=by
 refine Jw (ρ:=U9 r g b mx mn (.flt s) (.flt a) (.flt c) (.flt d) (.flt (JaQ (Jdm (fEq r mx) (fEq g mx) a c d)))) (by kernel_rfl) ?_
 show exSs theTop (Lm m) sc5 (fnAt 5).body (V0 r g b)=_
 rw[Jhp]
 refine J0 (ρ':=V1 r g b (.flt mx)) (by rw[u0,hx];rfl) (J0 (ρ':=V2 r g b (.flt mx) (.flt mn)) (by rw[u1,hn];rfl) ?_)
 rw[u2]
 refine J0 (ρ':=U4 r g b mx mn) (by rw[u4,hne];rfl) (J0 (u5' m r g b mx mn hs) (J0 (ρ':=U6 r g b mx mn (.flt s) (.flt a)) (by rw[u6,ha];rfl) (J0 (ρ':=U7 r g b mx mn (.flt s) (.flt a) (.flt c)) (by rw[u7,hc];rfl)
  (J0 (ρ':=U8 r g b mx mn (.flt s) (.flt a) (.flt c) (.flt d)) (by rw[u8,hd];rfl) (J0 (u9' m r g b mx mn (.flt s) a c d) ?_)))))
 rw[u10]
theorem J2V (hx:J4 (nm "max") [.flt r,.flt g,.flt b]=some (.flt mx)) (hn:J4 (nm "min") [.flt r,.flt g,.flt b]=some (.flt mn)) (hne:fEq mn mx=true):
  callF (level theTop (m+8)) (fnAt 5) [.flt r,.flt g,.flt b]=some (.tup [.flt f0,.flt (lF mx mn),.flt f0]):=by
 refine Jw (ρ:=U4 r g b mx mn) (by kernel_rfl) ?_
 show exSs theTop (Lm m) sc5 (fnAt 5).body (V0 r g b)=_
 rw[Jhp]
 refine J0 (ρ':=V1 r g b (.flt mx)) (by rw[u0,hx];rfl) (J0 (ρ':=V2 r g b (.flt mx) (.flt mn)) (by rw[u1,hn];rfl) ?_)
 rw[u2]
 exact J7 (by rw[u4,hne];rfl)
end
noncomputable abbrev fr (a b:Nat):F:=Float64.ofFrac false a b
noncomputable abbrev xF (sh li j:Nat):F:=fr (li*(128-sh*j)) 512
noncomputable def J7O (x y:F):Bool:=Nat.beq x.toNat y.toNat
noncomputable def J7S (a b c:F):Bool:=!Float64.isZero b&&J7O (Float64.div a b) c
noncomputable abbrev hq (h t:Nat):F:=Float64.mul (Float64.add (fr h 64) (fOf t)) f6
noncomputable abbrev nq (h t:Nat):Nat:=6*(h+64*t)/64
theorem Jab:(List.range 64).map (λh=>(List.range 4).map λt=>(J4 (nm "int") [.flt (hq h t)],binD .Sub (.flt (hq h t)) (.int (nq h t:Nat)),((nq h t:Nat):Int).fmod 6))=(List.range 64).foldr (λh r=>(List.range 4).foldr (λt r=>(some (.int (nq h t:Nat)),some (.flt (fr (2*(6*h%64/2)) 64)),((6*h/64:Nat):Int))::r) []::r) []:=by kernel_rfl
noncomputable abbrev g64 (j:Nat):F:=fr (2*j) 64
noncomputable def Jhr (k:Nat):Bool:=J7O (Float64.sub f1 (g64 k)) (g64 (32-k))
theorem Jaa:((List.range 33).all Jhr)=true:=by kernel_rfl
noncomputable def Jhs (sh li k:Nat):Bool:=J7O (qF (fr sh 4) (fr li 4) (g64 k)) (xF sh li k)
theorem Jac:((List.range 4).all λsh=>(List.range 4).all λli=>(List.range 33).all λk=>Jhs (sh+1) (li+1) k)=true:=by kernel_rfl
noncomputable abbrev cm4 (sh li j:Nat):=(Float64.cmp (xF sh li 0) (xF sh li j),Float64.cmp (xF sh li j) (xF sh li 0),Float64.cmp (xF sh li j) (xF sh li 32),Float64.cmp (xF sh li 32) (xF sh li j))
noncomputable abbrev cr4 (j:Nat):Option Ordering×Option Ordering×Option Ordering×Option Ordering:=(some (if j==0 then .eq else .gt),some (if j==0 then .eq else .lt),some (if j==32 then .eq else .gt),some (if j==32 then .eq else .lt))
theorem Jad:(List.range 4).map (λsh=>(List.range 4).map λli=>(List.range 33).map λj=>cm4 (sh+1) (li+1) j)=(List.range 4).foldr (λsh r=>(List.range 4).foldr (λli r=>(List.range 33).foldr (λj r=>cr4 j::r) []::r) []::r) []:=by kernel_rfl
noncomputable def Ji4 (sh li j:Nat):Bool:=J7S (Float64.sub (xF sh li 0) (xF sh li j)) (Float64.sub (xF sh li 0) (xF sh li 32)) (g64 j)
theorem Jae:((List.range 4).all λsh=>(List.range 4).all λli=>(List.range 33).all λj=>Ji4 (sh+1) (li+1) j)=true:=by kernel_rfl
noncomputable def Jy (sh li:Nat):Nat:=li*(8-sh)
noncomputable def Jht (sh li:Nat):Bool:=J7O (pF (fr sh 4) (fr li 4)) (xF sh li 32)&&(J7O (fr li 4) (xF sh li 0)&&(J7S (Float64.sub (xF sh li 0) (xF sh li 32)) (xF sh li 0) (fr sh 4)&&(J7O (lF (xF sh li 0) (xF sh li 32)) (fr (Jy sh li) 32)&&
 ((if leF (lF (xF sh li 0) (xF sh li 32)) fh then J7S (Float64.sub (xF sh li 0) (xF sh li 32)) (smF (xF sh li 0) (xF sh li 32)) (fr (li*sh) (min (Jy sh li) (32-Jy sh li)))
  else J7S (Float64.sub (xF sh li 0) (xF sh li 32)) (Float64.sub (Float64.sub f2 (xF sh li 0)) (xF sh li 32)) (fr (li*sh) (min (Jy sh li) (32-Jy sh li))))&&!fEq (fr sh 4) f0))))
theorem Jaf:((List.range 4).all λsh=>(List.range 4).all λli=>Jht (sh+1) (li+1))=true:=by kernel_rfl
noncomputable def Jhv (li:Nat):Bool:=fEq (fr 0 4) f0&&(J7O (lF (fr li 4) (fr li 4)) (fr (Jy 0 li) 32)&&fEq (fr li 4) (fr li 4))
theorem Jah:((List.range 4).all λli=>Jhv (li+1))=true:=by kernel_rfl
noncomputable def Y9 (r k:Nat):Nat×Nat×Nat:=match r with
 |0=>(0,32-k,32)
 |1=>(k,0,32)
 |2=>(32,0,32-k)
 |3=>(32,k,0)
 |4=>(32-k,32,0)
 |_=>(0,32,k)
noncomputable def Jhu (hue:Nat):Bool:=
 let j:=Y9 (6*hue/64) (6*hue%64/2)
 J7O (JaQ (Jdm (j.1==0) (j.2.1==0) (g64 j.1) (g64 j.2.1) (g64 j.2.2))) (fr hue 64)&&(Nat.blt (6*hue/64) 6&&Nat.ble (6*hue%64/2) 31)
theorem Jag:((List.range 64).all Jhu)=true:=by kernel_rfl
theorem JE {x y:F} (h:J7O x y=true):x=y:=UInt64.toNat_inj.mp (Nat.eq_of_beq_eq_true h)
theorem Vf {a b c:F} (h:J7S a b c=true):fdv a b=some (.flt c):=by
 refine o01 (Bool.and_eq_true_iff.mp h) λh1 h2=>?_
 unfold fdv
 rw[Bool.not_eq_true']at h1
 rw[h1,JE h2];rfl
theorem JI {p:Nat ->Bool} {n k:Nat} (h:((List.range n).all p)=true) (hk:k<n):p k=true:=List.all_eq_true.mp h k (List.mem_range.mpr hk)
theorem JcI (bt:D ->D ->Bool) (x y z:D):JB bt [x,y,z]=some (if bt y x then(if bt z y then z else y)else(if bt z x then z else x)):=by
 unfold JB
 show[x,y,z][argBest _ 2]?=_
 simp only[argBest]
 cases h1:bt y x<;>cases h2:bt z y<;>cases h3:bt z x<;>simp_all
section
variable {sh li:Nat} (hs:sh<4) (hl:li<4) {J:Nat} (hJ:J<=32)
include hs hl hJ
theorem Ji9:cm4 (sh+1) (li+1) J=cr4 J:=JN (JN (JN Jad hs) hl) (Nat.lt_succ_of_le hJ)
theorem gts:gtD (.flt (xF (sh+1) (li+1) 0)) (.flt (xF (sh+1) (li+1) J))=!(J==0)/\ gtD (.flt (xF (sh+1) (li+1) J)) (.flt (xF (sh+1) (li+1) 0))=false/\ gtD (.flt (xF (sh+1) (li+1) J)) (.flt (xF (sh+1) (li+1) 32))=!(J==32)/\ gtD (.flt (xF (sh+1) (li+1) 32)) (.flt (xF (sh+1) (li+1) J))=false/\
  ltD (.flt (xF (sh+1) (li+1) 0)) (.flt (xF (sh+1) (li+1) J))=false/\ ltD (.flt (xF (sh+1) (li+1) J)) (.flt (xF (sh+1) (li+1) 0))=!(J==0)/\ ltD (.flt (xF (sh+1) (li+1) J)) (.flt (xF (sh+1) (li+1) 32))=false/\ ltD (.flt (xF (sh+1) (li+1) 32)) (.flt (xF (sh+1) (li+1) J))=!(J==32)/\
  fEq (xF (sh+1) (li+1) J) (xF (sh+1) (li+1) 0)=(J==0):=by
 have c:=Ji9 hs hl hJ
 have c1:Float64.cmp (xF (sh+1) (li+1) 0) (xF (sh+1) (li+1) J)=_:=congrArg (·.1) c
 have c2:Float64.cmp (xF (sh+1) (li+1) J) (xF (sh+1) (li+1) 0)=_:=congrArg (·.2.1) c
 have c3:Float64.cmp (xF (sh+1) (li+1) J) (xF (sh+1) (li+1) 32)=_:=congrArg (·.2.2.1) c
 have c4:Float64.cmp (xF (sh+1) (li+1) 32) (xF (sh+1) (li+1) J)=_:=congrArg (·.2.2.2) c
 unfold gtD ltD fEq
 simp only[c1,c2,c3,c4]
 cases h0:(J==0)<;>cases h1:(J==32)<;>simp
end
noncomputable abbrev fD (x:F):D:= .flt x
noncomputable def Jg2 (bt:D ->D ->Bool) (A K B:D):Prop:=JB bt [A,K,B]=some A/\ JB bt [K,A,B]=some A/\ JB bt [B,A,K]=some A/\ JB bt [B,K,A]=some A/\ JB bt [K,B,A]=some A/\ JB bt [A,B,K]=some A
theorem J8Z {bt:D ->D ->Bool} {A K B:D} {p:Bool} (e1:bt A K=p) (e2:bt K A=false) (e3:bt B K=false) (e5:bt A B=true) (e6:bt B A=false) (hp:p=false ->K=A):Jg2 bt A K B:=by
 unfold Jg2
 simp only[JcI,e1,e2,e3,e5,e6]
 cases p with
 |true=>cases bt K B<;>simp
 |false=>rw[hp rfl]at*;simp[e5]
theorem Jft {sh li:Nat} (hs:sh<4) (hl:li<4) {r k:Nat} (hr:r<6) (hk:k<=32):
  J4 (nm "max") [fD (xF (sh+1) (li+1) (Y9 r k).1),fD (xF (sh+1) (li+1) (Y9 r k).2.1),fD (xF (sh+1) (li+1) (Y9 r k).2.2)]=some (fD (xF (sh+1) (li+1) 0))/\
  J4 (nm "min") [fD (xF (sh+1) (li+1) (Y9 r k).1),fD (xF (sh+1) (li+1) (Y9 r k).2.1),fD (xF (sh+1) (li+1) (Y9 r k).2.2)]=some (fD (xF (sh+1) (li+1) 32)):=by
 have cm: ∀x y z:F,J4 (nm "max") [fD x,fD y,fD z]=JB gtD [fD x,fD y,fD z]:=λx y z=>by kernel_rfl
 have cn: ∀x y z:F,J4 (nm "min") [fD x,fD y,fD z]=JB ltD [fD x,fD y,fD z]:=λx y z=>by kernel_rfl
 rw[cm,cn]
 clear cm cn
 have key: ∀J,J<=32 ->Jg2 gtD (fD (xF (sh+1) (li+1) 0)) (fD (xF (sh+1) (li+1) J)) (fD (xF (sh+1) (li+1) 32))/\ Jg2 ltD (fD (xF (sh+1) (li+1) 32)) (fD (xF (sh+1) (li+1) J)) (fD (xF (sh+1) (li+1) 0)):=λJ hJ=>
  o08 (gts hs hl hJ) λa1 a2 a3 a4 a5 a6 a7 a8 _=>o08 (gts hs hl (Nat.le_refl 32)) λc1 c2 _ _ c5 c6 _ _ _=>
   ⟨J8Z a1 a2 a4 c1 c2 λh=>congrArg (λJ=>fD (xF (sh+1) (li+1) J)) (show J=0 by simpa using h),J8Z a8 a7 a5 c6 c5 λh=>congrArg (λJ=>fD (xF (sh+1) (li+1) J)) (show J=32 by simpa using h)⟩
 refine o01 (key k hk) λg1 g2=>o01 (key (32-k) (Nat.sub_le _ _)) λg3 g4=>?_
 have:r=0∨r=1∨r=2∨r=3∨r=4∨r=5:=dj6 hr
 clear key hr
 rcases this with h|h|h|h|h|h<;>rw[h]
 ·exact⟨g3.1,g4.2.2.2.1⟩
 ·exact⟨g1.2.1,g2.2.2.2.2.1⟩
 ·exact⟨g3.2.2.1,g4.2.2.2.2.2⟩
 ·exact⟨g1.2.2.2.1,g2.1⟩
 ·exact⟨g3.2.2.2.2.1,g4.2.1⟩
 ·exact⟨g1.2.2.2.2.2,g2.2.2.1⟩
theorem Zt {sh li j:Nat} (hs:sh<4) (hl:li<4) (hj:j<=32):fdv (Float64.sub (xF (sh+1) (li+1) 0) (xF (sh+1) (li+1) j)) (Float64.sub (xF (sh+1) (li+1) 0) (xF (sh+1) (li+1) 32))=some (.flt (g64 j)):=
 Vf (JI (JI (JI Jae hs) hl) (show j<33 by lia))
theorem o05 {a b c d e f G:Prop} (h:a/\ b/\ c/\ d/\ e/\ f) (k:a ->b ->c ->d ->e ->f ->G):G:=k h.1 h.2.1 h.2.2.1 h.2.2.2.1 h.2.2.2.2.1 h.2.2.2.2.2
theorem J8n:((List.range 6).all λr=>(List.range 33).all λk=>Nat.ble (Y9 r k).1 32&&(Nat.ble (Y9 r k).2.1 32&&Nat.ble (Y9 r k).2.2 32))=true:=by kernel_rfl
theorem J8Y {v p q t:F} {x:Nat ->F} {r k:Nat} (hv:v=x 0) (hp:p=x 32) (hq:q=x k) (ht:t=x (32-k)):Je4 r v p q t= .tup [fD (x (Y9 r k).1),fD (x (Y9 r k).2.1),fD (x (Y9 r k).2.2)]:=by
 subst hv hp hq ht
 match r with
 |0=>rfl
 |1=>rfl
 |2=>rfl
 |3=>rfl
 |4=>rfl
 |_+5=>rfl
structure Paint (m:Nat) (hue turn sh li:Nat) (a b c h s l s':F):Prop where
 rgb:callF (level theTop (m+8)) (fnAt 7) [.flt (Float64.add (fr hue 64) (fOf turn)),.flt (fr sh 4),.flt (fr li 4)]=some (.tup [.flt a,.flt b,.flt c])
 hsv:callF (level theTop (m+8)) (fnAt 6) [.flt a,.flt b,.flt c]=some (.tup [.flt h,.flt s,.flt (fr li 4)])
 hls:callF (level theTop (m+8)) (fnAt 5) [.flt a,.flt b,.flt c]=some (.tup [.flt h,.flt l,.flt s'])
 eh:h=if sh=0 then f0 else fr hue 64
 es:s=fr sh 4
 el:l=fr (Jy sh li) 32
 es':s'=if sh=0 then f0 else fr (li*sh) (min (Jy sh li) (32-Jy sh li))
theorem J8R (m:Nat) {hue turn sh li:Nat} (hh:hue<64) (ht:turn<4) (hs:sh<4) (hl:li<4) {G:Prop} (KK: ∀a b c h s l s',Paint m hue turn (sh+1) (li+1) a b c h s l s' ->G):G:=by
 have A:=JN (JN Jab hh) ht
 have hE:=JI (JI Jaf hs) hl
 unfold Jht at hE
 simp only[Bool.and_eq_true]at hE
 refine o05 hE λE1 E2 E3 E4 E5 E6=>?_
 have hH:=JI Jag hh
 unfold Jhu at hH
 refine o01 (Bool.and_eq_true_iff.mp hH) λH1 H2=>o01 (Bool.and_eq_true_iff.mp H2) λH2 H3=>?_
 have hr:6*hue/64<6:=Nat.le_of_ble_eq_true H2
 have hk:6*hue%64/2<=32:=Nat.le_trans (Nat.le_of_ble_eq_true H3) (by decide)
 have hz:fEq (fr (sh+1) 4) f0=false:=by rw[Bool.not_eq_true']at E6;exact E6
 have hB: ∀j,j<=32 ->qF (fr (sh+1) 4) (fr (li+1) 4) (g64 j)=xF (sh+1) (li+1) j:=λj hj=>JE (show Jhs (sh+1) (li+1) j=true from JI (JI (JI Jac hs) hl) (Nat.lt_succ_of_le hj))
 have h1:=JE (show Jhr (6*hue%64/2)=true from JI Jaa (Nat.lt_succ_of_le hk))
 have hT:tF (fr (sh+1) 4) (fr (li+1) 4) (g64 (6*hue%64/2))=xF (sh+1) (li+1) (32-6*hue%64/2):=by
  unfold tF
  rw[h1]
  exact hB _ (Nat.sub_le _ _)
 have hrgb:=JaO m (Float64.add (fr hue 64) (fOf turn)) (fr (sh+1) 4) (fr (li+1) 4) (g64 (6*hue%64/2)) _ hr hz (congrArg (·.1) A) (congrArg (·.2.1) A) (congrArg (·.2.2) A)
 rw[J8Y (x:=xF (sh+1) (li+1)) (JE E2) (JE E1) (hB _ hk) hT]at hrgb
 refine o01 (Jft hs hl hr hk) λmx mn=>?_
 refine o01 (Bool.and_eq_true_iff.mp (JI (JI J8n hr) (Nat.lt_succ_of_le hk))) λj1 j2=>o01 (Bool.and_eq_true_iff.mp j2) λj2 j3=>?_
 replace j1:=Nat.le_of_ble_eq_true j1
 replace j2:=Nat.le_of_ble_eq_true j2
 replace j3:=Nat.le_of_ble_eq_true j3
 have hne:fEq (xF (sh+1) (li+1) 32) (xF (sh+1) (li+1) 0)=false:=(gts hs hl (Nat.le_refl 32)).2.2.2.2.2.2.2.2
 have hsv:=J2W m _ _ _ _ _ mx mn hne (Vf E3) (Zt hs hl j1) (Zt hs hl j2) (Zt hs hl j3)
 have hS:sF (xF (sh+1) (li+1) 0) (xF (sh+1) (li+1) 32)=some (.flt (fr ((li+1)*(sh+1)) (min (Jy (sh+1) (li+1)) (32-Jy (sh+1) (li+1))))):=by
  unfold sF
  cases q:leF (lF (xF (sh+1) (li+1) 0) (xF (sh+1) (li+1) 32)) fh with
  |true=>rw[q,if_pos rfl]at E5;rw[if_pos rfl];exact Vf E5
  |false=>rw[q,if_neg Bool.false_ne_true]at E5;rw[if_neg Bool.false_ne_true];exact Vf E5
 have hls:=J2U m _ _ _ _ _ mx mn hne hS (Zt hs hl j1) (Zt hs hl j2) (Zt hs hl j3)
 have q1:fEq (xF (sh+1) (li+1) (Y9 (6*hue/64) (6*hue%64/2)).1) (xF (sh+1) (li+1) 0)=((Y9 (6*hue/64) (6*hue%64/2)).1==0):=(gts hs hl j1).2.2.2.2.2.2.2.2
 have q2:fEq (xF (sh+1) (li+1) (Y9 (6*hue/64) (6*hue%64/2)).2.1) (xF (sh+1) (li+1) 0)=((Y9 (6*hue/64) (6*hue%64/2)).2.1==0):=(gts hs hl j2).2.2.2.2.2.2.2.2
 simp only[q1,q2,JE H1]at hsv hls
 rw[<-JE E2]at hsv
 exact KK _ _ _ _ _ _ _ ⟨hrgb,hsv,hls,(if_neg (Nat.succ_ne_zero sh)).symm,rfl,JE E4,(if_neg (Nat.succ_ne_zero sh)).symm⟩
theorem Jdb:J7O f0 (fr 0 4)=true:=by kernel_rfl
theorem J6B (m:Nat) (hue turn:Nat) {li:Nat} (hl:li<4) {G:Prop} (k: ∀a b c h s l s',Paint m hue turn 0 (li+1) a b c h s l s' ->G):G:=by
 have hZ:=JI Jah hl
 unfold Jhv at hZ
 simp only[Bool.and_eq_true]at hZ
 refine o02 hZ λZ1 Z2 Z3=>?_
 have c:Float64.cmp (fr (li+1) 4) (fr (li+1) 4)=some .eq:=by unfold fEq at Z3;exact beq_iff_eq.mp Z3
 have cm: ∀x y z:F,J4 (nm "max") [fD x,fD y,fD z]=JB gtD [fD x,fD y,fD z]:=λx y z=>by kernel_rfl
 have cn: ∀x y z:F,J4 (nm "min") [fD x,fD y,fD z]=JB ltD [fD x,fD y,fD z]:=λx y z=>by kernel_rfl
 have mx:J4 (nm "max") [fD (fr (li+1) 4),fD (fr (li+1) 4),fD (fr (li+1) 4)]=some (fD (fr (li+1) 4)):=by rw[cm,JcI];simp
 have mn:J4 (nm "min") [fD (fr (li+1) 4),fD (fr (li+1) 4),fD (fr (li+1) 4)]=some (fD (fr (li+1) 4)):=by rw[cn,JcI];simp
 exact k _ _ _ _ _ _ _ ⟨JaP m _ _ _ Z1,J2X m _ _ _ _ _ mx mn Z3,J2V m _ _ _ _ _ mx mn Z3,(if_pos rfl).symm,JE Jdb,JE Z2,(if_pos rfl).symm⟩
theorem JgX (m:Nat) {hue turn sh li:Nat} (hh:hue<64) (ht:turn<4) (hs:sh<5) (hl:li<4) {G:Prop} (k: ∀a b c h s l s',Paint m hue turn sh (li+1) a b c h s l s' ->G):G:=by
 cases sh with
 |zero=>exact J6B m hue turn hl k
 |succ sh=>exact J8R m hh ht (Nat.lt_of_succ_lt_succ hs) hl k
noncomputable abbrev sc15:Scope:=(fnAt 15).scope
noncomputable abbrev L18:Lv:=level theTop 18
theorem JhY:(fnAt 15).body=[fst 15 0,fst 15 1,fst 15 2,fst 15 3,fst 15 4,fst 15 5]:=by kernel_rfl
structure Pn where
 one:Int
 two:Int
 a0:Int
 a1:Int
 a2:Int
 s0:Int
 s1:Int
 s2:Int
 l0:Int
 l1:Int
 l2:Int
noncomputable def sel {α:Type} (k:Nat) (x y z:α):α:=match k with
 |0=>x
 |1=>y
 |_=>z
noncomputable abbrev Pn.a (P:Pn) (k:Nat):Int:=sel k P.a0 P.a1 P.a2
noncomputable abbrev Pn.s (P:Pn) (k:Nat):Int:=sel k P.s0 P.s1 P.s2
noncomputable abbrev Pn.l (P:Pn) (k:Nat):Int:=sel k P.l0 P.l1 P.l2
noncomputable abbrev Pn.t (P:Pn) (k:Nat):Int:=((P.one.fdiv 61504).fdiv (sel k 1 4 16)).fmod 4
noncomputable abbrev W3 (P:Pn) (ns rs ps:List D):Rho:=[(nm "one",.val (.int P.one)),(nm "two",.val (.int P.two)),(nm "notes",.mls ns),(nm "hues",.val (iD [P.a0,P.a1,P.a2])),(nm "shares",.val (iD [P.s0,P.s1,P.s2])),(nm "lights",.val (iD [P.l0,P.l1,P.l2])),(nm "rows",.mls rs),(nm "plain",.mls ps)]
theorem p0 (b c:Int) (ns:List D) (z:List Stmt):exSs theTop L18 sc15 (fst 15 0::fst 15 1::fst 15 2::fst 15 3::z) [(nm "one",.val (.int b)),(nm "two",.val (.int c)),(nm "notes",.mls ns)]=
  exSs theTop L18 sc15 z (W3 ⟨b,c,b.fmod 64,(b+1+(b.fdiv 64).fmod 31).fmod 64,(b+33+(b.fdiv 1984).fmod 31).fmod 64,c.fmod 5,1+(c.fdiv 5).fmod 4,1+(c.fdiv 20).fmod 4,1+((c.fdiv 80).fdiv 1).fmod 4,1+((c.fdiv 80).fdiv 4).fmod 4,1+((c.fdiv 80).fdiv 16).fmod 4⟩ ns [] []):=by kernel_rfl
structure Old where
 k:D
 sh:D
 li:D
 la:D
 hu:D
 bo:D
 hv:D
 hl:D
noncomputable abbrev W4 (P:Pn) (ns rs ps:List D) (x:Old):Rho:=W3 P ns rs ps++[(nm "k",.val x.k),(nm "share",.val x.sh),(nm "light",.val x.li),(nm "lamps",.val x.la),(nm "hue",.val x.hu),(nm "both",.val x.bo),(nm "hsv",.val x.hv),(nm "hls",.val x.hl)]
noncomputable abbrev Wk (P:Pn) (ns rs ps:List D) (o:Option Old) (k:D):Rho:=W3 P ns rs ps++(nm "k",.val k)::match o with|some x=>[(nm "share",.val x.sh),(nm "light",.val x.li),(nm "lamps",.val x.la),(nm "hue",.val x.hu),(nm "both",.val x.bo),(nm "hsv",.val x.hv),(nm "hls",.val x.hl)]|none=>[]
noncomputable abbrev Wl (P:Pn) (ns rs ps:List D) (o:Option Old) (k sh li:D):Rho:=W3 P ns rs ps++(nm "k",.val k)::(nm "share",.val sh)::(nm "light",.val li)::match o with|some x=>[(nm "lamps",.val x.la),(nm "hue",.val x.hu),(nm "both",.val x.bo),(nm "hsv",.val x.hv),(nm "hls",.val x.hl)]|none=>[]
noncomputable abbrev Wa (P:Pn) (ns rs ps:List D) (o:Option Old) (k sh li la:D):Rho:=W3 P ns rs ps++(nm "k",.val k)::(nm "share",.val sh)::(nm "light",.val li)::(nm "lamps",.val la)::match o with|some x=>[(nm "hue",.val x.hu),(nm "both",.val x.bo),(nm "hsv",.val x.hv),(nm "hls",.val x.hl)]|none=>[]
noncomputable abbrev Wh (P:Pn) (ns rs ps:List D) (o:Option Old) (k sh li la hu:D):Rho:=W3 P ns rs ps++(nm "k",.val k)::(nm "share",.val sh)::(nm "light",.val li)::(nm "lamps",.val la)::(nm "hue",.val hu)::match o with|some x=>[(nm "both",.val x.bo),(nm "hsv",.val x.hv),(nm "hls",.val x.hl)]|none=>[]
noncomputable abbrev Wb (P:Pn) (ns rs ps:List D) (o:Option Old) (k sh li la hu bo:D):Rho:=W3 P ns rs ps++(nm "k",.val k)::(nm "share",.val sh)::(nm "light",.val li)::(nm "lamps",.val la)::(nm "hue",.val hu)::(nm "both",.val bo)::match o with|some x=>[(nm "hsv",.val x.hv),(nm "hls",.val x.hl)]|none=>[]
noncomputable abbrev pst (k:Nat):Stmt:=bst (fst 15 4) k
theorem p4 (P:Pn) (ns:List D):step1 L18 sc15 (fst 15 4) (W3 P ns [] [])=loopX (forF L18 sc15 (fst 15 4)) [.int 0,.int 1,.int 2] (W3 P ns [] []):=by kernel_rfl
theorem p4a (P:Pn) (ns rs ps:List D) (k:D):forF L18 sc15 (fst 15 4) k (W3 P ns rs ps)=exSs theTop L17 sc15 (forB (fst 15 4)) (Wk P ns rs ps none k):=by kernel_rfl
theorem p4b (P:Pn) (ns rs ps:List D) (x:Old) (k:D):forF L18 sc15 (fst 15 4) k (W4 P ns rs ps x)=exSs theTop L17 sc15 (forB (fst 15 4)) (Wk P ns rs ps (some x) k):=by kernel_rfl
theorem Jgj:forB (fst 15 4)=[pst 0,pst 1,pst 2,pst 3,pst 4,pst 5,pst 6,pst 7,pst 8,pst 9]:=by kernel_rfl
theorem pb0 (P:Pn) (ns rs ps:List D) (o:Option Old) {k:Nat} (hk:k<3) {s l:Int} (es:P.s k=s) (el:P.l k=l):step1 L17 sc15 (pst 0) (Wk P ns rs ps o (.int k))=some (Wl P ns rs ps o (.int k) (.int s) (.int l),.next):=by
 subst es el
 have:k=0∨k=1∨k=2:=dj3 (by omega)
 clear hk;rcases this with rfl|rfl|rfl<;>cases o<;>kernel_rfl
theorem pb1 (P:Pn) (ns rs ps:List D) (o:Option Old) {k:Nat} (hk:k<3) {a t:Int} (ea:P.a k=a) (et:P.t k=t) {s l:Int}:step1 L17 sc15 (pst 1) (Wl P ns rs ps o (.int k) (.int s) (.int l))=(((((binD .Div (.int a) (.int 64)).bind λx=>binD .Add x (.int t))).bind λd1=>
  ((binD .Div (.int s) (.int 4)).bind λd2=>((binD .Div (.int l) (.int 4)).bind λd3=>some [d3]).bind λr=>some (d2::r)).bind λr=>some (d1::r)).bind (callF L16 (fnAt 7))).bind λd=>some (Wa P ns rs ps o (.int k) (.int s) (.int l) d,.next):=by
 subst ea et
 have:k=0∨k=1∨k=2:=dj3 (by lia)
 clear hk;rcases this with rfl|rfl|rfl<;>cases o<;>kernel_rfl
theorem pb2 (P:Pn) (ns rs ps:List D) (o:Option Old) {k:Nat} (hk:k<3) {a:Int} (ea:P.a k=a) {s:Int} {l la:D}:step1 L17 sc15 (pst 2) (Wa P ns rs ps o (.int k) (.int s) l la)=((some (s !=0)).bind λc=>if c then binD .Div (.int a) (.int 64)else some (.int 0)).bind λd=>some (Wh P ns rs ps o (.int k) (.int s) l la d,.next):=by
 subst ea
 have:k=0∨k=1∨k=2:=dj3 (by lia)
 clear hk;rcases this with rfl|rfl|rfl<;>cases o<;>kernel_rfl
theorem pb3 (P:Pn) (ns rs ps:List D) (o:Option Old) {s l:Int} {k la hu:D}:step1 L17 sc15 (pst 3) (Wh P ns rs ps o k (.int s) (.int l) la hu)=(binD .Mult (.int l) (.int (8-s))).bind λd=>some (Wb P ns rs ps o k (.int s) (.int l) la hu d,.next):=by
 cases o<;>kernel_rfl
theorem pb4 (P:Pn) (ns rs ps:List D) (o:Option Old) {k sh li hu bo:D} {a b c:F}:step1 L17 sc15 (pst 4) (Wb P ns rs ps o k sh li (.tup [.flt a,.flt b,.flt c]) hu bo)=((callF L16 (fnAt 6) [.flt a,.flt b,.flt c]).bind λx=>((callF L16 (fnAt 5) [.flt a,.flt b,.flt c]).bind λy=>some [y]).bind λr=>some (x::r)).bind λds=>
  (Jk theTop sc15 (JeB (pst 4)) (Jem (pst 4)) ds (Wb P ns rs ps o k sh li (.tup [.flt a,.flt b,.flt c]) hu bo)).map λr=>(r,.next):=by cases o<;>kernel_rfl
theorem Jiw (P:Pn) (ns rs ps:List D) (o:Option Old) {k sh li la hu bo x y:D}:Jk theTop sc15 (JeB (pst 4)) (Jem (pst 4)) [x,y] (Wb P ns rs ps o k sh li la hu bo)=some (W4 P ns rs ps ⟨k,sh,li,la,hu,bo,x,y⟩):=by cases o<;>kernel_rfl
noncomputable def Jgb:D:= .lst (List.replicate 10 (.bool true))
noncomputable abbrev t3 (a b c:F):D:= .tup [.flt a,.flt b,.flt c]
theorem pb5 (P:Pn) (ns rs ps:List D) {k sh li hu bo:D} {a b c h s v h' l s':F}:step1 L17 sc15 (pst 5) (W4 P ns rs ps ⟨k,sh,li,t3 a b c,hu,bo,t3 h s v,t3 h' l s'⟩)=if ns.length<=1000000 then some (W4 P (ns++[.tup [Jgb,Jgb]]) rs ps ⟨k,sh,li,t3 a b c,hu,bo,t3 h s v,t3 h' l s'⟩,.next)else none:=by kernel_rfl
theorem pb6 (P:Pn) (ns rs ps:List D) {k la hu bo hv hl:D} {s l:Int}:step1 L17 sc15 (pst 6) (W4 P ns rs ps ⟨k,.int s,.int l,la,hu,bo,hv,hl⟩)=(((((((binD .Div (.int s) (.int 4)).bind λx=>((binD .Div (.int l) (.int 4)).bind λy=>some [y]).bind λr=>some (x::r)).bind λr=>some (hu::r)).map D.tup).bind λd=>some [d]).bind (λr=>some (hv::r))).map D.tup).bind λd=>
  if ns.length<=1000000 then some (W4 P (ns++[d]) rs ps ⟨k,.int s,.int l,la,hu,bo,hv,hl⟩,.next)else none:=by kernel_rfl
theorem pb7 (P:Pn) (ns rs ps:List D) {k la hu hv hl:D} {s l b:Int}:step1 L17 sc15 (pst 7) (W4 P ns rs ps ⟨k,.int s,.int l,la,hu,.int b,hv,hl⟩)=(((((((binD .Div (.int b) (.int 32)).bind λx=>((((some (s !=0)).bind λc=>if c then(binD .Mult (.int l) (.int s)).bind λp=>binD .Div p (.int (if 32-b<b then 32-b else b))else some (.int 0))).bind λy=>some [y]).bind λr=>some (x::r)).bind λr=>some (hu::r)).map D.tup).bind λd=>some [d]).bind (λr=>some (hl::r))).map D.tup).bind λd=>
  if ns.length<=1000000 then some (W4 P (ns++[d]) rs ps ⟨k,.int s,.int l,la,hu,.int b,hv,hl⟩,.next)else none:=by kernel_rfl
theorem pb8 (P:Pn) (ns rs ps:List D) {x:Old}:step1 L17 sc15 (pst 8) (W4 P ns rs ps x)=if rs.length<=1000000 then some (W4 P ns (rs++[x.hv]) ps x,.next)else none:=by kernel_rfl
theorem pb9 (P:Pn) (ns rs ps:List D) {k:Nat} (hk:k<3) {a:Int} (ea:P.a k=a) {la hu bo hv hl:D} {s l:Int}:step1 L17 sc15 (pst 9) (W4 P ns rs ps ⟨.int k,.int s,.int l,la,hu,bo,hv,hl⟩)=(((((some (s !=0)).bind λc=>if c then some (.int a)else some (.int 0)).bind λx=>some [x,.int s,.int l])).map .lst).bind λd=>
  if ps.length<=1000000 then some (W4 P ns rs (ps++[d]) ⟨.int k,.int s,.int l,la,hu,bo,hv,hl⟩,.next)else none:=by
 subst ea
 have:k=0∨k=1∨k=2:=dj3 (by omega)
 clear hk;rcases this with rfl|rfl|rfl<;>kernel_rfl
noncomputable abbrev W5 (P:Pn) (ns rs ps:List D) (x:Old):Rho:=frzAll [nm "rows",nm "plain"] (W4 P ns rs ps x)
theorem p5 (P:Pn) (ns rs ps:List D) (x:Old):step1 L18 sc15 (fst 15 5) (W4 P ns rs ps x)=some (W5 P ns rs ps x,.ret (.tup [.lst rs,.lst ps])):=by kernel_rfl
theorem p5n (P:Pn) (ns rs ps:List D) (x:Old):(W5 P ns rs ps x).lookup (nm "notes")=some (.mls ns):=by kernel_rfl
theorem sl0:(List.range 5).map (λsh:Nat=>((sh:Int) !=0))=(List.range 5).foldr (λsh r=>(!(sh==0))::r) []:=by kernel_rfl
theorem sl2:(List.range 5).map (λsh=>(binD .Div (.int (sh:Nat)) (.int 4),eqD 5 (.flt (fr sh 4)) (.flt (fr sh 4))))=(List.range 5).foldr (λsh r=>(some (.flt (fr sh 4)),some true)::r) []:=by kernel_rfl
theorem sl3:(List.range 64).map (λh=>(binD .Div (.int (h:Nat)) (.int 64),eqD 5 (.flt (fr h 64)) (.flt (fr h 64))))=(List.range 64).foldr (λh r=>(some (.flt (fr h 64)),some true)::r) []:=by kernel_rfl
theorem sl4:((List.range 4).all λt=>small (t:Nat))=true:=by kernel_rfl
noncomputable def y3F (sh li:Nat):F:=fr ((li+1)*sh) (min (Jy sh (li+1)) (32-Jy sh (li+1)))
noncomputable def y3D (sh li:Nat):D:=if sh=0 then .int 0 else .flt (y3F sh li)
noncomputable abbrev sl5 (sh li:Nat):=(binD .Mult (.int ((li+1:Nat):Int)) (.int (8-(sh:Int))),binD .Div (.int (Jy sh (li+1):Nat)) (.int 32),eqD 5 (.flt (fr (Jy sh (li+1)) 32)) (.flt (fr (Jy sh (li+1)) 32)),((some ((sh:Int) !=0)).bind λc=>if c then(binD .Mult (.int ((li+1:Nat):Int)) (.int (sh:Int))).bind λp=>binD .Div p (.int (if 32-((Jy sh (li+1):Nat):Int)<((Jy sh (li+1):Nat):Int)then 32-((Jy sh (li+1):Nat):Int)else((Jy sh (li+1):Nat):Int)))else some (.int 0)),eqD 5 (.flt (if sh=0 then f0 else y3F sh li)) (y3D sh li))
noncomputable abbrev sl6 (sh li:Nat):Option D×Option D×Option Bool×Option D×Option Bool:=(some (.int (Jy sh (li+1):Nat)),some (.flt (fr (Jy sh (li+1)) 32)),some true,some (y3D sh li),some true)
theorem sl7:(List.range 5).map (λsh=>(List.range 4).map (sl5 sh))=(List.range 5).foldr (λsh r=>(List.range 4).foldr (λli r=>sl6 sh li::r) []::r) []:=by kernel_rfl
noncomputable def Good (n:D):Prop:= ∃a b,n= .tup [a,b]/\ eqD Vt a b=some true
noncomputable def Nts (k:Nat) (ns:List D):Prop:=ns.length<=k/\ ∀n∈ns,Good n
theorem Nts.add {k:Nat} {ns:List D} (h:Nts k ns) {n:D} (g:Good n):Nts (k+1) (ns++[n]):=⟨Jhm h.1,λx hx=>(List.mem_append.mp hx).elim (h.2 x) λe=>List.mem_singleton.mp e▸g⟩
theorem Nts.le {k m:Nat} {ns:List D} (h:Nts k ns) (e:k<=m):Nts m ns:=⟨Nat.le_trans h.1 e,h.2⟩
theorem Nts.to {k m:Nat} {ns:List D} (h:Nts k ns) (e:k<=m):ns.length<=m:=Nat.le_trans h.1 e
theorem mq (N k m:Nat):N+(k+1)*m=N+m+k*m:=by rw[Nat.succ_mul,Nat.add_comm (k*m),<-Nat.add_assoc]
theorem eq3 {a b c x y z:D} (h1:eqD 5 a x=some true) (h2:eqD 5 b y=some true) (h3:eqD 5 c z=some true):Good (.tup [.tup [a,b,c],.tup [x,y,z]]):=by
 refine⟨_,_,rfl,?_⟩
 show(if(([a,b,c]:List D).length==([x,y,z]:List D).length)=true then allEq (eqD 5) [a,b,c] [x,y,z]else none)=_
 rw[if_pos (show(([a,b,c]:List D).length==([x,y,z]:List D).length)=true from rfl)]
 exact bdE h1 (mpE (bdE h2 (mpE (bdE h3 (mpE rfl rfl)) rfl)) rfl)
theorem JaI:Good (.tup [Jgb,Jgb]):=⟨_,_,rfl,by kernel_rfl⟩
theorem JgC:eqD 5 (.flt f0) (.int 0)=some true:=by kernel_rfl
noncomputable abbrev Jga (sh hue:Nat):F:=if sh=0 then f0 else fr hue 64
noncomputable abbrev YH (hue sh li:Nat):D:=t3 (Jga sh hue) (fr sh 4) (fr (li+1) 4)
noncomputable abbrev ZY (hue sh li:Nat):List Int:=[if sh=0 then 0 else(hue:Int),(sh:Int),((li+1:Nat):Int)]
noncomputable def huD (sh hue:Nat):D:=if sh=0 then .int 0 else .flt (fr hue 64)
theorem Jf8 {hue sh:Nat} {l:Int} (hh:hue<64) (hs:sh<5):((some ((sh:Int) !=0)).bind λc=>if c then binD .Div (.int (hue:Int)) (.int 64)else some (.int 0))=some (huD sh hue)/\ eqD 5 (.flt (Jga sh hue)) (huD sh hue)=some true/\
  ((((some ((sh:Int) !=0)).bind λc=>if c then some (D.int (hue:Int))else some (.int 0)).bind λx=>some [x,.int (sh:Int),.int l]).map D.lst=some (iD [if sh=0 then 0 else(hue:Int),(sh:Int),l])):=by
 rw[JN sl0 hs]
 cases sh with
 |zero=>exact⟨rfl,JgC,rfl⟩
 |succ sh=>exact⟨congrArg Prod.fst (JN sl3 hh),congrArg Prod.snd (JN sl3 hh),rfl⟩
theorem J4B (P:Pn) {ns:List D} {N:Nat} (hN:Nts N ns) (rs ps:List D) (o:Option Old) {k:Nat} (hk:k<3) {hue sh li turn:Nat} (hh:hue<64) (hs:sh<5) (hl:li<4) (ht:turn<4)
  (ea:P.a k=(hue:Int)) (es:P.s k=(sh:Int)) (el:P.l k=((li+1:Nat):Int)) (et:P.t k=(turn:Int)) (n1:N<=100) (n2:rs.length<=100) (n3:ps.length<=100)
  {G:Prop} (f: ∀ns' x,Nts (N+3) ns' ->exSs theTop L17 sc15 (forB (fst 15 4)) (Wk P ns rs ps o (.int k))=some (W4 P ns' (rs++[YH hue sh li]) (ps++[iD (ZY hue sh li)]) x,.next) ->G):G:=by
 refine JgX 8 hh ht hs hl λa b c h s l s' p=>?_
 have q:=JN (JN sl7 hs) hl
 have D2:=congrArg Prod.fst (JN sl2 hs)
 have D3:=congrArg Prod.fst (JN sl2 (show li+1<5 from Nat.succ_lt_succ hl))
 have D1:=congrArg Prod.fst (JN sl3 hh)
 have hu:=Jf8 (l:=((li+1:Nat):Int)) hh hs
 have q5:=congrArg (·.2.2.2.1) q
 have hr:t3 h s (fr (li+1) 4)=YH hue sh li:=by rw[p.eh,p.es]
 have N1:=hN.add JaI
 have A3:eqD 5 (.flt (fr (li+1) 4)) (.flt (fr (li+1) 4))=some true:=congrArg Prod.snd (JN sl2 (show li+1<5 from Nat.succ_lt_succ hl))
 have N2:=N1.add (n:= .tup [YH hue sh li,.tup [huD sh hue,.flt (fr sh 4),.flt (fr (li+1) 4)]]) (eq3 hu.2.1 (congrArg Prod.snd (JN sl2 hs)) A3)
 refine f _ ⟨.int k,.int sh,.int ((li+1:Nat):Int),t3 a b c,huD sh hue,.int (Jy sh (li+1):Nat),YH hue sh li,t3 h l s'⟩ (N2.add (n:= .tup [t3 h l s',.tup [huD sh hue,.flt (fr (Jy sh (li+1)) 32),y3D sh li]]) (eq3 (p.eh▸hu.2.1) (by rw[p.el];exact congrArg (·.2.2.1) q) (p.es'▸congrArg (·.2.2.2.2) q))) (Jgj▸?_)
 rw[<-hr]at N2⊢
 refine J0 (pb0 P ns rs ps o hk es el) (J0 ((pb1 P ns rs ps o hk ea et).trans (bdE (bdE (bdE (bdE D1 (if_pos (JI sl4 ht))) (bdE (bdE D2 (bdE (bdE D3 rfl) rfl)) rfl)) p.rgb) rfl))
  (J0 ((pb2 P ns rs ps o hk ea).trans (bdE hu.1 rfl)) (J0 ((pb3 P ns rs ps o).trans (bdE (congrArg (·.1) q) rfl))
  (J0 ((pb4 P ns rs ps o).trans (bdE (bdE p.hsv (bdE (bdE p.hls rfl) rfl)) (mpE (Jiw P ns rs ps o) rfl))) (J0 ((pb5 P ns rs ps).trans (ifE (hN.to (Nat.le_trans n1 (by decide))) rfl))
  (J0 ((pb6 P _ rs ps).trans (bdE (mpE (bdE (bdE (mpE (bdE (bdE D2 (bdE (bdE D3 rfl) rfl)) rfl) rfl) rfl) rfl) rfl) (ifE (N1.to (m:=1000000) (Nat.le_trans (Nat.succ_le_succ n1) (by decide))) rfl)))
  (J0 ((pb7 P _ rs ps).trans (bdE (mpE (bdE (bdE (mpE (bdE (bdE (congrArg (·.2.1) q) (bdE (bdE q5 rfl) rfl)) rfl) rfl) rfl) rfl) rfl) (ifE (N2.to (m:=1000000) (Nat.le_trans (Nat.succ_le_succ (Nat.succ_le_succ n1)) (by decide))) rfl)))
  (J0 ((pb8 P _ rs ps).trans (ifE (Nat.le_trans n2 (by decide)) rfl)) (J0 ((pb9 P _ _ ps hk ea).trans (bdE hu.2.2 (ifE (Nat.le_trans n3 (by decide)) rfl))) rfl)))))))))
structure Three where
 h0:Nat
 h1:Nat
 h2:Nat
 s0:Nat
 s1:Nat
 s2:Nat
 l0:Nat
 l1:Nat
 l2:Nat
structure Three.Ok (T:Three):Prop where
 h0:T.h0<64
 h1:T.h1<64
 h2:T.h2<64
 s0:T.s0<5
 s1:0<T.s1/\ T.s1<5
 s2:0<T.s2/\ T.s2<5
 l0:T.l0<4
 l1:T.l1<4
 l2:T.l2<4
 h01:T.h0≠T.h1
 h02:T.h0≠T.h2
 h12:T.h1≠T.h2
noncomputable abbrev Three.rows (T:Three):List D:=[YH T.h0 T.s0 T.l0,YH T.h1 T.s1 T.l1,YH T.h2 T.s2 T.l2]
noncomputable abbrev Three.plain (T:Three):List D:=[iD (ZY T.h0 T.s0 T.l0),iD (ZY T.h1 T.s1 T.l1),iD (ZY T.h2 T.s2 T.l2)]
theorem JgE (a:Int) (n:Nat) (hn:0<n):a.fmod (n:Int)=a%(n:Int):=Int.fmod_eq_emod_of_nonneg _ (by lia)
theorem pl1 {a:Int} {n:Nat} (h:a=(n:Int)):1+a=((n+1:Nat):Int):=h▸Int.add_comm ..
theorem JdN {b u v:Int} {p q:Nat} (h:(b+u).fmod (64:Nat)=(p:Int)) (k:(b+v).fmod (64:Nat)=(q:Int)) (h1:u<v) (h2:v<u+64):p≠q:=λe=>by
 rw[JgE _ 64 (by decide)]at h k;lia
theorem hn1 {b:Int} {x p q:Nat} (hx:x<31) (h:b.fmod (64:Nat)=(p:Int)) (k:(b+1+x).fmod (64:Nat)=(q:Int)):p≠q:=JdN (b:=b) (u:=0) (v:=1+x) ((Int.add_zero b).symm▸h) (Int.add_assoc b 1 x▸k) (by lia) (by lia)
theorem hn2 {b:Int} {x p q:Nat} (hx:x<31) (h:b.fmod (64:Nat)=(p:Int)) (k:(b+33+x).fmod (64:Nat)=(q:Int)):p≠q:=JdN (b:=b) (u:=0) (v:=33+x) ((Int.add_zero b).symm▸h) (Int.add_assoc b 33 x▸k) (by lia) (by lia)
theorem hn3 {b:Int} {x y p q:Nat} (hx:x<31) (hy:y<31) (h:(b+1+x).fmod (64:Nat)=(p:Int)) (k:(b+33+y).fmod (64:Nat)=(q:Int)):p≠q:=JdN (b:=b) (u:=1+x) (v:=33+y) (Int.add_assoc b 1 x▸h) (Int.add_assoc b 33 y▸k) (by lia) (by lia)
theorem fa3 {α:Type} {p:α ->Prop} {a b c:α} {l:List α} (h1:p a) (h2:p b) (h3:p c) (k: ∀x∈l,p x): ∀x∈a::b::c::l,p x:=List.forall_mem_cons.mpr ⟨h1,List.forall_mem_cons.mpr ⟨h2,List.forall_mem_cons.mpr ⟨h3,k⟩⟩⟩
theorem J8S (b c:Int) {ns:List D} {N:Nat} (hN:Nts N ns) (hn:N<=50) {G:Prop} (f: ∀(T:Three) (ns':List D) (ρ':Rho),T.Ok ->Nts (N+9) ns' ->
  exSs theTop L18 sc15 (fnAt 15).body [(nm "one",.val (.int b)),(nm "two",.val (.int c)),(nm "notes",.mls ns)]=some (ρ',.ret (.tup [.lst T.rows,.lst T.plain])) ->ρ'.lookup (nm "notes")=some (.mls ns') ->G):G:=by
 refine Jx b 64 (by decide) λh0 h0l h0e=>?_
 refine Jx (b.fdiv 64) 31 (by decide) λx xl xe=>?_
 refine Jx (b.fdiv 1984) 31 (by decide) λy yl ye=>?_
 refine Jx (b+1+x) 64 (by decide) λh1 h1l h1e=>?_
 refine Jx (b+33+y) 64 (by decide) λh2 h2l h2e=>?_
 refine Jx c 5 (by decide) λs0 s0l s0e=>?_
 refine Jx (c.fdiv 5) 4 (by decide) λs1 s1l s1e=>?_
 refine Jx (c.fdiv 20) 4 (by decide) λs2 s2l s2e=>?_
 refine Jx ((c.fdiv 80).fdiv 1) 4 (by decide) λl0 l0l l0e=>?_
 refine Jx ((c.fdiv 80).fdiv 4) 4 (by decide) λl1 l1l l1e=>?_
 refine Jx ((c.fdiv 80).fdiv 16) 4 (by decide) λl2 l2l l2e=>?_
 refine Jx ((b.fdiv 61504).fdiv 1) 4 (by decide) λt0 t0l t0e=>?_
 refine Jx ((b.fdiv 61504).fdiv 4) 4 (by decide) λt1 t1l t1e=>?_
 refine Jx ((b.fdiv 61504).fdiv 16) 4 (by decide) λt2 t2l t2e=>?_
 let P:Pn:=⟨b,c,b.fmod 64,(b+1+(b.fdiv 64).fmod 31).fmod 64,(b+33+(b.fdiv 1984).fmod 31).fmod 64,c.fmod 5,1+(c.fdiv 5).fmod 4,1+(c.fdiv 20).fmod 4,1+((c.fdiv 80).fdiv 1).fmod 4,1+((c.fdiv 80).fdiv 4).fmod 4,1+((c.fdiv 80).fdiv 16).fmod 4⟩
 have a1:P.a1=(h1:Int):=(congrArg (λz=>(b+1+z).fmod 64) xe).trans h1e
 have a2:P.a2=(h2:Int):=(congrArg (λz=>(b+33+z).fmod 64) ye).trans h2e
 exact J4B P hN [] [] none (k:=0) (by decide) h0l s0l l0l t0l h0e s0e (pl1 l0e) t0e (Nat.le_trans hn (by decide)) (Nat.zero_le _) (Nat.zero_le _) λn1 x0 g0 r0=>
  J4B P g0 ([]++[YH h0 s0 l0]) ([]++[iD (ZY h0 s0 l0)]) (some x0) (k:=1) (by decide) h1l (Nat.succ_lt_succ s1l) l1l t1l a1 (pl1 s1e) (pl1 l1e) t1e (Nat.le_trans (Nat.add_le_add_right hn 3) (by decide)) (Nat.le_of_ble_eq_true rfl) (Nat.le_of_ble_eq_true rfl) λn2 x1 g1 r1=>
  J4B P g1 ([]++[YH h0 s0 l0]++[YH h1 (s1+1) l1]) ([]++[iD (ZY h0 s0 l0)]++[iD (ZY h1 (s1+1) l1)]) (some x1) (k:=2) (by decide) h2l (Nat.succ_lt_succ s2l) l2l t2l a2 (pl1 s2e) (pl1 l2e) t2e (Nat.le_trans (Nat.add_le_add_right hn 6) (by decide)) (Nat.le_of_ble_eq_true rfl) (Nat.le_of_ble_eq_true rfl) λn3 x2 g2 r2=>
  f ⟨h0,h1,h2,s0,s1+1,s2+1,l0,l1,l2⟩ n3 _ ⟨h0l,h1l,h2l,s0l,⟨Nat.succ_pos _,Nat.succ_lt_succ s1l⟩,⟨Nat.succ_pos _,Nat.succ_lt_succ s2l⟩,l0l,l1l,l2l,hn1 xl h0e h1e,hn2 yl h0e h2e,hn3 xl yl h1e h2e⟩ g2
   (JhY▸(p0 b c ns _).trans (J0 ((p4 ..).trans (J2 ((p4a ..).trans r0) (J2 ((p4b ..).trans r1) (J2 ((p4b ..).trans r2) rfl)))) (J7 (p5 P _ _ _ x2)))) (p5n ..)
noncomputable def fnC:Fn:=(meth 1 1).getD ⟨[],[],scL⟩
noncomputable abbrev scC:Scope:=fnC.scope
noncomputable def cst (k:Nat):Stmt:=(fnC.body[k]?).getD (.Pass default)
theorem bdC:fnC.body=[cst 0,cst 1]:=by kernel_rfl
noncomputable abbrev K0 (o a b:D):Rho:=[(nm "self",.val (.obj o)),(nm "left",.val a),(nm "right",.val b)]
noncomputable abbrev K1 (o a b:D) (x:Option (D×D)) (i d:D):Rho:=K0 o a b++(nm "index",.val i)::(nm "direction",.val d)::match x with|some (l,r)=>[(nm "l",.val l),(nm "r",.val r)]|none=>[]
noncomputable abbrev K2 (o a b i d l r:D):Rho:=K0 o a b++[(nm "index",.val i),(nm "direction",.val d),(nm "l",.val l),(nm "r",.val r)]
section
variable (m:Nat)
noncomputable abbrev Lc (m:Nat):Lv:=level theTop (m+4)
noncomputable abbrev Lc' (m:Nat):Lv:=level theTop (m+3)
theorem k0 (its:List D) (a b:D):step1 (Lc m) scC (cst 0) (K0 (.lst its) a b)=loopX (forF (Lc m) scC (cst 0)) its (K0 (.lst its) a b):=by kernel_rfl
theorem k0a (o a b i d:D):forF (Lc m) scC (cst 0) (.tup [i,d]) (K0 o a b)=exSs theTop (Lc' m) scC (forB (cst 0)) (K1 o a b none i d):=by kernel_rfl
theorem k0b (o a b i d i' d' l r:D):forF (Lc m) scC (cst 0) (.tup [i,d]) (K2 o a b i' d' l r)=exSs theTop (Lc' m) scC (forB (cst 0)) (K1 o a b (some (l,r)) i d):=by kernel_rfl
theorem Ji3:forB (cst 0)=[bst (cst 0) 0,bst (cst 0) 1,bst (cst 0) 2,bst (cst 0) 3]:=by kernel_rfl
noncomputable abbrev Kl (o a b:D) (x:Option (D×D)) (i d l:D):Rho:=K0 o a b++(nm "index",.val i)::(nm "direction",.val d)::(nm "l",.val l)::match x with|some (_,r)=>[(nm "r",.val r)]|none=>[]
theorem kb0 (o a b i d:D) (x:Option (D×D)):step1 (Lc' m) scC (bst (cst 0) 0) (K1 o a b x i d)=(itemD a i).bind λl=>some (Kl o a b x i d l,.next):=by
 rcases x with _|⟨l,r⟩<;>kernel_rfl
theorem kb1 (o a b i d l:D) (x:Option (D×D)):step1 (Lc' m) scC (bst (cst 0) 1) (Kl o a b x i d l)=(itemD b i).bind λr=>some (K2 o a b i d l r,.next):=by
 rcases x with _|⟨l,r⟩<;>kernel_rfl
theorem kb2 (o a b i l r:D) (d:Int):step1 (Lc' m) scC (bst (cst 0) 2) (K2 o a b i (.int d) l r)=(Kj .Lt l r).bind λc=>if c then some (K2 o a b i (.int d) l r,.ret (.int (-d)))else some (K2 o a b i (.int d) l r,.next):=by kernel_rfl
theorem kb3 (o a b i l r:D) (d:Int):step1 (Lc' m) scC (bst (cst 0) 3) (K2 o a b i (.int d) l r)=(Kj .Gt l r).bind λc=>if c then some (K2 o a b i (.int d) l r,.ret (.int d))else some (K2 o a b i (.int d) l r,.next):=by kernel_rfl
theorem k1 (o a b:D) (x:Option (D×D)) (i d:D):step1 (Lc m) scC (cst 1) (K0 o a b)=some (K0 o a b,.ret (.int 0)):=by kernel_rfl
theorem k1' (o a b i d l r:D):step1 (Lc m) scC (cst 1) (K2 o a b i d l r)=some (K2 o a b i d l r,.ret (.int 0)):=by kernel_rfl
end
noncomputable abbrev pairI (p:Int×Int):D:= .tup [.int p.1,.int p.2]
noncomputable def VL (f:Int ->Int):List (Int×Int) ->Int
 |[]=>0
 |(i,d)::r=>if f i<0 then-d else if 0<f i then d else VL f r
noncomputable def Told (A B:D) (f:Int ->Int) (i:Int):Prop:= ∃l r,itemD A (.int i)=some l/\ itemD B (.int i)=some r/\ Kj .Lt l r=some (decide (f i<0))/\ Kj .Gt l r=some (decide (0<f i))
theorem J4H (m:Nat) (o A B:D) {f:Int ->Int} {i d:Int} (x:Option (D×D)) (h:Told A B f i): ∃l r:D,exSs theTop (Lc' m) scC (forB (cst 0)) (K1 o A B x (.int i) (.int d))=
  some (K2 o A B (.int i) (.int d) l r,if f i<0 then .ret (.int (-d))else if 0<f i then .ret (.int d)else .next):=by
 refine o23 h λl r h1 h2 h3 h4=>?_;clear h
 refine⟨l,r,?_⟩
 rw[Ji3]
 refine J0 (ρ':=Kl o A B x (.int i) (.int d) l) (by rw[kb0,h1];rfl) (J0 (ρ':=K2 o A B (.int i) (.int d) l r) (by rw[kb1,h2];rfl) ?_)
 by_cases q1:f i<0
 ·rw[if_pos q1]
  exact J7 (by rw[kb2,h3,decide_eq_true q1];rfl)
 ·rw[if_neg q1]
  refine J0 (ρ':=K2 o A B (.int i) (.int d) l r) (by rw[kb2,h3,decide_eq_false q1];rfl) ?_
  by_cases q2:0<f i
  ·rw[if_pos q2]
   exact J7 (by rw[kb3,h4,decide_eq_true q2];rfl)
  ·rw[if_neg q2]
   exact J0 (ρ':=K2 o A B (.int i) (.int d) l r) (by rw[kb3,h4,decide_eq_false q2];rfl) rfl
theorem J4I (m:Nat) (o A B:D) (f:Int ->Int): ∀(ord:List (Int×Int)) (i' d' l r:D),(∀p∈ord,Told A B f p.1) -> ∃ρ',exSs theTop (Lc m) scC [cst 1] (K2 o A B i' d' l r)=some (K2 o A B i' d' l r,.ret (.int 0))/\
  ((loopX (forF (Lc m) scC (cst 0)) (ord.map pairI) (K2 o A B i' d' l r)=some (ρ',.ret (.int (VL f ord))))∨(VL f ord=0/\ ∃i2 d2 l2 r2,ρ'=K2 o A B i2 d2 l2 r2/\ loopX (forF (Lc m) scC (cst 0)) (ord.map pairI) (K2 o A B i' d' l r)=some (ρ',.next)))
 |[],i',d',l,r,_=>⟨_,J7 (k1' m o A B i' d' l r),.inr ⟨rfl,i',d',l,r,rfl,rfl⟩⟩
 |(i,d)::ord,i',d',l,r,h=>by
  refine o20 (J4H m o A B (d:=d) (some (l,r)) (h (i,d) List.mem_cons_self)) λl1 r1 hb=>?_
  by_cases q1:f i<0
  ·refine⟨K2 o A B (.int i) (.int d) l1 r1,J7 (k1' m o A B i' d' l r),.inl ?_⟩
   rw[if_pos q1]at hb
   rw[List.map_cons,VL,if_pos q1]
   exact Vi (by rw[k0b];exact hb)
  ·by_cases q2:0<f i
   ·refine⟨K2 o A B (.int i) (.int d) l1 r1,J7 (k1' m o A B i' d' l r),.inl ?_⟩
    rw[if_neg q1,if_pos q2]at hb
    rw[List.map_cons,VL,if_neg q1,if_pos q2]
    exact Vi (by rw[k0b];exact hb)
   ·rw[if_neg q1,if_neg q2]at hb
    refine o11 (J4I m o A B f ord (.int i) (.int d) l1 r1 λp hp=>h p (List.mem_cons_of_mem _ hp)) λρ' _ hr=>?_
    refine⟨ρ',J7 (k1' m o A B i' d' l r),?_⟩
    rw[List.map_cons,VL,if_neg q1,if_neg q2]
    rcases hr with hr|⟨e,i2,d2,l2,r2,e2,hr⟩
    ·exact .inl (J2 (by rw[k0b];exact hb) hr)
    ·exact .inr ⟨e,i2,d2,l2,r2,e2,J2 (by rw[k0b];exact hb) hr⟩
theorem KP (m:Nat) (A B:D) (f:Int ->Int) (ord:List (Int×Int)) (h: ∀p∈ord,Told A B f p.1):callF (level theTop (m+5)) fnC [.obj (.lst (ord.map pairI)),A,B]=some (.int (VL f ord)):=by
 have hk: ∃ρ',exSs theTop (Lc m) scC [cst 0,cst 1] (K0 (.lst (ord.map pairI)) A B)=some (ρ',.ret (.int (VL f ord))):=by
  cases ord with
  |nil=>exact⟨_,J0 (by rw[k0];rfl) (J7 (k1 m _ A B none .none .none))⟩
  |cons p ord=>
   obtain⟨i,d⟩:=p
   refine o20 (J4H m (.lst (((i,d)::ord).map pairI)) A B (d:=d) none (h (i,d) List.mem_cons_self)) λl1 r1 hb=>?_
   by_cases q1:f i<0
   ·rw[if_pos q1]at hb
    refine⟨_,J7 (ρ':=K2 (.lst (((i,d)::ord).map pairI)) A B (.int i) (.int d) l1 r1) ?_⟩
    rw[k0,List.map_cons,VL,if_pos q1]
    exact Vi (by rw[k0a];exact hb)
   ·by_cases q2:0<f i
    ·rw[if_neg q1,if_pos q2]at hb
     refine⟨_,J7 (ρ':=K2 (.lst (((i,d)::ord).map pairI)) A B (.int i) (.int d) l1 r1) ?_⟩
     rw[k0,List.map_cons,VL,if_neg q1,if_pos q2]
     exact Vi (by rw[k0a];exact hb)
    ·rw[if_neg q1,if_neg q2]at hb
     refine o11 (J4I m (.lst (((i,d)::ord).map pairI)) A B f ord (.int i) (.int d) l1 r1 λp hp=>h p (List.mem_cons_of_mem _ hp)) λρ' _ hr=>?_
     have e:VL f ((i,d)::ord)=VL f ord:=by rw[VL,if_neg q1,if_neg q2]
     rcases hr with hr|⟨e0,i2,d2,l2,r2,e2,hr⟩
     ·refine⟨ρ',J7 ?_⟩
      rw[k0,e]
      exact J2 (by rw[k0a];exact hb) hr
     ·refine⟨ρ',J0 (ρ':=ρ') ?_ ?_⟩
      ·rw[k0]
       exact J2 (by rw[k0a];exact hb) hr
      ·rw[e,e0,e2]
       exact J7 (k1' m _ A B i2 d2 l2 r2)
 obtain⟨ρ',hk⟩:=hk
 refine Jw (ρ:=ρ') (by kernel_rfl) ?_
 show exSs theTop (Lc m) scC fnC.body (K0 (.lst (ord.map pairI)) A B)=_
 rw[bdC]
 exact hk
structure Ev where
 X:Cl
 m:D
 w:D
 dr:D
 sz:D
 ty:D
 go:D
 tx:D
 ct:D
@[elab_as_elim] theorem Ev.tt {P:Ev ->Prop} (Y:Ev) (h:P {Y with X:={Y.X with t:=false}}) (h':P {Y with X:={Y.X with t:=true}}):P Y:=Cl.tt (P:=λX=>P {Y with X:=X}) Y.X h h'
noncomputable abbrev C12 (Y:Ev) (ns:List D):Rho:=B0 Y.X++[(nm "many",.val Y.m),(nm "pool",.mls []),(nm "word",.val Y.w),(nm "draw",.val Y.dr),(nm "size",.val Y.sz),(nm "typed",.val Y.ty),(nm "gone",.val Y.go),(nm "text",.val Y.tx),(nm "notes",.mls ns),(nm "counts",.val Y.ct)]
noncomputable abbrev C13 (Y:Ev) (ns:List D) (rw pl:D):Rho:=B0 Y.X++[(nm "many",.val Y.m),(nm "pool",.mls []),(nm "word",.val Y.w),(nm "draw",.val Y.dr),(nm "size",.val Y.sz),(nm "typed",.val Y.ty),(nm "gone",.val Y.go),(nm "text",.val Y.tx),(nm "notes",.mls ns),(nm "counts",.val Y.ct),(nm "rows",.val rw),(nm "plain",.val pl)]
noncomputable def JhN:Stmt ->Expr
 | .Assign (t::_) _ _=>t
 |_=> .Name (nm "") default
theorem JiG (Y:Ev) (ns:List D):step1 L19 scL (lst 13) (C12 Y ns)=(exSs theTop L18 sc15 (fnAt 15).body [(nm "one",.val (.int Y.X.b)),(nm "two",.val (.int Y.X.c)),(nm "notes",.mls ns)]).bind λr=>(J6J r.2).bind λd=>(J1P (r.1.lookup (nm "notes"))).bind λl'=>(bindT 9 scL (JhN (lst 13)) d (setR (nm "notes") (.mls l') (C12 Y ns))).map λr=>(r,.next):=by
 refine Ev.tt Y ?_ ?_<;>kernel_rfl
theorem Jh7 (Y:Ev) (ns ns':List D) (r p:D):bindT 9 scL (JhN (lst 13)) (.tup [r,p]) (setR (nm "notes") (.mls ns') (C12 Y ns))=some (C13 Y ns' r p):=by
 refine Ev.tt Y ?_ ?_<;>kernel_rfl
theorem J4o (Y:Ev) {ns:List D} {N:Nat} (hN:Nts N ns) (hn:N<=50) {G:Prop} (f: ∀(T:Three) (ns':List D),T.Ok ->Nts (N+9) ns' ->step1 L19 scL (lst 13) (C12 Y ns)=some (C13 Y ns' (.lst T.rows) (.lst T.plain),.next) ->G):G:=
 J8S Y.X.b Y.X.c hN hn λT n1 ρ' h1 h2 h4 h5=>f T n1 h1 h2 ((JiG Y ns).trans (bdE h4 (bdE (o:=J6J (Fl.ret (D.tup [.lst T.rows,.lst T.plain]))) rfl (bdE ((congrArg J1P h5).trans rfl) (mpE (Jh7 Y ns n1 _ _) rfl)))))
noncomputable abbrev C14 (Y:Ev) (ns:List D) (rw pl od:D):Rho:=B0 Y.X++[(nm "many",.val Y.m),(nm "pool",.mls []),(nm "word",.val Y.w),(nm "draw",.val Y.dr),(nm "size",.val Y.sz),(nm "typed",.val Y.ty),(nm "gone",.val Y.go),(nm "text",.val Y.tx),(nm "notes",.mls ns),(nm "counts",.val Y.ct),(nm "rows",.val rw),(nm "plain",.val pl),(nm "order",.val od)]
theorem JiH (Y:Ev) (ns:List D) (rw pl:D):step1 L19 scL (lst 14) (C13 Y ns rw pl)=((((itemD turnedD (.int ((Y.X.c.fdiv 5120).fmod 6))).bind λd=>(drawn d).map (enumD 0)).bind λitems=>((J6 (clF L18 (JU (lst 14)) [(nm "cells",.val (.lst Y.X.cs))]) items).bind YK).map .lst)).bind λd=>some (C14 Y ns rw pl d,.next):=by
 refine Ev.tt Y ?_ ?_<;>kernel_rfl
noncomputable def KF (c:Int) (k:Nat):Int:=1-2*(((c.fdiv 30720).fdiv (sel k 1 2 4)).fmod 2)
theorem Jgn (Y:Ev) (key:Int) {k:Nat} (hk:k<3):clF L18 (JU (lst 14)) [(nm "cells",.val (.lst Y.X.cs))] (.tup [.int k,.int key])=some [pairI (key,KF Y.X.c k)]:=by
 obtain⟨⟨t,v,q,n,a,b,c,d,e⟩,m,w,dr,sz,ty,go,tx,ct⟩:=Y
 have:k=0∨k=1∨k=2:=dj3 (by omega)
 clear hk;rcases this with rfl|rfl|rfl<;>kernel_rfl
theorem J4D (c:Int) (k:Nat):KF c k=1∨KF c k= -1:=by
 unfold KF
 refine Jx ((c.fdiv 30720).fdiv (sel k 1 2 4)) 2 (by lia) λz hz e=>?_
 rw[show((c.fdiv 30720).fdiv (sel k 1 2 4)).fmod 2=(z:Int)from e]
 lia
theorem J6X:(List.range 6).map (λ(k:Nat)=>itemD turnedD (.int k))=(List.range 6).foldr (λk r=>some (iD (turnedL.getD k []))::r) []:=by kernel_rfl
theorem Jb5:(List.range 6).map (λ(k:Nat)=>itemD manyD (.int k))=(List.range 6).foldr (λk r=>some (iD (manyL.getD k []))::r) []:=by kernel_rfl
theorem J3l (x:Int) {G:Prop} (f: ∀tu∈turnedL,itemD turnedD (.int (x.fmod 6))=some (iD tu) ->G):G:=
 Jx x 6 (by decide) λ_ hk e=>f _ (gdm hk) ((congrArg (λz=>itemD turnedD (.int z)) e).trans (JN J6X hk))
theorem JdI (x:Int) {G:Prop} (f: ∀m∈manyL,itemD manyD (.int (x.fmod 6))=some (iD m) ->G):G:=
 Jx x 6 (by decide) λ_ hk e=>f _ (gdm hk) ((congrArg (λz=>itemD manyD (.int z)) e).trans (JN Jb5 hk))
noncomputable abbrev JgW (tu:List Int) (c:Int):List (Int×Int):=[(tu.getD 0 0,KF c 0),(tu.getD 1 0,KF c 1),(tu.getD 2 0,KF c 2)]
theorem tu3:turnedL.map (λtu=>tu)=turnedL.foldr (λtu r=>[tu.getD 0 0,tu.getD 1 0,tu.getD 2 0]::r) []:=by kernel_rfl
theorem J6A (Y:Ev) (ns:List D) (rw' pl:D) {G:Prop} (f: ∀tu∈turnedL,step1 L19 scL (lst 14) (C13 Y ns rw' pl)=some (C14 Y ns rw' pl (.lst ((JgW tu Y.X.c).map pairI)),.next) ->G):G:=
 J3l (Y.X.c.fdiv 5120) λtu ht e=>f tu ht ((JiH Y ns rw' pl).trans (bdE (bdE (bdE e
  (show(drawn (iD tu)).map (enumD 0)=some [.tup [.int (0:Nat),.int (tu.getD 0 0)],.tup [.int (1:Nat),.int (tu.getD 1 0)],.tup [.int (2:Nat),.int (tu.getD 2 0)]]from congrArg (λt=>(drawn (iD t)).map (enumD 0)) (J8y tu3 ht)))
  (mpE (bdE (gC (Jgn Y _ (k:=0) (by decide)) (gC (Jgn Y _ (k:=1) (by decide)) (gC (Jgn Y _ (k:=2) (by decide)) rfl))) rfl) rfl)) rfl))
noncomputable def Jiv (a b:Nat) (o:Ordering):Bool:=match o with
 | .lt=>Nat.blt a b
 | .eq=>Nat.beq a b
 | .gt=>Nat.blt b a
noncomputable def Jew (n a b:Nat):Bool:=match Float64.cmp (fr a n) (fr b n)with
 |some o=>Jiv a b o
 |none=>false
theorem Jgr:((List.range 64).all λa=>(List.range 64).all λb=>Jew 64 a b)=true:=by kernel_rfl
theorem Ji7:((List.range 5).all λa=>(List.range 5).all λb=>Jew 4 a b)=true:=by kernel_rfl
theorem JgF:J7O f0 (fr 0 64)=true:=by kernel_rfl
theorem J1b {n a b:Nat} (h:Jew n a b=true):Kj .Lt (.flt (fr a n)) (.flt (fr b n))=some (decide ((a:Int)-(b:Int)<0))/\ Kj .Gt (.flt (fr a n)) (.flt (fr b n))=some (decide (0<(a:Int)-(b:Int))):=by
 unfold Jew at h
 show some (Float64.cmp (fr a n) (fr b n)==some .lt)=_/\ some (Float64.cmp (fr a n) (fr b n)==some .gt)=_
 cases e:Float64.cmp (fr a n) (fr b n)with
 |none=>rw[e]at h;cases h
 |some o=>
  rw[e]at h
  cases o with
  |lt=>
   have:a<b:=Nat.le_of_ble_eq_true h
   rw[decide_eq_true (by lia),decide_eq_false (by lia)];exact⟨rfl,rfl⟩
  |eq=>
   have:a=b:=Nat.eq_of_beq_eq_true h
   rw[decide_eq_false (by lia),decide_eq_false (by lia)];exact⟨rfl,rfl⟩
  |gt=>
   have:b<a:=Nat.le_of_ble_eq_true h
   rw[decide_eq_false (by lia),decide_eq_true (by lia)];exact⟨rfl,rfl⟩
noncomputable abbrev J0M (hue sh li:Nat):List Nat:=[if sh=0 then 0 else hue,sh,li+1]
theorem J5v (hue sh li:Nat):YH hue sh li= .tup [.flt (fr (if sh=0 then 0 else hue) 64),.flt (fr sh 4),.flt (fr (li+1) 4)]:=by
 show D.tup [.flt (Jga sh hue),.flt (fr sh 4),.flt (fr (li+1) 4)]=_
 unfold Jga
 by_cases q:sh=0
 ·rw[if_pos q,if_pos q,<-JE JgF]
 ·rw[if_neg q,if_neg q]
theorem J6h (x y z:D):itemD (.tup [x,y,z]) (.int ((0:Nat):Int))=some x/\ itemD (.tup [x,y,z]) (.int ((1:Nat):Int))=some y/\ itemD (.tup [x,y,z]) (.int ((2:Nat):Int))=some z:=⟨rfl,rfl,rfl⟩
noncomputable def Yv (u v:List Nat) (k:Int):Int:=((u.getD k.toNat 0:Nat):Int)-((v.getD k.toNat 0:Nat):Int)
theorem JgG (a b c x y z:Nat):Yv [a,b,c] [x,y,z] ((0:Nat):Int)=(a:Int)-(x:Int)/\ Yv [a,b,c] [x,y,z] ((1:Nat):Int)=(b:Int)-(y:Int)/\ Yv [a,b,c] [x,y,z] ((2:Nat):Int)=(c:Int)-(z:Int):=⟨rfl,rfl,rfl⟩
theorem J0Y {A B l r:D} {f:Int ->Int} {i:Int} {z:Int} (h1:itemD A (.int i)=some l) (h2:itemD B (.int i)=some r) (hf:f i=z) (h3:Kj .Lt l r=some (decide (z<0))/\ Kj .Gt l r=some (decide (0<z))):Told A B f i:=by
 subst hf
 exact⟨l,r,h1,h2,h3.1,h3.2⟩
theorem JfU {a b:Nat} (ha:a<64) (hb:b<64):Kj .Lt (.flt (fr a 64)) (.flt (fr b 64))=some (decide ((a:Int)-(b:Int)<0))/\ Kj .Gt (.flt (fr a 64)) (.flt (fr b 64))=some (decide (0<(a:Int)-(b:Int))):=by
 have h:Jew 64 a b=true:=List.all_eq_true.mp (List.all_eq_true.mp Jgr a (List.mem_range.mpr ha)) b (List.mem_range.mpr hb)
 exact J1b h
theorem JfT {a b:Nat} (ha:a<5) (hb:b<5):Kj .Lt (.flt (fr a 4)) (.flt (fr b 4))=some (decide ((a:Int)-(b:Int)<0))/\ Kj .Gt (.flt (fr a 4)) (.flt (fr b 4))=some (decide (0<(a:Int)-(b:Int))):=by
 have h:Jew 4 a b=true:=List.all_eq_true.mp (List.all_eq_true.mp Ji7 a (List.mem_range.mpr ha)) b (List.mem_range.mpr hb)
 exact J1b h
theorem Jm {h1 s1 l1 h2 s2 l2:Nat} (a1:h1<64) (a2:h2<64) (b1:s1<5) (b2:s2<5) (c1:l1<4) (c2:l2<4) {i:Nat} (hi:i<3):
  Told (YH h1 s1 l1) (YH h2 s2 l2) (Yv (J0M h1 s1 l1) (J0M h2 s2 l2)) (i:Int):=by
 rw[J5v,J5v]
 have d1:(if s1=0 then 0 else h1)<64:=by split<;>lia
 have d2:(if s2=0 then 0 else h2)<64:=by split<;>lia
 have e64:=JfU d1 d2
 have e4:=JfT b1 b2
 have e4':=JfT (show l1+1<5 by lia) (show l2+1<5 by lia)
 have:i=0∨i=1∨i=2:=dj3 (by lia)
 clear hi;rcases this with rfl|rfl|rfl
 ·exact J0Y (J6h _ _ _).1 (J6h _ _ _).1 (JgG _ _ _ _ _ _).1 e64
 ·exact J0Y (J6h _ _ _).2.1 (J6h _ _ _).2.1 (JgG _ _ _ _ _ _).2.1 e4
 ·exact J0Y (J6h _ _ _).2.2 (J6h _ _ _).2.2 (JgG _ _ _ _ _ _).2.2 e4'
noncomputable abbrev C15 (Y:Ev) (ns:List D) (rw pl od:D) (fl:List (Key×D)) (z:Rho):Rho:=B0 Y.X++(nm "many",.val Y.m)::(nm "pool",.mls [])::(nm "word",.val Y.w)::(nm "draw",.val Y.dr)::(nm "size",.val Y.sz)::(nm "typed",.val Y.ty)::(nm "gone",.val Y.go)::(nm "text",.val Y.tx)::(nm "notes",.mls ns)::(nm "counts",.val Y.ct)::(nm "rows",.val rw)::(nm "plain",.val pl)::(nm "order",.val od)::(nm "chooser",.val (.obj od))::(nm "fall",.mdc fl)::z
theorem JiI (Y:Ev) (ns:List D) (rw pl od:D):step1 L19 scL (lst 15) (C14 Y ns rw pl od)=some (C15 Y ns rw pl od [] [],.next):=by
 refine Ev.tt Y ?_ ?_<;>kernel_rfl
noncomputable abbrev inF:Stmt:=bst (lst 16) 0
noncomputable abbrev ib (k:Nat):Stmt:=bst inF k
theorem JhZ:forB (lst 16)=[inF]:=by kernel_rfl
theorem Jgk:forB inF=[ib 0,ib 1,ib 2,ib 3]:=by kernel_rfl
noncomputable abbrev tl1 (one:D) (x:Option (D×D×D)):Rho:=(nm "one",.val one)::match x with|some (two,t,g)=>[(nm "two",.val two),(nm "told",.val t),(nm "gap",.val g)]|none=>[]
noncomputable abbrev tl2 (one two:D) (x:Option (D×D)):Rho:=(nm "one",.val one)::(nm "two",.val two)::match x with|some (t,g)=>[(nm "told",.val t),(nm "gap",.val g)]|none=>[]
noncomputable abbrev tl3 (one two t:D) (x:Option D):Rho:=(nm "one",.val one)::(nm "two",.val two)::(nm "told",.val t)::match x with|some g=>[(nm "gap",.val g)]|none=>[]
noncomputable abbrev tl4 (one two t g:D):Rho:=[(nm "one",.val one),(nm "two",.val two),(nm "told",.val t),(nm "gap",.val g)]
section
variable (Y:Ev) (ns:List D) (rw pl od:D) (fl:List (Key×D))
theorem JiJ:step1 L19 scL (lst 16) (C15 Y ns rw pl od fl [])=loopX (forF L19 scL (lst 16)) [.int 0,.int 1,.int 2] (C15 Y ns rw pl od fl []):=by
 refine Ev.tt Y ?_ ?_<;>kernel_rfl
theorem Jh8 (k:D):forF L19 scL (lst 16) k (C15 Y ns rw pl od fl [])=exSs theTop L18 scL (forB (lst 16)) (C15 Y ns rw pl od fl (tl1 k none)):=by
 refine Ev.tt Y ?_ ?_<;>kernel_rfl
theorem JfQ (k o w' t' g:D):forF L19 scL (lst 16) k (C15 Y ns rw pl od fl (tl4 o w' t' g))=exSs theTop L18 scL (forB (lst 16)) (C15 Y ns rw pl od fl (tl1 k (some (w',t',g)))):=by
 refine Ev.tt Y ?_ ?_<;>kernel_rfl
theorem in0 (k:D) (x:Option (D×D×D)):step1 L18 scL inF (C15 Y ns rw pl od fl (tl1 k x))=loopX (forF L18 scL inF) [.int 0,.int 1,.int 2] (C15 Y ns rw pl od fl (tl1 k x)):=by
 rcases x with _|⟨x1,x2,x3⟩<;>refine Ev.tt Y ?_ ?_<;>kernel_rfl
theorem Jil (j k:D) (x:Option (D×D×D)):forF L18 scL inF j (C15 Y ns rw pl od fl (tl1 k x))=exSs theTop L17 scL (forB inF) (C15 Y ns rw pl od fl (tl2 k j (x.map (·.2)))):=by
 rcases x with _|⟨x1,x2,x3⟩<;>refine Ev.tt Y ?_ ?_<;>kernel_rfl
theorem Jhz (j k j' t' g:D):forF L18 scL inF j (C15 Y ns rw pl od fl (tl4 k j' t' g))=exSs theTop L17 scL (forB inF) (C15 Y ns rw pl od fl (tl2 k j (some (t',g)))):=by
 refine Ev.tt Y ?_ ?_<;>kernel_rfl
theorem i0 (i j:D) (x:Option (D×D)):step1 L17 scL (ib 0) (C15 Y ns rw pl od fl (tl2 i j x))=(((itemD rw i).bind λa=>((itemD rw j).bind λb=>some [b]).bind λr=>some (a::r)).bind λr=>callF L16 fnC (.obj od::r)).bind λd=>some (C15 Y ns rw pl od fl (tl3 i j d (x.map (·.2))),.next):=by
 rcases x with _|⟨x1,x2⟩<;>refine Ev.tt Y ?_ ?_<;>kernel_rfl
end
noncomputable abbrev L15:Lv:=level theTop 15
section
variable (Y:Ev) (ns:List D) (rw pl:D) (fl:List (Key×D))
noncomputable abbrev JgH:Expr:=J7e (JU (ib 1))
theorem i1 (p0 p1 p2 i j t:D) (x:Option D):step1 L17 scL (ib 1) (C15 Y ns rw pl (.lst [p0,p1,p2]) fl (tl3 i j t x))=(((((J6 (clF L15 JgH [(nm "one",.val i),(nm "plain",.val pl),(nm "two",.val j)]) [.tup [p0,.int 10000],.tup [p1,.int 100],.tup [p2,.int 1]]).bind YK).map .lst).bind λd=>some [d]).bind (J4 (nm "sum"))).bind λd=>
  some (C15 Y ns rw pl (.lst [p0,p1,p2]) fl (tl4 i j t d),.next):=by
 cases x<;>refine Ev.tt Y ?_ ?_<;>kernel_rfl
theorem JeO (i j:D) (k w wt:Int):clF L15 JgH [(nm "one",.val i),(nm "plain",.val pl),(nm "two",.val j)] (.tup [.tup [.int k,.int w],.int wt])=(((((itemD pl i).bind λa=>itemD a (.int k)).bind λx=>((itemD pl j).bind λa=>itemD a (.int k)).bind λy=>binD .Sub x y).bind λz=>binD .Mult (.int w) z).bind λu=>binD .Mult u (.int wt)).map λd=>[d]:=by kernel_rfl
noncomputable def sgB (g:Int):Int:=(if decide (0<g)then 1 else 0)-(if decide (g<0)then 1 else 0)
noncomputable abbrev Jbd (t g:Int):D:= .tup [.lst [.int t,.bool false],.lst [.int (sgB g),.bool false]]
theorem i2 (od i j:D) (t g:Int):step1 L17 scL (ib 2) (C15 Y ns rw pl od fl (tl4 i j (.int t) (.int g)))=if ns.length<=1000000 then some (C15 Y (ns++[Jbd t g]) rw pl od fl (tl4 i j (.int t) (.int g)),.next)else none:=by
 refine Ev.tt Y ?_ ?_<;>kernel_rfl
theorem Jf9 (od g:D) (t:Int):(List.range 3).map (λ(i:Nat)=>(List.range 3).map λ(j:Nat)=>step1 L17 scL (ib 3) (C15 Y ns rw pl od fl (tl4 (.int i) (.int j) (.int t) g)))=(List.range 3).foldr (λi r=>(List.range 3).foldr (λj r=>(if fl.length<=1000000 then some (C15 Y ns rw pl od (JY (.s (sD [rgbC.getD i 0,rgbC.getD j 0])) (.bool (t==1)) fl) (tl4 (.int i) (.int j) (.int t) g),Fl.next)else none)::r) []::r) []:=by
 refine Ev.tt Y ?_ ?_<;>kernel_rfl
theorem i3 (od g:D) (t:Int) {i j:Nat} (hi:i<3) (hj:j<3):step1 L17 scL (ib 3) (C15 Y ns rw pl od fl (tl4 (.int i) (.int j) (.int t) g))=if fl.length<=1000000 then some (C15 Y ns rw pl od (JY (.s (sD [rgbC.getD i 0,rgbC.getD j 0])) (.bool (t==1)) fl) (tl4 (.int i) (.int j) (.int t) g),.next)else none:=JN (JN (Jf9 Y ns rw pl fl od g t) hi) hj
end
theorem J0U {g:Int} (h:g<0):sgB g= -1:=by
 unfold sgB
 rw[decide_eq_false (Int.lt_asymm h),decide_eq_true h];rfl
theorem J0V {g:Int} (h:0<g):sgB g=1:=by
 unfold sgB
 rw[decide_eq_true h,decide_eq_false (Int.lt_asymm h)];rfl
theorem J5x {w x P T:Int} (h:w=1∨w= -1) (l: -P<T) (u:T<P):(if x<0 then-w else if 0<x then w else sgB T)=sgB (w*x*P+T):=by
 have hP:0<P:=by lia
 have key: ∀y:Int,0<y ->P<=y*P:=λy hy=>Int.le_trans (Int.le_of_eq (Int.one_mul P).symm) (Int.mul_le_mul_of_nonneg_right (show 1<=y from hy) (Int.le_of_lt hP))
 rcases Int.lt_trichotomy x 0 with q|q|q
 ·rw[if_pos q]
  have k:=key (-x) (by lia)
  rw[Int.neg_mul]at k
  rcases h with rfl|rfl
  ·rw[Int.one_mul];exact(J0U (by lia)).symm
  ·rw[Int.neg_mul,Int.one_mul,Int.neg_mul];exact(J0V (by lia)).symm
 ·subst q
  rw[if_neg (Int.lt_irrefl 0),if_neg (Int.lt_irrefl 0),Int.mul_zero,Int.zero_mul,Int.zero_add]
 ·rw[if_neg (Int.lt_asymm q),if_pos q]
  have k:=key x q
  rcases h with rfl|rfl
  ·rw[Int.one_mul];exact(J0V (by lia)).symm
  ·rw[Int.neg_mul,Int.one_mul,Int.neg_mul];exact(J0U (by lia)).symm
noncomputable def Bd (M x:Int):Prop:= -M<x/\ x<M
theorem Bd.add {M N x y:Int} (h:Bd M x) (k:Bd N y):Bd (M+N) (x+y):=⟨Int.neg_add▸Int.add_lt_add h.1 k.1,Int.add_lt_add h.2 k.2⟩
theorem Bd.mul {M x c:Int} (h:Bd M x) (hc:0<c):Bd (M*c) (x*c):=⟨by rw[<-Int.neg_mul];exact Int.mul_lt_mul_of_pos_right h.1 hc,Int.mul_lt_mul_of_pos_right h.2 hc⟩
theorem Bd.mono {M N x:Int} (h:Bd M x) (k:M<=N):Bd N x:=⟨Int.lt_of_le_of_lt (Int.neg_le_neg k) h.1,Int.lt_of_lt_of_le h.2 k⟩
theorem Bd.neg {M x:Int} (h:Bd M x):Bd M (-x):=⟨Int.neg_lt_neg h.2,Int.neg_neg M▸Int.neg_lt_neg h.1⟩
theorem Bd.one {w M x:Int} (hw:w=1∨w= -1) (h:Bd M x):Bd M (w*x):=hw.elim (λe=>by rw[e,Int.one_mul];exact h) λe=>by rw[e,Int.neg_mul,Int.one_mul];exact h.neg
theorem J5y {w x P T:Int} (h:w=1∨w= -1) (a: -99<x/\ x<99) (b: -P<T/\ T<P): -(100*P)<w*x*P+T/\ w*x*P+T<100*P:=by
 have hP:0<P:=by lia
 exact(((Bd.one h (M:=99) a).mul hP).add b).mono (show 99*P+P<=100*P by lia)
theorem J4c (f:Int ->Int) (k0 w0 k1 w1 k2 w2:Int) (h0:w0=1∨w0= -1) (h1:w1=1∨w1= -1) (h2:w2=1∨w2= -1) (b1: -99<f k1/\ f k1<99) (b2: -99<f k2/\ f k2<99):
  VL f [(k0,w0),(k1,w1),(k2,w2)]=sgB (0+w0*f k0*10000+w1*f k1*100+w2*f k2*1):=by
 have c2:=J5y h2 b2 (P:=1) (T:=0) (by lia)
 have c1:=J5y h1 b1 (P:=100) c2
 have e2:(if f k2<0 then-w2 else if 0<f k2 then w2 else 0)=_:=J5x (P:=1) (T:=0) h2 (by lia) (by lia)
 rw[show VL f [(k0,w0),(k1,w1),(k2,w2)]=if f k0<0 then-w0 else if 0<f k0 then w0 else if f k1<0 then-w1 else if 0<f k1 then w1 else if f k2<0 then-w2 else if 0<f k2 then w2 else 0 from rfl,e2,J5x (P:=100) h1 c2.1 c2.2,J5x (P:=10000) h0 c1.1 c1.2,Int.add_zero,Int.zero_add,Int.add_assoc]
theorem J54 {f:Int ->Int} {wd:List (Int×Int)} (hw: ∀x∈wd,x.2=1∨x.2= -1) (h:VL f wd=0): ∀x∈wd,f x.1=0:=by
 induction wd with
 |nil=>exact λx hx=>absurd hx List.not_mem_nil
 |cons a r ih=>
  have ha:a.2≠0:=(hw a List.mem_cons_self).elim (λe=>by rw[e];decide) (λe=>by rw[e];decide)
  rw[show VL f (a::r)=if f a.1<0 then-a.2 else if 0<f a.1 then a.2 else VL f r from rfl]at h
  by_cases q1:f a.1<0
  ·rw[if_pos q1]at h;exact absurd (Int.neg_eq_zero.mp h) ha
  ·rw[if_neg q1]at h
   by_cases q2:0<f a.1
   ·rw[if_pos q2]at h;exact absurd h ha
   ·rw[if_neg q2]at h
    exact List.forall_mem_cons.mpr ⟨Int.le_antisymm (Int.not_lt.mp q2) (Int.not_lt.mp q1),ih (λx hx=>hw x (List.mem_cons_of_mem _ hx)) h⟩
theorem J1G {t g:Int} (h:t=sgB g):Good (Jbd t g):=by
 refine⟨_,_,rfl,?_⟩
 show(if(([.int t,.bool false]:List D).length==([.int (sgB g),.bool false]:List D).length)=true then allEq (eqD 5) [.int t,.bool false] [.int (sgB g),.bool false]else some false)=some true
 rw[if_pos (show(([.int t,.bool false]:List D).length==([.int (sgB g),.bool false]:List D).length)=true from rfl)]
 show((some (t==sgB g)).bind λr=>(allEq (eqD 5) [.bool false] [.bool false]).map (r&& ·))=some true
 rw[h,beq_self_eq_true]
 rfl
noncomputable abbrev Three.num (T:Three) (k:Nat):List Nat:=sel k (J0M T.h0 T.s0 T.l0) (J0M T.h1 T.s1 T.l1) (J0M T.h2 T.s2 T.l2)
theorem ZD (hue sh li:Nat):iD (ZY hue sh li)= .lst [.int ((J0M hue sh li).getD 0 0:Nat),.int ((J0M hue sh li).getD 1 0:Nat),.int ((J0M hue sh li).getD 2 0:Nat)]:=by
 show D.lst [.int (if sh=0 then 0 else(hue:Int)),.int (sh:Int),.int ((li+1:Nat):Int)]=D.lst [.int ((if sh=0 then 0 else hue:Nat):Int),.int (sh:Int),.int ((li+1:Nat):Int)]
 by_cases q:sh=0
 ·rw[if_pos q,if_pos q];rfl
 ·rw[if_neg q,if_neg q]
theorem J4h {hue sh li:Nat} (a:hue<64) (b:sh<5) (c:li<4) (k:Nat):(J0M hue sh li).getD k 0<64:=by
 match k with
 |0=>show(if sh=0 then 0 else hue)<64;split<;>lia
 |1=>show sh<64;lia
 |2=>show li+1<64;lia
 |_+3=>show 0<64;lia
theorem J79 {T:Three} (h:T.Ok) {i j k:Nat} (hi:i<3) (hj:j<3) (hk:k<3):Told (sel i (YH T.h0 T.s0 T.l0) (YH T.h1 T.s1 T.l1) (YH T.h2 T.s2 T.l2)) (sel j (YH T.h0 T.s0 T.l0) (YH T.h1 T.s1 T.l1) (YH T.h2 T.s2 T.l2)) (Yv (T.num i) (T.num j)) (k:Int):=by
 have h1:i=0∨i=1∨i=2:=dj3 (by omega)
 have h2:j=0∨j=1∨j=2:=dj3 (by omega)
 have a1:=h.s1.2
 have a2:=h.s2.2
 clear hi;rcases h1 with rfl|rfl|rfl<;>rcases h2 with rfl|rfl|rfl
 ·exact Jm h.h0 h.h0 h.s0 h.s0 h.l0 h.l0 hk
 ·exact Jm h.h0 h.h1 h.s0 a1 h.l0 h.l1 hk
 ·exact Jm h.h0 h.h2 h.s0 a2 h.l0 h.l2 hk
 ·exact Jm h.h1 h.h0 a1 h.s0 h.l1 h.l0 hk
 ·exact Jm h.h1 h.h1 a1 a1 h.l1 h.l1 hk
 ·exact Jm h.h1 h.h2 a1 a2 h.l1 h.l2 hk
 ·exact Jm h.h2 h.h0 a2 h.s0 h.l2 h.l0 hk
 ·exact Jm h.h2 h.h1 a2 a1 h.l2 h.l1 hk
 ·exact Jm h.h2 h.h2 a2 a2 h.l2 h.l2 hk
theorem Jhj {T:Three} (h:T.Ok) {i:Nat} (hi:i<3) (k:Nat):(T.num i).getD k 0<64:=by
 have h1:i=0∨i=1∨i=2:=dj3 (by omega)
 clear hi;rcases h1 with rfl|rfl|rfl
 ·exact J4h h.h0 h.s0 h.l0 k
 ·exact J4h h.h1 h.s1.2 h.l1 k
 ·exact J4h h.h2 h.s2.2 h.l2 k
theorem J3u {T:Three} (h:T.Ok) {i j:Nat} (hi:i<3) (hj:j<3) (k:Int): -99<Yv (T.num i) (T.num j) k/\ Yv (T.num i) (T.num j) k<99:=by
 have a:=Jhj h hi k.toNat
 have b:=Jhj h hj k.toNat
 unfold Yv
 omega
theorem J97 (T:Three) {i:Nat} (hi:i<3):itemD (.lst T.rows) (.int i)=some (sel i (YH T.h0 T.s0 T.l0) (YH T.h1 T.s1 T.l1) (YH T.h2 T.s2 T.l2)):=by
 have h1:i=0∨i=1∨i=2:=dj3 (by lia)
 unfold Three.rows
 generalize YH T.h0 T.s0 T.l0=x
 generalize YH T.h1 T.s1 T.l1=y
 generalize YH T.h2 T.s2 T.l2=z
 clear hi;rcases h1 with rfl|rfl|rfl<;>rfl
theorem J5p (T:Three) {i k:Nat} (hi:i<3) (hk:k<3):((itemD (.lst T.plain) (.int i)).bind λa=>itemD a (.int k))=some (.int (((T.num i).getD k 0:Nat):Int)):=by
 have h1:i=0∨i=1∨i=2:=dj3 (by lia)
 have h2:k=0∨k=1∨k=2:=dj3 (by lia)
 unfold Three.plain Three.num
 rw[ZD,ZD,ZD]
 clear hi;rcases h1 with rfl|rfl|rfl<;>rcases h2 with rfl|rfl|rfl<;>rfl
theorem YZ {a b:Int} (h:a.natAbs<2^64):binD .Mult (.int a) (.int b)=some (.int (a*b)):=by
 show(if J4e a b=true then some (D.int (a*b))else none)=_
 rw[if_pos (by unfold J4e small;rw[decide_eq_true h];rfl)]
theorem J6w {a b:Int} (h:b.natAbs<2^64):binD .Mult (.int a) (.int b)=some (.int (a*b)):=by
 show(if J4e a b=true then some (D.int (a*b))else none)=_
 rw[if_pos (by unfold J4e small;rw[decide_eq_true h,Bool.or_true])]
theorem J7V {T:Three} {i j k:Nat} (hi:i<3) (hj:j<3) (hk:k<3) {w wt:Int} (hw:w=1∨w= -1) (hwt:wt.natAbs<2^64):
  clF L15 JgH [(nm "one",.val (.int i)),(nm "plain",.val (.lst T.plain)),(nm "two",.val (.int j))] (.tup [pairI ((k:Int),w),.int wt])=some [.int (w*Yv (T.num i) (T.num j) k*wt)]:=by
 simp only[show pairI ((k:Int),w)= .tup [.int k,.int w]from rfl,JeO,J5p T hi hk,J5p T hj hk]
 show((((some (D.int ((((T.num i).getD k 0:Nat):Int)-(((T.num j).getD k 0:Nat):Int)))).bind λz=>binD .Mult (.int w) z).bind λu=>binD .Mult u (.int wt)).map λd=>[d])=_
 simp only[Option.bind_some]
 rw[YZ (by rcases hw with rfl|rfl<;>decide)]
 simp only[Option.bind_some]
 rw[J6w hwt]
 rfl
theorem Bd.fit {x:Int} (h:Bd (2^50) x):J4M x=true:=by
 unfold J4M
 rw[decide_eq_true (Int.le_of_lt (Int.lt_trans (by decide) h.1)),decide_eq_true (Int.lt_trans h.2 (by decide))];rfl
theorem J4w {M N acc x:Int} {r:List D} (h:Bd M acc) (k:Bd N x) (h1:M+N<=2^50) (h2:N<=2^50):J5A acc (.int x::r)=J5A (acc+x) r:=by
 show(if(J4M x&&J4M (acc+x))=true then J5A (acc+x) r else none)=_
 rw[(k.mono h2).fit,((h.add k).mono h1).fit];rfl
theorem Jj6 {a b c:Int} (ha:Bd (2^40) a) (hb:Bd (2^40) b) (hc:Bd (2^40) c):J4 (nm "sum") [.lst [.int a,.int b,.int c]]=some (.int (0+a+b+c)):=by
 have e:J4 (nm "sum") [.lst [.int a,.int b,.int c]]=(J5A 0 [.int a,.int b,.int c]).map .int:=by kernel_rfl
 have z:Bd 1 0:=⟨by decide,by decide⟩
 rw[e,J4w z ha (by decide) (by decide),J4w (z.add ha) hb (by decide) (by decide),J4w ((z.add ha).add hb) hc (by decide) (by decide)]
 rfl
noncomputable abbrev J3t (k0 k1 k2:Nat) (w0 w1 w2:Int):List (Int×Int):=[((k0:Int),w0),((k1:Int),w1),((k2:Int),w2)]
theorem ZA (Y:Ev) {T:Three} (h:T.Ok) {ns:List D} {N:Nat} (hN:Nts N ns) (fl:List (Key×D)) {k0 k1 k2:Nat} {w0 w1 w2:Int} (q0:k0<3) (q1:k1<3) (q2:k2<3) (v0:w0=1∨w0= -1) (v1:w1=1∨w1= -1) (v2:w2=1∨w2= -1)
  {i j:Nat} (hi:i<3) (hj:j<3) (x:Option (D×D)) (n1:N<=1000) (n2:fl.length<=1000) {G:Prop} (f: ∀ns' (t g:D),Nts (N+1) ns' ->
   exSs theTop L17 scL (forB inF) (C15 Y ns (.lst T.rows) (.lst T.plain) (.lst ((J3t k0 k1 k2 w0 w1 w2).map pairI)) fl (tl2 (.int i) (.int j) x))=
    some (C15 Y ns' (.lst T.rows) (.lst T.plain) (.lst ((J3t k0 k1 k2 w0 w1 w2).map pairI)) (JY (.s (sD [rgbC.getD i 0,rgbC.getD j 0])) (.bool (VL (Yv (T.num i) (T.num j)) (J3t k0 k1 k2 w0 w1 w2)==1)) fl) (tl4 (.int i) (.int j) t g),.next) ->G):G:=by
 have g0:=J3u h hi hj k0
 have g1:=J3u h hi hj k1
 have g2:=J3u h hi hj k2
 have hc:=KP 11 (sel i (YH T.h0 T.s0 T.l0) (YH T.h1 T.s1 T.l1) (YH T.h2 T.s2 T.l2)) (sel j (YH T.h0 T.s0 T.l0) (YH T.h1 T.s1 T.l1) (YH T.h2 T.s2 T.l2)) (Yv (T.num i) (T.num j)) (J3t k0 k1 k2 w0 w1 w2) (fa3 (J79 h hi hj q0) (J79 h hi hj q1) (J79 h hi hj q2) λ_ h=>absurd h List.not_mem_nil)
 have bd: ∀{w x c:Int},(w=1∨w= -1) ->(-99<x/\ x<99) ->0<c ->99*c<=2^40 ->Bd (2^40) (w*x*c):=λhw hx hc h=>((Bd.one hw (M:=99) hx).mul hc).mono h
 exact f _ _ _ (hN.add (J1G (J4c (Yv (T.num i) (T.num j)) k0 w0 k1 w1 k2 w2 v0 v1 v2 g1 g2))) (Jgk▸J0 ((i0 ..).trans (bdE (bdE (bdE (J97 T hi) (bdE (bdE (J97 T hj) rfl) rfl)) hc) rfl))
  (J0 ((i1 ..).trans (bdE (bdE (bdE (mpE (bdE (gC (J7V hi hj q0 v0 (by decide)) (gC (J7V hi hj q1 v1 (by decide)) (gC (J7V hi hj q2 v2 (by decide)) rfl))) rfl) rfl) rfl) (Jj6 (bd v0 g0 (by decide) (by decide)) (bd v1 g1 (by decide) (by decide)) (bd v2 g2 (by decide) (by decide)))) rfl))
  (J0 ((i2 ..).trans (ifE (hN.to (Nat.le_trans n1 (by decide))) rfl)) (J0 ((i3 Y _ _ _ _ _ _ _ hi hj).trans (ifE (Nat.le_trans n2 (by decide)) rfl)) rfl))))
theorem J60 {k:Key} {v:D} {l:List (Key×D)} {n:Nat} (h:l.length<=n):(JY k v l).length<=n+1:=by
 refine Nat.le_trans ?_ (Nat.succ_le_succ h)
 clear h
 induction l with
 |nil=>exact Nat.le_refl _
 |cons x r ih=>
  show(if x.1=k then(x.1,v)::r else x::JY k v r).length<=_
  by_cases h:x.1=k
  ·rw[if_pos h];exact Nat.le_succ _
  ·rw[if_neg h];exact Nat.succ_le_succ ih
noncomputable abbrev kF (i j:Nat):Key:= .s (sD [rgbC.getD i 0,rgbC.getD j 0])
noncomputable def Y0 (f:Nat ->Nat ->Bool) (i:Nat) (fl:List (Key×D)):List (Key×D):=JY (kF i 2) (.bool (f i 2)) (JY (kF i 1) (.bool (f i 1)) (JY (kF i 0) (.bool (f i 0)) fl))
noncomputable def J4y (T:Three) (o:List (Int×Int)) (i j:Nat):Bool:=VL (Yv (T.num i) (T.num j)) o==1
section
variable (Y:Ev) {T:Three} (h:T.Ok) {k0 k1 k2:Nat} {w0 w1 w2:Int} (q0:k0<3) (q1:k1<3) (q2:k2<3) (v0:w0=1∨w0= -1) (v1:w1=1∨w1= -1) (v2:w2=1∨w2= -1)
include h q0 q1 q2 v0 v1 v2
theorem Zz {ns:List D} {N:Nat} (hN:Nts N ns) (fl:List (Key×D)) {i:Nat} (hi:i<3) (x:Option (D×D×D)) (n1:N<=900) (n2:fl.length<=900) {G:Prop} (f: ∀ns' (w t g:D),Nts (N+3) ns' ->
  exSs theTop L18 scL (forB (lst 16)) (C15 Y ns (.lst T.rows) (.lst T.plain) (.lst ((J3t k0 k1 k2 w0 w1 w2).map pairI)) fl (tl1 (.int i) x))=
   some (C15 Y ns' (.lst T.rows) (.lst T.plain) (.lst ((J3t k0 k1 k2 w0 w1 w2).map pairI)) (Y0 (J4y T (J3t k0 k1 k2 w0 w1 w2)) i fl) (tl4 (.int i) w t g),.next) ->G):G:=
 ZA Y h hN fl q0 q1 q2 v0 v1 v2 hi (j:=0) (by decide) (x.map (·.2)) (Nat.le_trans n1 (by decide)) (Nat.le_trans n2 (by decide)) λ_ ta ga Ga ra=>
  ZA Y h Ga _ q0 q1 q2 v0 v1 v2 hi (j:=1) (by decide) (some (ta,ga)) (Nat.le_trans (Nat.succ_le_succ n1) (by decide)) (Nat.le_trans (J60 n2) (by decide)) λ_ tb gb Gb rb=>
  ZA Y h Gb _ q0 q1 q2 v0 v1 v2 hi (j:=2) (by decide) (some (tb,gb)) (Nat.le_trans (Nat.add_le_add_right n1 2) (by decide)) (Nat.le_trans (J60 (J60 n2)) (by decide)) λ_ tc gc Gc rc=>
  f _ (.int (2:Nat)) tc gc Gc (JhZ▸J0 ((in0 ..).trans (J2 ((Jil ..).trans ra) (J2 ((Jhz ..).trans rb) (J2 ((Jhz ..).trans rc) rfl)))) rfl)
omit h q0 q1 q2 v0 v1 v2 in
theorem Jh1 {f:Nat ->Nat ->Bool} {i n:Nat} {fl:List (Key×D)} (h:fl.length<=n):(Y0 f i fl).length<=n+3:=J60 (J60 (J60 h))
theorem J7Q {ns:List D} {N:Nat} (hN:Nts N ns) (n1:N<=800) {G:Prop} (f: ∀ns' (o w t g:D),Nts (N+9) ns' ->
  step1 L19 scL (lst 16) (C15 Y ns (.lst T.rows) (.lst T.plain) (.lst ((J3t k0 k1 k2 w0 w1 w2).map pairI)) [] [])=
   some (C15 Y ns' (.lst T.rows) (.lst T.plain) (.lst ((J3t k0 k1 k2 w0 w1 w2).map pairI)) (Y0 (J4y T (J3t k0 k1 k2 w0 w1 w2)) 2 (Y0 (J4y T (J3t k0 k1 k2 w0 w1 w2)) 1 (Y0 (J4y T (J3t k0 k1 k2 w0 w1 w2)) 0 []))) (tl4 o w t g),.next) ->G):G:=
 Zz Y h q0 q1 q2 v0 v1 v2 hN [] (i:=0) (by decide) none (Nat.le_trans n1 (by decide)) (Nat.zero_le _) λ_ u0 t0 g0 A0 r0=>
  Zz Y h q0 q1 q2 v0 v1 v2 A0 _ (i:=1) (by decide) (some (u0,t0,g0)) (Nat.le_trans (Nat.add_le_add_right n1 3) (by decide)) (Nat.le_trans (Jh1 (fl:=[]) (n:=0) (Nat.le_refl 0)) (by decide)) λ_ u1 t1 g1 A1 r1=>
  Zz Y h q0 q1 q2 v0 v1 v2 A1 _ (i:=2) (by decide) (some (u1,t1,g1)) (Nat.le_trans (Nat.add_le_add_right n1 6) (by decide)) (Nat.le_trans (Jh1 (Jh1 (fl:=[]) (n:=0) (Nat.le_refl 0))) (by decide)) λ_ u2 t2 g2 A2 r2=>
  f _ (.int (2:Nat)) u2 t2 g2 A2 ((JiJ ..).trans (J2 ((Jh8 ..).trans r0) (J2 ((JfQ ..).trans r1) (J2 ((JfQ ..).trans r2) rfl))))
end
theorem JdT {T:Three} (h:T.Ok) {i j:Nat} (hi:i<3) (hj:j<3) (hij:i≠j): ¬(((T.num i).getD 0 0)=(T.num j).getD 0 0/\ (T.num i).getD 1 0=(T.num j).getD 1 0):=by
 have n: ∀{s t h k:Nat},0<t ->h≠k ->(if s=0 then 0 else h)=(if t=0 then 0 else k) ->s≠t:=λht d x y=>by
  rw[y,if_neg (Nat.ne_of_gt ht),if_neg (Nat.ne_of_gt ht)]at x;exact d x
 rcases dj3 hi with e|e|e<;>rcases dj3 hj with k|k|k<;>rw[e,k]<;>first|exact absurd (e.trans k.symm) hij|exact λq=>n h.s1.1 h.h01 q.1 q.2|exact λq=>n h.s2.1 h.h02 q.1 q.2|exact λq=>n h.s2.1 h.h12 q.1 q.2|exact λq=>n h.s1.1 h.h01 q.1.symm q.2.symm|exact λq=>n h.s2.1 h.h02 q.1.symm q.2.symm|exact λq=>n h.s2.1 h.h12 q.1.symm q.2.symm
noncomputable def JG (T:Three) (k0 k1 k2:Nat) (w0 w1 w2:Int) (i:Nat):Int:=w0*((T.num i).getD k0 0:Nat)*10000+w1*((T.num i).getD k1 0:Nat)*100+w2*((T.num i).getD k2 0:Nat)
theorem Jj5 {a b c x y z:Int}:0+(a-x)+(b-y)+(c-z)=a+b+c-(x+y+z):=by lia
theorem J2S {T:Three} {k0 k1 k2:Nat} {w0 w1 w2:Int} (i j:Nat):0+w0*Yv (T.num i) (T.num j) k0*10000+w1*Yv (T.num i) (T.num j) k1*100+w2*Yv (T.num i) (T.num j) k2*1=JG T k0 k1 k2 w0 w1 w2 i-JG T k0 k1 k2 w0 w1 w2 j:=by
 have e: ∀(w c:Int) (k:Nat),w*Yv (T.num i) (T.num j) k*c=w*((T.num i).getD k 0:Nat)*c-w*((T.num j).getD k 0:Nat)*c:=λw c k=>by
  unfold Yv;rw[Int.toNat_natCast,Int.mul_sub,Int.sub_mul]
 unfold JG
 rw[e,e,e,Int.mul_one,Int.mul_one]
 exact Jj5
section
variable {T:Three} (h:T.Ok) {k0 k1 k2:Nat} {w0 w1 w2:Int} (hk:[k0,k1,k2]∈[[0,1,2],[0,2,1],[1,0,2],[1,2,0],[2,0,1],[2,1,0]]) (v0:w0=1∨w0= -1) (v1:w1=1∨w1= -1) (v2:w2=1∨w2= -1)
include h v0 v1 v2
theorem J6U {i j:Nat} (hi:i<3) (hj:j<3):J4y T (J3t k0 k1 k2 w0 w1 w2) i j=decide (JG T k0 k1 k2 w0 w1 w2 j<JG T k0 k1 k2 w0 w1 w2 i):=by
 have hl:=J4c (Yv (T.num i) (T.num j)) k0 w0 k1 w1 k2 w2 v0 v1 v2 (J3u h hi hj k1) (J3u h hi hj k2)
 unfold J4y
 rw[hl,J2S i j]
 rcases Int.lt_trichotomy (JG T k0 k1 k2 w0 w1 w2 i-JG T k0 k1 k2 w0 w1 w2 j) 0 with q|q|q
 ·rw[J0U q,decide_eq_false (by lia)];rfl
 ·rw[q,decide_eq_false (by lia)];rfl
 ·rw[J0V q,decide_eq_true (by lia)];rfl
include hk
theorem J0P {i j:Nat} (hi:i<3) (hj:j<3) (hij:i≠j):JG T k0 k1 k2 w0 w1 w2 i≠JG T k0 k1 k2 w0 w1 w2 j:=by
 intro e
 have hl:=J4c (Yv (T.num i) (T.num j)) k0 w0 k1 w1 k2 w2 v0 v1 v2 (J3u h hi hj k1) (J3u h hi hj k2)
 rw[J2S i j,e,Int.sub_self]at hl
 have z:=J54 (fa3 v0 v1 v2 λ_ h=>absurd h List.not_mem_nil) hl
 have g: ∀k:Nat,k=k0∨k=k1∨k=k2 ->(T.num i).getD k 0=(T.num j).getD k 0:=λk hk=>by
  have:Yv (T.num i) (T.num j) k=0:=by
   clear e hl;rcases hk with rfl|rfl|rfl
   ·exact z _ List.mem_cons_self
   ·exact z _ (List.mem_cons_of_mem _ List.mem_cons_self)
   ·exact z _ (List.mem_cons_of_mem _ (List.mem_cons_of_mem _ List.mem_cons_self))
  unfold Yv at this
  rw[Int.toNat_natCast]at this
  omega
 refine JdT h hi hj hij ?_
 have s: ∀l∈[[0,1,2],[0,2,1],[1,0,2],[1,2,0],[2,0,1],[2,1,0]],∀k<2,k=l.getD 0 9∨k=l.getD 1 9∨k=l.getD 2 9:=by decide
 exact⟨g 0 (s _ hk 0 (by decide)),g 1 (s _ hk 1 (by decide))⟩
noncomputable abbrev sixR:List (List Nat):=[[0,1,2],[0,2,1],[1,0,2],[1,2,0],[2,0,1],[2,1,0]]
omit h hk v0 v1 v2 in
theorem Je9: ∀x y z:Bool,(x&&y&&!z)=false ->(!x&&!y&&z)=false -> ∃rk∈sixR,∀i<3,∀j<3,(([[false,!x,!z],[x,false,!y],[z,y,false]]:List (List Bool)).getD i []).getD j false=decide (rk.getD j 0<rk.getD i 0):=by decide+kernel
omit h hk v0 v1 v2 in
theorem nlt {a b:Int} (ne:a≠b):decide (b<a)=!decide (a<b):=by
 by_cases q:a<b
 ·rw[decide_eq_true q,decide_eq_false (Int.lt_asymm q)];rfl
 ·rw[decide_eq_false q,decide_eq_true (Int.lt_iff_le_and_ne.mpr ⟨Int.not_lt.mp q,ne.symm⟩)];rfl
omit h hk v0 v1 v2 in
theorem J9r {p:Nat ->Int} (a:p 0≠p 1) (b:p 0≠p 2) (c:p 1≠p 2) {i j:Nat} (hi:i<3) (hj:j<3):decide (p j<p i)=(([[false,!decide (p 0<p 1),!decide (p 0<p 2)],[decide (p 0<p 1),false,!decide (p 1<p 2)],[decide (p 0<p 2),decide (p 1<p 2),false]]:List (List Bool)).getD i []).getD j false:=by
 rcases dj3 hi with e|e|e<;>rcases dj3 hj with k|k|k<;>rw[e,k]<;>first|rfl|exact decide_eq_false (Int.lt_irrefl _)|exact nlt a|exact nlt b|exact nlt c
theorem JfN {G:Prop} (f: ∀rk∈sixR,(∀i j:Nat,i<3 ->j<3 ->J4y T (J3t k0 k1 k2 w0 w1 w2) i j=decide (rk.getD j 0<rk.getD i 0)) ->G):G:=by
 have n01:=J0P h hk v0 v1 v2 (i:=0) (j:=1) (by decide) (by decide) (by decide)
 have n02:=J0P h hk v0 v1 v2 (i:=0) (j:=2) (by decide) (by decide) (by decide)
 have n12:=J0P h hk v0 v1 v2 (i:=1) (j:=2) (by decide) (by decide) (by decide)
 refine o11 (Je9 (decide (JG T k0 k1 k2 w0 w1 w2 0<JG T k0 k1 k2 w0 w1 w2 1)) (decide (JG T k0 k1 k2 w0 w1 w2 1<JG T k0 k1 k2 w0 w1 w2 2)) (decide (JG T k0 k1 k2 w0 w1 w2 0<JG T k0 k1 k2 w0 w1 w2 2)) ?_ ?_) λrk hr e=>f rk hr λi j hi hj=>(J6U h v0 v1 v2 hi hj).trans ((J9r n01 n02 n12 hi hj).trans (e i hi j hj))
 ·exact Bool.eq_false_iff.mpr λh=>o01 (Bool.and_eq_true_iff.mp h) λh1 h3=>o01 (Bool.and_eq_true_iff.mp h1) λx y=>by
   rw[decide_eq_true (Int.lt_trans (of_decide_eq_true x) (of_decide_eq_true y))]at h3;exact Bool.noConfusion h3
 ·exact Bool.eq_false_iff.mpr λh=>o01 (Bool.and_eq_true_iff.mp h) λh1 h3=>o01 (Bool.and_eq_true_iff.mp h1) λx y=>
   Int.not_lt.mpr (Int.le_trans (Int.not_lt.mp (of_decide_eq_false (Bool.not_eq_true' _▸y))) (Int.not_lt.mp (of_decide_eq_false (Bool.not_eq_true' _▸x)))) (of_decide_eq_true h3)
end
noncomputable def JM (rk:List Nat):List (Key×D):=Y0 (λi j=>decide (rk.getD j 0<rk.getD i 0)) 2 (Y0 (λi j=>decide (rk.getD j 0<rk.getD i 0)) 1 (Y0 (λi j=>decide (rk.getD j 0<rk.getD i 0)) 0 []))
theorem Jda {f:Nat ->Nat ->Bool} {rk:List Nat} (h: ∀i j:Nat,i<3 ->j<3 ->f i j=decide (rk.getD j 0<rk.getD i 0)):Y0 f 2 (Y0 f 1 (Y0 f 0 []))=JM rk:=by
 unfold JM Y0
 simp only[h 0 0 (by lia) (by lia),h 0 1 (by lia) (by lia),h 0 2 (by lia) (by lia),h 1 0 (by lia) (by lia),h 1 1 (by lia) (by lia),h 1 2 (by lia) (by lia),h 2 0 (by lia) (by lia),h 2 1 (by lia) (by lia),h 2 2 (by lia) (by lia)]
noncomputable def J0Q (rk:List Nat):List (Key×D):=[(.s (sD [114]),.int (rk.getD 0 0:Nat)),(.s (sD [103]),.int (rk.getD 1 0:Nat)),(.s (sD [98]),.int (rk.getD 2 0:Nat))]
noncomputable def KD (rk:List Nat):Nat:=if rk.getD 0 0==2 then 114 else if rk.getD 1 0==2 then 103 else 98
section
variable (Y:Ev) (ns:List D) (rw pl od:D) {rk:List Nat} (hr:rk∈sixR)
include hr
theorem JiK (o w' t' g:D):step1 L19 scL (lst 17) (C15 Y ns rw pl od (JM rk) (tl4 o w' t' g))=some (B0 Y.X++(nm "many",.val Y.m)::(nm "pool",.mls [])::(nm "word",.val Y.w)::(nm "draw",.val Y.dr)::(nm "size",.val Y.sz)::(nm "typed",.val Y.ty)::(nm "gone",.val Y.go)::(nm "text",.val Y.tx)::(nm "notes",.mls ns)::(nm "counts",.val Y.ct)::(nm "rows",.val rw)::(nm "plain",.val pl)::(nm "order",.val od)::(nm "chooser",.val (.obj od))::(nm "fall",.val (.dct (JM rk)))::tl4 o w' t' g++[(nm "rank",.val (.dct (J0Q rk)))],.next):=by
 obtain⟨⟨t,v,q,n,a,b,c,d,e⟩,m,w,dr,sz,ty,go,tx,ct⟩:=Y
 simp only[sixR,List.mem_cons,List.not_mem_nil,or_false]at hr
 rcases hr with rfl|rfl|rfl|rfl|rfl|rfl<;>cases t<;>kernel_rfl
end
structure Gv where
 Y:Ev
 rw:D
 pl:D
 od:D
 o:D
 w:D
 t:D
 g:D
 rk:List Nat
@[elab_as_elim] theorem Gv.tt {P:Gv ->Prop} (G:Gv) (h:P {G with Y:={G.Y with X:={G.Y.X with t:=false}}}) (h':P {G with Y:={G.Y with X:={G.Y.X with t:=true}}}):P G:=Cl.tt (P:=λX=>P {G with Y:={G.Y with X:=X}}) G.Y.X h h'
noncomputable abbrev C17 (G:Gv) (ns:List D) (sz:D) (z:Rho):Rho:=B0 G.Y.X++(nm "many",.val G.Y.m)::(nm "pool",.mls [])::(nm "word",.val G.Y.w)::(nm "draw",.val G.Y.dr)::(nm "size",.val sz)::(nm "typed",.val G.Y.ty)::(nm "gone",.val G.Y.go)::(nm "text",.val G.Y.tx)::(nm "notes",.mls ns)::(nm "counts",.val G.Y.ct)::(nm "rows",.val G.rw)::(nm "plain",.val G.pl)::(nm "order",.val G.od)::(nm "chooser",.val (.obj G.od))::(nm "fall",.val (.dct (JM G.rk)))::(nm "one",.val G.o)::(nm "two",.val G.w)::(nm "told",.val G.t)::(nm "gap",.val G.g)::(nm "rank",.val (.dct (J0Q G.rk)))::z
section
variable (G:Gv) (ns:List D) (sz:D)
theorem JiL (hr:G.rk∈sixR):step1 L19 scL (lst 18) (C17 G ns sz [])=some (C17 G ns sz [(nm "top",.val (lD (KD G.rk)))],.next):=by
 obtain⟨⟨⟨t,v,q,n,a,b,c,d,e⟩,m,w,dr,sz',ty,go,tx,ct⟩,rw,pl,od,o,w',t',g,rk⟩:=G
 simp only[sixR,List.mem_cons,List.not_mem_nil,or_false]at hr
 rcases hr with rfl|rfl|rfl|rfl|rfl|rfl<;>cases t<;>kernel_rfl
theorem JiM (n:Int) (tp:D):step1 L19 scL (lst 19) (C17 G ns (.int n) [(nm "top",.val tp)])=((binD .Mult (.int ((G.Y.X.d.fdiv 384).fmod 2)) (.int (n-2))).bind λx=>binD .Add (.int 1) x).bind λd=>some (C17 G ns (.int n) [(nm "top",.val tp),(nm "step",.val d)],.next):=by
 refine Gv.tt G ?_ ?_<;>kernel_rfl
theorem JiQ {n:Nat} (hn:n=5∨n=6) (tp s:D):step1 L19 scL (lst 20) (C17 G ns (.int n) [(nm "top",.val tp),(nm "step",.val s)])=(((J6 (clF L18 (JU (lst 20)) [(nm "cells",.val (.lst G.Y.X.cs)),(nm "size",.val (.int n)),(nm "step",.val s)]) ((List.range n).map λ(k:Nat)=> .int k)).bind YK).map .lst).bind λd=>some (C17 G ns (.int n) [(nm "top",.val tp),(nm "step",.val s),(nm "wide",.val d)],.next):=by
 rcases hn with rfl|rfl<;>refine Gv.tt G ?_ ?_<;>kernel_rfl
noncomputable def Jex (d s:Int) (n k:Nat):Int:=(d+(k:Int)*s).fmod n
noncomputable def J73 (d:Int) (k:Nat):Int:=1-2*(((d.fdiv 6).fdiv ((2:Int)^k)).fmod 2)
theorem Ji5 (X:Cl) {n k:Nat} (hn:n=5∨n=6) (hk:k<n) (s:Int):clF L18 (JU (lst 20)) [(nm "cells",.val (.lst X.cs)),(nm "size",.val (.int n)),(nm "step",.val (.int s))] (.int k)=some [pairI (Jex X.d s n k,J73 X.d k)]:=by
 obtain⟨t,v,q,nn,a,b,c,d,e⟩:=X
 have h:k=0∨k=1∨k=2∨k=3∨k=4∨k=5:=dj6 (by lia)
 rcases hn with rfl|rfl<;>rcases h with rfl|rfl|rfl|rfl|rfl|rfl<;>first|(exfalso;lia)|kernel_rfl
end
noncomputable def wideL (d s:Int) (n:Nat):List (Int×Int):=(List.range n).map λk=>(Jex d s n k,J73 d k)
theorem J9J (G:Gv) (ns:List D) {n:Nat} (hn:n=5∨n=6) (tp:D) (s:Int):step1 L19 scL (lst 20) (C17 G ns (.int n) [(nm "top",.val tp),(nm "step",.val (.int s))])=some (C17 G ns (.int n) [(nm "top",.val tp),(nm "step",.val (.int s)),(nm "wide",.val (.lst ((wideL G.Y.X.d s n).map pairI)))],.next):=by
 rw[JiQ G ns hn]
 have e:J6 (clF L18 (JU (lst 20)) [(nm "cells",.val (.lst G.Y.X.cs)),(nm "size",.val (.int n)),(nm "step",.val (.int s))]) ((List.range n).map λ(k:Nat)=> .int k)=some ((wideL G.Y.X.d s n).map pairI):=by
  have g:=J69 (f:=clF L18 (JU (lst 20)) [(nm "cells",.val (.lst G.Y.X.cs)),(nm "size",.val (.int n)),(nm "step",.val (.int s))]) (g:=λd=>match d with| .int k=>[pairI (Jex G.Y.X.d s n k.toNat,J73 G.Y.X.d k.toNat)]|_=>[]) (l:=(List.range n).map λ(k:Nat)=> .int k) (λd hd=>by
   refine o11 (List.mem_map.mp hd) λk hk q1=>?_;clear hd;subst q1
   exact Ji5 G.Y.X hn (List.mem_range.mp hk) s)
  rw[g]
  unfold wideL
  rw[List.flatMap_map,List.map_map]
  congr 1
  induction (List.range n)with
  |nil=>rfl
  |cons a l ih=>rw[List.flatMap_cons,ih];rfl
 rw[e]
 simp only[Option.bind_some]
 unfold YK
 rw[if_pos (by unfold wideL;rw[List.length_map,List.length_map,List.length_range];lia)]
 rfl
noncomputable abbrev C20 (G:Gv) (ns:List D) (n:Nat) (tp st:D) (wd:List (Int×Int)) (z:Rho):Rho:=C17 G ns (.int n) ((nm "top",.val tp)::(nm "step",.val st)::(nm "wide",.val (.lst (wd.map pairI)))::z)
noncomputable def wtI (n place:Nat) (way:Int):Int:=way*(5:Int)^(n-place)
theorem Ji6 {n p:Nat} (hn:n=5∨n=6) (hp:p<n) (k:Int) {way:Int} (hw:way=1∨way= -1):clF L18 (JU (lst 21)) [(nm "size",.val (.int n))] (.tup [.int p,pairI (k,way)])=some [pairI (k,wtI n p way)]:=by
 have h:p=0∨p=1∨p=2∨p=3∨p=4∨p=5:=dj6 (by lia)
 rcases hw with rfl|rfl<;>rcases hn with rfl|rfl<;>rcases h with rfl|rfl|rfl|rfl|rfl|rfl<;>first|(exfalso;lia)|kernel_rfl
theorem JiR (G:Gv) (ns:List D) (n:Nat) (tp st:D) (wd:List (Int×Int)):step1 L19 scL (lst 21) (C20 G ns n tp st wd [])=((((J6 (clF L18 (JU (lst 21)) [(nm "size",.val (.int n))]) (enumD 0 (wd.map pairI))).bind YK).map .lst)).bind λd=>some (C20 G ns n tp st wd [(nm "weights",.val d)],.next):=by
 refine Gv.tt G ?_ ?_<;>kernel_rfl
theorem Jc2 {a c:Nat} (r:List Nat) (q:a≠c):((a::r).take [c].length==[c])=false:=by simp[q]
theorem Jc1 (c:Nat) (r:List Nat):((c::r).take [c].length==[c])=true:=by simp
theorem Zc (s:List Nat) (c:Nat): ∀(k i n free:Nat),i+k=s.length+1 ->n<=i ->free<=i ->(J3s s [c] s.length (s.length+1) (List.range' i k) n free).length=(s.drop i).count c
 |0,i,n,free,h,_,_=>by rw[List.range'_zero,J3s,List.drop_eq_nil_of_le (by lia)];rfl
 |k+1,i,n,free,h,hn,hf=>by
  rw[List.range'_succ,J3s]
  by_cases hi:i<s.length
  ·have hd:s.drop i=s[i]::s.drop (i+1):=List.drop_eq_getElem_cons hi
   rw[Nat.ble_eq_true_of_le hf,show Nat.blt n (s.length+1)=true from Nat.ble_eq_true_of_le (by lia),Nat.ble_eq_true_of_le (show i+[c].length<=s.length from hi),hd]
   by_cases q:s[i]=c
   ·have e:((s[i]::s.drop (i+1)).take [c].length==[c])=true:=by rw[q];exact Jc1 _ _
    rw[e]
    show(i::J3s s [c] s.length (s.length+1) (List.range' (i+1) k) (n+1) (i+1)).length=_
    rw[List.length_cons,Zc s c k (i+1) (n+1) (i+1) (by lia) (by lia) (by lia),q,List.count_cons_self]
   ·have e:((s[i]::s.drop (i+1)).take [c].length==[c])=false:=Jc2 _ q
    rw[e]
    show(J3s s [c] s.length (s.length+1) (List.range' (i+1) k) n free).length=_
    rw[Zc s c k (i+1) n free (by lia) (by lia) (by lia),List.count_cons_of_ne (by simpa using q)]
  ·have hb:Nat.ble (i+[c].length) s.length=false:=by
    rw[Bool.eq_false_iff];intro q
    have:i+1<=s.length:=Nat.le_of_ble_eq_true q
    lia
   rw[hb,Bool.and_false,Bool.false_and]
   show(J3s s [c] s.length (s.length+1) (List.range' (i+1) k) n free).length=_
   rw[Zc s c k (i+1) n free (by lia) (by lia) (by lia),List.drop_eq_nil_of_le (by lia),List.drop_eq_nil_of_le (by lia)]
theorem J1i (s:List Nat) (c:Nat):ZO (sD s) [lD c]=some (.int ((s.count c:Nat):Int)):=by
 rw[Jd0,show(JfC s [c]).length=s.count c from Zc s c (s.length+1) 0 0 0 (by lia) (by lia) (by lia)]
noncomputable def weightL (n:Nat):Nat ->List (Int×Int) ->List (Int×Int)
 |_,[]=>[]
 |p,(k,w)::r=>(k,wtI n p w)::weightL n (p+1) r
theorem J9F {n:Nat} (hn:n=5∨n=6): ∀(wd:List (Int×Int)) (p:Nat),p+wd.length<=n ->(∀x∈wd,x.2=1∨x.2= -1) ->J6 (clF L18 (JU (lst 21)) [(nm "size",.val (.int n))]) (enumD p (wd.map pairI))=some ((weightL n p wd).map pairI):=by
 intro wd
 induction wd with
 |nil=>exact λ_ _ _=>rfl
 |cons a r ih=>
  intro p h hw
  rw[List.length_cons]at h
  exact gC (Ji6 hn (by lia) a.1 (hw a List.mem_cons_self)) (ih (p+1) (by lia) λx hx=>hw x (List.mem_cons_of_mem _ hx))
theorem J9I (d:Int) (k:Nat):J73 d k=1∨J73 d k= -1:=by
 unfold J73
 refine Jx ((d.fdiv 6).fdiv ((2:Int)^k)) 2 (by lia) λz hz e=>?_
 rw[show((d.fdiv 6).fdiv ((2:Int)^k)).fmod 2=(z:Int)from e]
 lia
theorem J9G (d s:Int) (n:Nat):(wideL d s n).length=n:=by unfold wideL;rw[List.length_map,List.length_range]
theorem J9H (d s:Int) (n:Nat): ∀x∈wideL d s n,x.2=1∨x.2= -1:=λx hx=>by
 refine o11 (List.mem_map.mp hx) λk _ q1=>?_;clear hx;subst q1
 exact J9I d k
theorem Ki (n p:Nat) (wd:List (Int×Int)):(weightL n p wd).length=wd.length:=by
 induction wd generalizing p with
 |nil=>rfl
 |cons a r ih=>exact congrArg (· +1) (ih (p+1))
theorem J3o (G:Gv) (ns:List D) {n:Nat} (hn:n=5∨n=6) (tp st:D) (wd:List (Int×Int)) (hl:wd.length=n) (hw: ∀x∈wd,x.2=1∨x.2= -1):step1 L19 scL (lst 21) (C20 G ns n tp st wd [])=some (C20 G ns n tp st wd [(nm "weights",.val (.lst ((weightL n 0 wd).map pairI)))],.next):=by
 rw[JiR,J9F hn wd 0 (by lia) hw]
 simp only[Option.bind_some]
 unfold YK
 rw[if_pos (by rw[List.length_map,Ki];lia)]
 rfl
theorem JbQ (x:Int) {n:Nat} (hn:n=5∨n=6) {G:Prop} (f: ∀s:Int,(s=1∨s=(n:Int)-1) ->((binD .Mult (.int ((x.fdiv 384).fmod 2)) (.int ((n:Int)-2))).bind λx=>binD .Add (.int 1) x)=some (.int s) ->G):G:=by
 refine Jx (x.fdiv 384) 2 (by decide) λz hz e=>?_
 have q:((binD .Mult (.int (z:Int)) (.int ((n:Int)-2))).bind λx=>binD .Add (.int 1) x)=some (.int (1+(z:Int)*((n:Int)-2))):=by rw[YZ (by lia)];rfl
 refine f (1+(z:Int)*((n:Int)-2)) ?_ ((congrArg (λz=>(binD .Mult (.int z) (.int ((n:Int)-2))).bind λx=>binD .Add (.int 1) x) e).trans q)
 match z,hz with
 |0,_=>exact Or.inl (by lia)
 |1,_=>exact Or.inr (by lia)
structure Hv where
 G:Gv
 n:Nat
 st:D
 wd:List (Int×Int)
 wt:List (Int×Int)
@[elab_as_elim] theorem Hv.tt {P:Hv ->Prop} (H:Hv) (h:P {H with G:={H.G with Y:={H.G.Y with X:={H.G.Y.X with t:=false}}}}) (h':P {H with G:={H.G with Y:={H.G.Y with X:={H.G.Y.X with t:=true}}}}):P H:=Cl.tt (P:=λX=>P {H with G:={H.G with Y:={H.G.Y with X:=X}}}) H.G.Y.X h h'
noncomputable abbrev C22 (H:Hv) (ns:List D) (wo tp sp sn:D) (z:Rho):Rho:=B0 H.G.Y.X++(nm "many",.val H.G.Y.m)::(nm "pool",.mls [])::(nm "word",.val wo)::(nm "draw",.val H.G.Y.dr)::(nm "size",.val (.int H.n))::(nm "typed",.val H.G.Y.ty)::(nm "gone",.val H.G.Y.go)::(nm "text",.val H.G.Y.tx)::(nm "notes",.mls ns)::(nm "counts",.val H.G.Y.ct)::(nm "rows",.val H.G.rw)::(nm "plain",.val H.G.pl)::(nm "order",.val H.G.od)::(nm "chooser",.val (.obj (.lst (H.wd.map pairI))))::(nm "fall",.val (.dct (JM H.G.rk)))::(nm "one",.val H.G.o)::(nm "two",.val H.G.w)::(nm "told",.val H.G.t)::(nm "gap",.val H.G.g)::(nm "rank",.val (.dct (J0Q H.G.rk)))::(nm "top",.val tp)::(nm "step",.val sp)::(nm "wide",.val (.lst (H.wd.map pairI)))::(nm "weights",.val (.lst (H.wt.map pairI)))::(nm "ways",.val (.int 1))::(nm "seen",.val sn)::z
theorem JiS (H:Hv) (ns:List D) (tp:D):step1 L19 scL (lst 22) (C20 H.G ns H.n tp H.st H.wd [(nm "weights",.val (.lst (H.wt.map pairI)))])=some (C22 H ns H.G.Y.w tp H.st (.int 0) [],.next):=by
 refine Hv.tt H ?_ ?_<;>kernel_rfl
noncomputable abbrev ctD (c0 c1 c2:Nat):D:= .lst [.int c0,.int c1,.int c2]
noncomputable abbrev cts (c0 c1 c2:Nat):List (Nat×Nat):=[(114,c0),(103,c1),(98,c2)]
noncomputable def growW (cs:List (Nat×Nat)) (w:List Nat):List (List Nat):=cs.flatMap λx=>if w.count x.1<x.2 then[w++[x.1]]else[]
noncomputable def ZZ:Expr:=JU (bst (lst 24) 0)
noncomputable def Jhx (c:D) (d:D):Option (List D):=Jd (level theTop 17) (J8o ZZ) (λρ'=>((level theTop 17).ev (J8o ZZ) ρ' (J4b ZZ)).map λd=>[d]) (Jfg ZZ) [d] [(nm "counts",.val c)]
noncomputable abbrev J84 (w:Str) (c k:Nat):Option (List D):=(((ZO w [lD c]).bind λa=>Kj .Lt a (.int k)).bind λt=>if t then some true else some false).bind λt=>if t then(binD .Add (.str w) (lD c)).map λd=>[d]else some []
theorem JcO (w:Str) (c0 c1 c2:Nat):Jhx (ctD c0 c1 c2) (.str w)=((J84 w 114 c0).bind λxs=>((J84 w 103 c1).bind λys=>((J84 w 98 c2).bind λzs=>some (zs++[])).bind λr=>some (ys++r)).bind λr=>some (xs++r)).bind λxs=>some (xs++[]):=by kernel_rfl
theorem J68 {α:Type} {f:D ->Option (List α)} {d:D} {r:List D} {xs ys:List α} (h:J6 f [d]=some xs) (k:J6 f r=some ys):J6 f (d::r)=some (xs++ys):=by
 refine bnd h λz e h=>gC (e.trans ?_) k
 rw[<-Option.some.inj h,List.append_nil]
theorem J3K {α:Type} {L:Lv} {sc:Scope} {emit:Rho ->Option (List α)} {gs:List Comprehension} {d:D} {r:List D} {ρ:Rho} {xs ys:List α} (h:Jd L sc emit gs [d] ρ=some xs) (k:Jd L sc emit gs r ρ=some ys):Jd L sc emit gs (d::r) ρ=some (xs++ys):=by
 cases gs with
 |nil=>exact nn h
 |cons g gs=>
  refine J9 h λq h=>(if_pos q).trans (J68 h ((if_pos q).symm.trans k))
theorem J0E {w:List Nat} (hw:w.length<=100) (c k:Nat):J84 (sD w) c k=some (if w.count c<k then[wD (w++[c])]else[]):=by
 unfold J84
 rw[J1i]
 show((some (decide (((w.count c:Nat):Int)<(k:Int)))).bind λt=>if t then some true else some false).bind _=_
 by_cases q:w.count c<k
 ·rw[decide_eq_true (by lia),if_pos q]
  show(binD .Add (wD w) (lD c)).map _=_
  rw[JcE w c (by lia)]
  rfl
 ·rw[decide_eq_false (by lia),if_neg q]
  rfl
theorem JcP {w:List Nat} (hw:w.length<=100) (c0 c1 c2:Nat):Jhx (ctD c0 c1 c2) (wD w)=some ((growW (cts c0 c1 c2) w).map wD):=by
 rw[JcO,J0E hw,J0E hw,J0E hw]
 simp only[Option.bind_some]
 unfold growW cts
 simp only[List.flatMap_cons,List.flatMap_nil,List.append_nil,List.map_append]
 congr 2
 ·split<;>rfl
 ·congr 1
  ·split<;>rfl
  ·split<;>rfl
noncomputable def firstC (cs:List (Nat×Nat)):Nat:=((cs.filter λx=>x.2 !=0).map (·.1)).headD 0
noncomputable abbrev Jc5 (m tu:List Int):Nat×Nat×Nat:=((poolL m tu).count 114,(poolL m tu).count 103,(poolL m tu).count 98)
noncomputable abbrev JH:List (Nat×Nat×Nat):=[(4,1,1),(1,4,1),(1,1,4),(2,2,2),(4,2,0),(4,0,2),(2,4,0),(0,4,2),(2,0,4),(0,2,4),(2,2,1),(2,1,2),(1,2,2),(3,3,0),(3,0,3),(0,3,3),(3,2,1),(3,1,2),(2,3,1),(1,3,2),(2,1,3),(1,2,3)]
theorem J9t:(manyL.all λm=>turnedL.all λtu=>JH.contains (Jc5 m tu))=true:=by kernel_rfl
theorem Jc6 {m tu:List Int} (hm:m∈manyL) (ht:tu∈turnedL):Jc5 m tu∈JH:=by
 have h:=List.all_eq_true.mp (List.all_eq_true.mp J9t m hm) tu ht
 exact List.contains_iff_mem.mp h
theorem JbP (H:Hv) (ns:List D) (wo tp sn:D):JH.map (λx=>step1 L19 scL (lst 23) (C22 {H with G.Y.ct:=ctD x.1 x.2.1 x.2.2} ns wo tp H.st sn []))=JH.map λx=>some (C22 {H with G.Y.ct:=ctD x.1 x.2.1 x.2.2} ns wo tp H.st sn [(nm "words",.val (.lst [lD (firstC (cts x.1 x.2.1 x.2.2))]))],Fl.next):=by
 refine Hv.tt H ?_ ?_<;>kernel_rfl
theorem JiT (H:Hv) (ns:List D) (wo tp sn:D) {x:Nat×Nat×Nat} (hx:x∈JH) (hc:H.G.Y.ct=ctD x.1 x.2.1 x.2.2):step1 L19 scL (lst 23) (C22 H ns wo tp H.st sn [])=some (C22 H ns wo tp H.st sn [(nm "words",.val (.lst [lD (firstC (cts x.1 x.2.1 x.2.2))]))],.next):=by
 have h:=List.map_inj_left.mp (JbP H ns wo tp sn) x hx
 rw[<-hc]at h
 exact h
theorem Ji0:forB (lst 24)=[bst (lst 24) 0]:=by kernel_rfl
noncomputable abbrev C24 (H:Hv) (ns:List D) (wo tp sp sn:D) (ws:List D):Rho:=C22 H ns wo tp sp sn [(nm "words",.val (.lst ws))]
theorem JiU (H:Hv) (hn:H.n=5∨H.n=6) (ns:List D) (wo tp sn:D) (ws:List D):step1 L19 scL (lst 24) (C24 H ns wo tp H.st sn ws)=loopX (forF L19 scL (lst 24)) ((List.range (H.n-1)).map λ(k:Nat)=> .int k) (C24 H ns wo tp H.st sn ws):=by
 obtain⟨⟨⟨⟨t,v,q,nn,a,b,c,d,e⟩,m,w,dr,sz',ty,go,tx,ct⟩,rw,pl,od,o,w',t',g,rk⟩,n,st,wd,wt⟩:=H
 dsimp only at hn
 rcases hn with rfl|rfl<;>cases t<;>kernel_rfl
theorem Jha (H:Hv) (ns:List D) (wo tp sp sn k:D) (ws:List D):forF L19 scL (lst 24) k (C24 H ns wo tp sp sn ws)=exSs theTop L18 scL (forB (lst 24)) (C24 H ns wo tp k sn ws):=by
 refine Hv.tt H ?_ ?_<;>kernel_rfl
theorem Jhb (H:Hv) (ns:List D) (wo tp sp sn:D) (ws:List D):step1 L18 scL (bst (lst 24) 0) (C24 H ns wo tp sp sn ws)=(((Jd (level theTop 17) (J8o ZZ) (λρ'=>((level theTop 17).ev (J8o ZZ) ρ' (J4b ZZ)).map λd=>[d]) (Jfg ZZ) ws [(nm "counts",.val H.G.Y.ct)]).bind YK).map .lst).bind λd=>some (C22 H ns wo tp sp sn [(nm "words",.val d)],.next):=by
 refine Hv.tt H ?_ ?_<;>kernel_rfl
noncomputable def growAll (cs:List (Nat×Nat)) (ws:List (List Nat)):List (List Nat):=ws.flatMap (growW cs)
theorem J4S (c0 c1 c2:Nat): ∀ws:List (List Nat),(∀w∈ws,w.length<=100) ->Jd (level theTop 17) (J8o ZZ) (λρ'=>((level theTop 17).ev (J8o ZZ) ρ' (J4b ZZ)).map λd=>[d]) (Jfg ZZ) (ws.map wD) [(nm "counts",.val (ctD c0 c1 c2))]=some ((growAll (cts c0 c1 c2) ws).map wD)
 |[],_=>by kernel_rfl
 |w::ws,h=>by
  rw[List.map_cons,growAll,List.flatMap_cons,List.map_append]
  exact J3K (JcP (h w List.mem_cons_self) c0 c1 c2) (J4S c0 c1 c2 ws λx hx=>h x (List.mem_cons_of_mem _ hx))
theorem J85 (c0 c1 c2:Nat) (w:List Nat):(growW (cts c0 c1 c2) w).length<=3/\ ∀v∈growW (cts c0 c1 c2) w,v.length=w.length+1:=by
 unfold growW cts
 simp only[List.flatMap_cons,List.flatMap_nil,List.append_nil]
 constructor
 ·simp only[List.length_append]
  split<;>split<;>split<;>simp
 ·intro v hv
  simp only[List.mem_append]at hv
  rcases hv with hv|hv|hv<;>(split at hv<;>simp_all)
theorem VC (c0 c1 c2:Nat): ∀(ws:List (List Nat)) (k:Nat),(∀w∈ws,w.length=k) ->(growAll (cts c0 c1 c2) ws).length<=3*ws.length/\ ∀v∈growAll (cts c0 c1 c2) ws,v.length=k+1
 |[],k,_=>⟨Nat.le_refl _,λv hv=>absurd hv List.not_mem_nil⟩
 |w::ws,k,h=>by
  refine o01 (J85 c0 c1 c2 w) λa1 a2=>?_
  refine o01 (VC c0 c1 c2 ws k λx hx=>h x (List.mem_cons_of_mem _ hx)) λb1 b2=>?_
  have e:=h w List.mem_cons_self
  unfold growAll at*
  rw[List.flatMap_cons]
  refine⟨by rw[List.length_append,List.length_cons];lia,λv hv=>?_⟩
  rcases List.mem_append.mp hv with hv|hv
  ·rw[a2 v hv,e]
  ·exact b2 v hv
noncomputable def YA (cs:List (Nat×Nat)):Nat ->List (List Nat)
 |0=>[[firstC cs]]
 |k+1=>growAll cs (YA cs k)
theorem J5G (H:Hv) (ns:List D) (wo tp sn:D) (c0 c1 c2:Nat) (hc:H.G.Y.ct=ctD c0 c1 c2): ∀(l:List D) (ws:List (List Nat)) (k:Nat) (sp:D),(∀w∈ws,w.length=k) ->k+l.length<=50 ->ws.length*3^l.length<=1000000 ->
  ∃sp',loopX (forF L19 scL (lst 24)) l (C24 H ns wo tp sp sn (ws.map wD))=some (C24 H ns wo tp sp' sn ((l.foldl (λws _=>growAll (cts c0 c1 c2) ws) ws).map wD),.next)
 |[],ws,k,sp,_,_,_=>⟨sp,rfl⟩
 |d::l,ws,k,sp,h,hk,hb=>by
  rw[List.length_cons]at hk hb
  refine o01 (VC c0 c1 c2 ws k h) λg1 g2=>?_
  have e3:ws.length*3^(l.length+1)=(3*ws.length)*3^l.length:=by rw[Nat.pow_succ,Nat.mul_comm (3^l.length) 3,<-Nat.mul_assoc,Nat.mul_comm ws.length 3]
  have hb':(growAll (cts c0 c1 c2) ws).length*3^l.length<=1000000:=Nat.le_trans (Nat.mul_le_mul_right _ g1) (by lia)
  have hp:1<=3^l.length:=Nat.one_le_pow _ _ (by lia)
  have hs:(growAll (cts c0 c1 c2) ws).length<=1000000:=Nat.le_trans (Nat.le_mul_of_pos_right _ hp) hb'
  refine o10 (J5G H ns wo tp sn c0 c1 c2 hc l (growAll (cts c0 c1 c2) ws) (k+1) d g2 (by lia) hb') λsp' r=>?_
  refine⟨sp',?_⟩
  have s1:step1 L18 scL (bst (lst 24) 0) (C24 H ns wo tp d sn (ws.map wD))=some (C24 H ns wo tp d sn ((growAll (cts c0 c1 c2) ws).map wD),.next):=by
   rw[Jhb,hc,J4S c0 c1 c2 ws λw hw=>by rw[h w hw];lia]
   simp only[Option.bind_some]
   unfold YK
   rw[if_pos (by rw[List.length_map];exact hs)]
   rfl
  exact J2 (by rw[Jha,Ji0];exact J0 s1 rfl) r
theorem J1t (cs:List (Nat×Nat)): ∀(l:List D) (k:Nat),l.foldl (λws _=>growAll cs ws) (YA cs k)=YA cs (k+l.length)
 |[],k=>rfl
 |d::l,k=>by
  rw[List.foldl_cons,show growAll cs (YA cs k)=YA cs (k+1)from rfl,J1t cs l (k+1),List.length_cons,show k+1+l.length=k+(l.length+1) by lia]
theorem J76 (H:Hv) (hn:H.n=5∨H.n=6) (ns:List D) (wo tp sn:D) (c0 c1 c2:Nat) (hc:H.G.Y.ct=ctD c0 c1 c2): ∃sp',step1 L19 scL (lst 24) (C24 H ns wo tp H.st sn [lD (firstC (cts c0 c1 c2))])=some (C24 H ns wo tp sp' sn ((YA (cts c0 c1 c2) (H.n-1)).map wD),.next):=by
 have hl:((List.range (H.n-1)).map λ(k:Nat)=>D.int k).length=H.n-1:=by rw[List.length_map,List.length_range]
 obtain⟨sp',r⟩:=J5G H ns wo tp sn c0 c1 c2 hc ((List.range (H.n-1)).map λ(k:Nat)=>D.int k) [[firstC (cts c0 c1 c2)]] 1 H.st (by simp) (by rw[hl];omega) (by
  rw[hl,List.length_singleton]
  rcases hn with h|h<;>rw[h]<;>decide)
 refine⟨sp',?_⟩
 rw[JiU H hn]
 have e:=J1t (cts c0 c1 c2) ((List.range (H.n-1)).map λ(k:Nat)=>D.int k) 0
 rw[hl,Nat.zero_add]at e
 rw[<-e]
 exact r
noncomputable abbrev C25 (H:Hv) (ns:List D) (wo tp sp sn:D) (ws:List D) (tb:D) (z:Rho):Rho:=C22 H ns wo tp sp sn ((nm "words",.val (.lst ws))::(nm "tables",.val tb)::z)
theorem JiV (H:Hv) (ns:List D) (wo tp sp sn:D) (ws:List D):step1 L19 scL (lst 25) (C24 H ns wo tp sp sn ws)=some (C25 H ns wo tp sp sn ws (.lst [.dct [],.dct []]) [],.next):=by
 refine Hv.tt H ?_ ?_<;>kernel_rfl
structure Iv where
 X:Cl
 m:D
 dr:D
 n:Nat
 ty:D
 go:D
 tx:D
 ct:D
 rw:D
 pl:D
 od:D
 wd:List (Int×Int)
 rk:List Nat
 g:D
 tp:D
 sp:D
 wt:List (Int×Int)
 sn:D
 ws:List D
@[elab_as_elim] theorem Iv.tt {P:Iv ->Prop} (I:Iv) (h:P {I with X:={I.X with t:=false}}) (h':P {I with X:={I.X with t:=true}}):P I:=Cl.tt (P:=λX=>P {I with X:=X}) I.X h h'
noncomputable abbrev C26 (I:Iv) (wo:D) (ns:List D) (o w t tb:D) (z:Rho):Rho:=B0 I.X++(nm "many",.val I.m)::(nm "pool",.mls [])::(nm "word",.val wo)::(nm "draw",.val I.dr)::(nm "size",.val (.int I.n))::(nm "typed",.val I.ty)::(nm "gone",.val I.go)::(nm "text",.val I.tx)::(nm "notes",.mls ns)::(nm "counts",.val I.ct)::(nm "rows",.val I.rw)::(nm "plain",.val I.pl)::(nm "order",.val I.od)::(nm "chooser",.val (.obj (.lst (I.wd.map pairI))))::(nm "fall",.val (.dct (JM I.rk)))::(nm "one",.val o)::(nm "two",.val w)::(nm "told",.val t)::(nm "gap",.val I.g)::(nm "rank",.val (.dct (J0Q I.rk)))::(nm "top",.val I.tp)::(nm "step",.val I.sp)::(nm "wide",.val (.lst (I.wd.map pairI)))::(nm "weights",.val (.lst (I.wt.map pairI)))::(nm "ways",.val (.int 1))::(nm "seen",.val I.sn)::(nm "words",.val (.lst I.ws))::(nm "tables",.val tb)::z
noncomputable abbrev rb (k:Nat):Stmt:=bst (lst 26) k
structure Zo where
 tu:D
 ki:D
 li:D
 co:D
 be:D
 le:D
 ri:D
 tn:D
 af:D
 ke:D
 ol:D
 im:D
noncomputable abbrev Ta5 (x:Option Zo):Rho:=match x with|some z=>[(nm "left",.val z.le),(nm "right",.val z.ri),(nm "turn",.val z.tn),(nm "after",.val z.af),(nm "key",.val z.ke),(nm "olds",.val z.ol),(nm "images",.val z.im)]|none=>[]
noncomputable abbrev Ta4 (x:Option Zo):Rho:=match x with|some z=>(nm "behind",.val z.be)::Ta5 (some z)|none=>[]
noncomputable abbrev Ta3 (x:Option Zo):Rho:=match x with|some z=>(nm "codes",.val z.co)::Ta4 (some z)|none=>[]
noncomputable abbrev Ta2 (x:Option Zo):Rho:=match x with|some z=>(nm "lines",.val z.li)::Ta3 (some z)|none=>[]
noncomputable abbrev Ta1 (x:Option Zo):Rho:=match x with|some z=>(nm "kind",.val z.ki)::Ta2 (some z)|none=>[]
noncomputable abbrev Ta0 (x:Option Zo):Rho:=match x with|some z=>(nm "turns",.val z.tu)::Ta1 (some z)|none=>[]
noncomputable def J9z (wo:D):Option D:=L18.ev scL [(nm "word",.val wo)] (JU (rb 0))
noncomputable def JaY (wo fl tp:D):Option D:=L18.ev scL [(nm "word",.val wo),(nm "fall",.val fl),(nm "top",.val tp)] (JU (rb 2))
noncomputable def J8s (tu rk:D):Option D:=L18.ev scL [(nm "turns",.val tu),(nm "rank",.val rk)] (JU (rb 3))
noncomputable def J7B (li wt:D):Option D:=L18.ev scL [(nm "lines",.val li),(nm "weights",.val wt)] (JU (rb 4))
section
variable (I:Iv) (wo:D) (ns:List D) (o w t tb:D)
theorem JiW:step1 L19 scL (lst 26) (C26 I wo ns o w t tb [])=loopX (forF L19 scL (lst 26)) I.ws (C26 I wo ns o w t tb []):=by
 refine Iv.tt I ?_ ?_<;>kernel_rfl
theorem Jec (d:D) (z:Rho):forF L19 scL (lst 26) d (C26 I wo ns o w t tb z)=exSs theTop L18 scL (forB (lst 26)) (C26 I d ns o w t tb z):=by
 refine Iv.tt I ?_ ?_<;>kernel_rfl
theorem Jho:forB (lst 26)=[rb 0,rb 1,rb 2,rb 3,rb 4,rb 5,rb 6,rb 7,rb 8,rb 9,rb 10,rb 11]:=by kernel_rfl
theorem r0 (x:Option Zo):step1 L18 scL (rb 0) (C26 I wo ns o w t tb (Ta0 x))=(J9z wo).bind λd=>some (C26 I wo ns o w t tb ((nm "turns",.val d)::Ta1 x),.next):=by
 rcases x with _|x<;>refine Iv.tt I ?_ ?_<;>kernel_rfl
theorem r1 (tu:D) (x:Option Zo):step1 L18 scL (rb 1) (C26 I wo ns o w t tb ((nm "turns",.val tu)::Ta1 x))=((J4 (nm "max") [tu]).bind λm=>Kj .NotEq wo m).bind λc=>if c then some (C26 I wo ns o w t tb ((nm "turns",.val tu)::Ta1 x),.cont)else some (C26 I wo ns o w t tb ((nm "turns",.val tu)::Ta1 x),.next):=by
 rcases x with _|x<;>refine Iv.tt I ?_ ?_<;>kernel_rfl
theorem r2 (tu:D) (x:Option Zo):step1 L18 scL (rb 2) (C26 I wo ns o w t tb ((nm "turns",.val tu)::Ta1 x))=(JaY wo (.dct (JM I.rk)) I.tp).bind λd=>some (C26 I wo ns o w t tb ((nm "turns",.val tu)::(nm "kind",.val d)::Ta2 x),.next):=by
 rcases x with _|x<;>refine Iv.tt I ?_ ?_<;>kernel_rfl
theorem r3 (tu ki:D) (x:Option Zo):step1 L18 scL (rb 3) (C26 I wo ns o w t tb ((nm "turns",.val tu)::(nm "kind",.val ki)::Ta2 x))=(J8s tu (.dct (J0Q I.rk))).bind λd=>some (C26 I wo ns o w t tb ((nm "turns",.val tu)::(nm "kind",.val ki)::(nm "lines",.val d)::Ta3 x),.next):=by
 rcases x with _|x<;>refine Iv.tt I ?_ ?_<;>kernel_rfl
theorem r4 (tu ki li:D) (x:Option Zo):step1 L18 scL (rb 4) (C26 I wo ns o w t tb ((nm "turns",.val tu)::(nm "kind",.val ki)::(nm "lines",.val li)::Ta3 x))=(J7B li (.lst (I.wt.map pairI))).bind λd=>some (C26 I wo ns o w t tb ((nm "turns",.val tu)::(nm "kind",.val ki)::(nm "lines",.val li)::(nm "codes",.val d)::Ta4 x),.next):=by
 rcases x with _|x<;>refine Iv.tt I ?_ ?_<;>kernel_rfl
theorem r5 (ts:List D) (ki li co:D) (x:Option Zo):step1 L18 scL (rb 5) (C26 I wo ns o w t tb ((nm "turns",.val (.lst ts))::(nm "kind",.val ki)::(nm "lines",.val li)::(nm "codes",.val co)::Ta4 x))=((J4 (nm "len") [.lst ts]).bind λk=>binD .Mult (.lst [.int 0]) k).bind λd=>(J3h d).bind λs=>some (C26 I wo ns o w t tb ((nm "turns",.val (.lst ts))::(nm "kind",.val ki)::(nm "lines",.val li)::(nm "codes",.val co)::(nm "behind",s)::Ta5 x),.next):=by
 rcases x with _|x<;>refine Iv.tt I ?_ ?_<;>kernel_rfl
end
noncomputable abbrev Q6 (tu ki li co:D) (be:Slot) (z:Rho):Rho:=(nm "turns",.val tu)::(nm "kind",.val ki)::(nm "lines",.val li)::(nm "codes",.val co)::(nm "behind",be)::z
noncomputable abbrev pb:Stmt:=bst (rb 6) 0
noncomputable abbrev qb (k:Nat):Stmt:=bst pb k
noncomputable def JhU:Stmt ->Expr
 | .Expr e _=>J7e e
 |_=> .Name (nm "") default
noncomputable def JdQ (t co o w:D):Option D:=L16.ev scL [(nm "told",.val t),(nm "codes",.val co),(nm "one",.val o),(nm "two",.val w)] (JhU (qb 1))
noncomputable def rgD:D ->Option (List D)
 | .int b=>Jn 0 b 1
 |_=>none
section
variable (I:Iv) (wo:D) (ns:List D) (o w t tb tu ki li co:D) (be:List D) (z:Rho)
theorem r6 (ts:List D):step1 L18 scL (rb 6) (C26 I wo ns o w t tb (Q6 (.lst ts) ki li co (.mls be) z))=((J4 (nm "len") [.lst ts]).bind rgD).bind λl=>loopX (forF L18 scL (rb 6)) l (C26 I wo ns o w t tb (Q6 (.lst ts) ki li co (.mls be) z)):=by
 refine Iv.tt I ?_ ?_<;>kernel_rfl
theorem r6a (i:D):forF L18 scL (rb 6) i (C26 I wo ns o w t tb (Q6 tu ki li co (.mls be) z))=exSs theTop L17 scL (forB (rb 6)) (C26 I wo ns i w t tb (Q6 tu ki li co (.mls be) z)):=by
 refine Iv.tt I ?_ ?_<;>kernel_rfl
theorem bdp:forB (rb 6)=[pb]:=by kernel_rfl
theorem bdq:forB pb=[qb 0,qb 1,qb 2]:=by kernel_rfl
theorem r6p:step1 L17 scL pb (C26 I wo ns o w t tb (Q6 tu ki li co (.mls be) z))=(rgD o).bind λl=>loopX (forF L17 scL pb) l (C26 I wo ns o w t tb (Q6 tu ki li co (.mls be) z)):=by
 refine Iv.tt I ?_ ?_<;>kernel_rfl
theorem r6q (j:D):forF L17 scL pb j (C26 I wo ns o w t tb (Q6 tu ki li co (.mls be) z))=exSs theTop L16 scL (forB pb) (C26 I wo ns o j t tb (Q6 tu ki li co (.mls be) z)):=by
 refine Iv.tt I ?_ ?_<;>kernel_rfl
theorem q0:step1 L16 scL (qb 0) (C26 I wo ns o w t tb (Q6 tu ki li co (.mls be) z))=(((itemD li o).bind λa=>((itemD li w).bind λb=>some [b]).bind λr=>some (a::r)).bind λr=>callF L15 fnC (.obj (.lst (I.wd.map pairI))::r)).bind λd=>some (C26 I wo ns o w d tb (Q6 tu ki li co (.mls be) z),.next):=by
 refine Iv.tt I ?_ ?_<;>kernel_rfl
theorem q1:step1 L16 scL (qb 1) (C26 I wo ns o w t tb (Q6 tu ki li co (.mls be) z))=(JdQ t co o w).bind λd=>if ns.length<=1000000 then some (C26 I wo (ns++[d]) o w t tb (Q6 tu ki li co (.mls be) z),.next)else none:=by
 refine Iv.tt I ?_ ?_<;>kernel_rfl
theorem q2 (t:Int):step1 L16 scL (qb 2) (C26 I wo ns o w (.int t) tb (Q6 tu ki li co (.mls be) z))=(if(t==1)=true then some o else some w).bind λk=>(itemD (.lst be) k).bind λa=>(addI .Add a (.int 1)).bind λz'=>(VV be k (.int z')).map λl'=>(C26 I wo ns o w (.int t) tb (Q6 tu ki li co (.mls l') z),Fl.next):=by
 refine Iv.tt I ?_ ?_<;>kernel_rfl
end
noncomputable abbrev Tv (v:Option (D×D)):Rho:=match v with|some (a,b)=>[(nm "olds",.val a),(nm "images",.val b)]|none=>[]
noncomputable abbrev Ta7 (y:Option (D×D×D×Option (D×D))):Rho:=match y with|some (a,b,c,v)=>(nm "turn",.val a)::(nm "after",.val b)::(nm "key",.val c)::Tv v|none=>[]
noncomputable abbrev Ta8 (a b:D) (y:Option (D×Option (D×D))):Rho:=(nm "turn",.val a)::(nm "after",.val b)::match y with|some (c,v)=>(nm "key",.val c)::Tv v|none=>[]
noncomputable abbrev Ta9 (a b c:D) (v:Option (D×D)):Rho:=(nm "turn",.val a)::(nm "after",.val b)::(nm "key",.val c)::Tv v
noncomputable abbrev yOf (x:Option Zo):Option (D×D×D×Option (D×D)):=x.map λz=>(z.tn,z.af,z.ke,some (z.ol,z.im))
noncomputable abbrev vOf {α:Type} (y:Option (α×Option (D×D))):Option (D×D):=y.bind (·.2)
noncomputable abbrev sb (k:Nat):Stmt:=bst (rb 8) k
noncomputable def JgO (ki n tn fl:D):Option D:=L17.ev scL [(nm "kind",.val ki),(nm "size",.val n),(nm "turn",.val tn),(nm "fall",.val fl)] (JU (sb 0))
noncomputable def Jdt (ki n tu af:D):Option D:=L17.ev scL [(nm "kind",.val ki),(nm "size",.val n),(nm "turns",.val tu),(nm "after",.val af)] (JU (sb 2))
noncomputable def Jd4 (tb:D):Option D:=match Jem (rb 9)with
 |[_,e]=>L18.ev scL [(nm "tables",.val tb)] e
 |_=>none
noncomputable abbrev Q7 (tu ki li co:D) (be le ri:Slot) (z:Rho):Rho:=Q6 tu ki li co be ((nm "left",le)::(nm "right",ri)::z)
section
variable (I:Iv) (wo:D) (ns:List D) (o w t tb tu ki li co:D)
theorem r7 (be:List D) (x:Option Zo):step1 L18 scL (rb 7) (C26 I wo ns o w t tb (Q6 tu ki li co (.mls be) (Ta5 x)))=some (C26 I wo ns o w t tb (Q7 tu ki li co (.mls be) (.mdc []) (.mdc []) (Ta7 (yOf x))),.next):=by
 rcases x with _|x<;>refine Iv.tt I ?_ ?_<;>kernel_rfl
theorem r8 (ts be:List D) (l r:List (Key×D)) (z:Rho):step1 L18 scL (rb 8) (C26 I wo ns o w t tb (Q7 (.lst ts) ki li co (.mls be) (.mdc l) (.mdc r) z))=(if ts.length==be.length then some (zipD ts be)else none).bind λits=>loopX (forF L18 scL (rb 8)) its (C26 I wo ns o w t tb (Q7 (.lst ts) ki li co (.val (.lst be)) (.mdc l) (.mdc r) z)):=by
 refine Iv.tt I ?_ ?_<;>kernel_rfl
theorem r8a (be a b:D) (l r:List (Key×D)) (y:Option (D×D×D×Option (D×D))):forF L18 scL (rb 8) (.tup [a,b]) (C26 I wo ns o w t tb (Q7 tu ki li co (.val be) (.mdc l) (.mdc r) (Ta7 y)))=exSs theTop L17 scL (forB (rb 8)) (C26 I wo ns o w t tb (Q7 tu ki li co (.val be) (.mdc l) (.mdc r) (Ta8 a b (y.map (·.2.2))))):=by
 rcases y with _|⟨y1,y2,y3,_|⟨v1,v2⟩⟩<;>refine Iv.tt I ?_ ?_<;>kernel_rfl
theorem bds:forB (rb 8)=[sb 0,sb 1,sb 2,sb 3]:=by kernel_rfl
theorem s0 (be a b:D) (l r:List (Key×D)) (y:Option (D×Option (D×D))):step1 L17 scL (sb 0) (C26 I wo ns o w t tb (Q7 tu ki li co (.val be) (.mdc l) (.mdc r) (Ta8 a b y)))=(JgO ki (.int I.n) a (.dct (JM I.rk))).bind λd=>some (C26 I wo ns o w t tb (Q7 tu ki li co (.val be) (.mdc l) (.mdc r) (Ta9 a b d (vOf y))),.next):=by
 rcases y with _|⟨y,_|⟨v1,v2⟩⟩<;>refine Iv.tt I ?_ ?_<;>kernel_rfl
theorem s1 (be a b:D) (k:Int) (l r:List (Key×D)) (v:Option (D×D)):step1 L17 scL (sb 1) (C26 I wo ns o w t tb (Q7 tu ki li co (.val be) (.mdc l) (.mdc r) (Ta9 a b (.int k) v)))=(binD .Add ((dget (.i k) l).getD (.int 0)) (.int 1)).bind λd=>if l.length<=1000000 then some (C26 I wo ns o w t tb (Q7 tu ki li co (.val be) (.mdc (JY (.i k) d l)) (.mdc r) (Ta9 a b (.int k) v)),.next)else none:=by
 refine Iv.tt I ?_ ?_<;>kernel_rfl
theorem s2 (be a b k:D) (l r:List (Key×D)) (v:Option (D×D)):step1 L17 scL (sb 2) (C26 I wo ns o w t tb (Q7 tu ki li co (.val be) (.mdc l) (.mdc r) (Ta9 a b k v)))=(Jdt ki (.int I.n) tu b).bind λd=>some (C26 I wo ns o w t tb (Q7 tu ki li co (.val be) (.mdc l) (.mdc r) (Ta9 a b d v)),.next):=by
 refine Iv.tt I ?_ ?_<;>kernel_rfl
theorem s3 (be a b:D) (k:Int) (l r:List (Key×D)) (v:Option (D×D)):step1 L17 scL (sb 3) (C26 I wo ns o w t tb (Q7 tu ki li co (.val be) (.mdc l) (.mdc r) (Ta9 a b (.int k) v)))=(binD .Add ((dget (.i k) r).getD (.int 0)) (.int 1)).bind λd=>if r.length<=1000000 then some (C26 I wo ns o w t tb (Q7 tu ki li co (.val be) (.mdc l) (.mdc (JY (.i k) d r)) (Ta9 a b (.int k) v)),.next)else none:=by
 refine Iv.tt I ?_ ?_<;>kernel_rfl
theorem r9 (z:Rho):step1 L18 scL (rb 9) (C26 I wo ns o w t tb z)=(((Jd4 tb).bind λd=>some [d]).bind λds=>some (tb::ds)).bind λds=>(Jk theTop scL (JeB (rb 9)) (Jem (rb 9)) ds (C26 I wo ns o w t tb z)).map λr=>(r,.next):=by
 refine Iv.tt I ?_ ?_<;>kernel_rfl
theorem r9b (be a b c d e:D) (l r:List (Key×D)) (v:Option (D×D)):Jk theTop scL (JeB (rb 9)) (Jem (rb 9)) [d,e] (C26 I wo ns o w t tb (Q7 tu ki li co (.val be) (.mdc l) (.mdc r) (Ta9 a b c v)))=some (C26 I wo ns o w t tb (Q7 tu ki li co (.val be) (.mdc l) (.mdc r) (Ta9 a b c (some (d,e))))):=by
 rcases v with _|⟨v1,v2⟩<;>refine Iv.tt I ?_ ?_<;>kernel_rfl
theorem r10 (be ta tc:D) (l r:List (Key×D)) (z:Rho):step1 L18 scL (rb 10) (C26 I wo ns o w t (.lst [ta,tc]) (Q7 tu ki li co (.val be) (.mdc l) (.mdc r) z))=(((callF L16 (fnAt 2) [ta,.dct l]).bind λd=>((callF L16 (fnAt 2) [tc,.dct r]).bind λd'=>some [d']).bind λds=>some (d::ds)).map .lst).bind λds=>some (C26 I wo ns o w t ds (Q7 tu ki li co (.val be) (.val (.dct l)) (.val (.dct r)) z),.next):=by
 refine Iv.tt I ?_ ?_<;>kernel_rfl
theorem r11 (be le ri a b c d e:D):step1 L18 scL (rb 11) (C26 I wo ns o w t tb (Q7 tu ki li co (.val be) (.val le) (.val ri) (Ta9 a b c (some (d,e)))))=if ns.length<=1000000 then some (C26 I wo (ns++[.tup [d,e]]) o w t tb (Q7 tu ki li co (.val be) (.val le) (.val ri) (Ta9 a b c (some (d,e)))),.next)else none:=by
 refine Iv.tt I ?_ ?_<;>kernel_rfl
end
noncomputable abbrev Tb:=List (Nat×Nat)
noncomputable abbrev tbD (u:Tb):List (Key×D):=u.map λp=>(.i (p.1:Nat),.int (p.2:Nat))
noncomputable def cnt (k:Nat):Tb ->Nat
 |[]=>0
 |(j,c)::r=>(if j=k then c else 0)+cnt k r
noncomputable def bump (k a:Nat):Tb ->Tb
 |[]=>[(k,a)]
 |(j,c)::r=>if j=k then(j,c+a)::r else(j,c)::bump k a r
noncomputable def addT (u v:Tb):Tb:=v.foldl (λu p=>bump p.1 p.2 u) u
noncomputable def tot (u:Tb):Nat:=u.foldr (λp n=>p.2+n) 0
structure Tab (u:Tb) (ks:List Nat):Prop where
 nd:(u.map (·.1)).Nodup
 ct: ∀k,cnt k u=ks.count k
 nz: ∀p∈u,p.2≠0
 to:tot u=ks.length
theorem Yh {k:Nat} {u:Tb} (h:k∉u.map (·.1)):cnt k u=0:=by
 induction u with
 |nil=>rfl
 |cons x r ih=>exact congr (congrArg HAdd.hAdd (if_neg λe:x.1=k=>h (show k∈x.1::r.map (·.1)from e▸List.mem_cons_self))) (ih λm=>h (List.mem_cons_of_mem _ m))
theorem J8k {j k:Nat} (h:j≠k): ¬Key.i (j:Nat)= .i (k:Nat):=λe=>h (by injection e with e;exact Int.ofNat.inj e)
theorem Zn {x:Nat×Nat} {k:Nat} {r:Tb} (e:x.1=k):cnt k (x::r)=x.2+cnt k r:=congrArg (· +cnt k r) (if_pos e)
theorem YP {x:Nat×Nat} {k:Nat} {r:Tb} (e:x.1≠k):cnt k (x::r)=cnt k r:=(congrArg (· +cnt k r) (if_neg e)).trans (Nat.zero_add _)
theorem Yg {x:Nat×Nat} {k a:Nat} {r:Tb} (e:x.1=k):bump k a (x::r)=(x.1,x.2+a)::r:=if_pos e
theorem JP {x:Nat×Nat} {k a:Nat} {r:Tb} (e:x.1≠k):bump k a (x::r)=x::bump k a r:=if_neg e
theorem Za {x:Nat×Nat} {r:Tb} (h:((x::r).map (·.1)).Nodup):x.1∉r.map (·.1)/\ (r.map (·.1)).Nodup:=List.nodup_cons.mp h
theorem J3P {k:Nat} {u:Tb} (h:(u.map (·.1)).Nodup):dget (.i k) (tbD u)=if k∈u.map (·.1)then some (.int (cnt k u:Nat))else none:=by
 induction u with
 |nil=>rfl
 |cons x r ih=>
  show(if Key.i (x.1:Nat)= .i (k:Nat)then some (D.int (x.2:Nat))else dget (.i k) (tbD r))=_
  by_cases e:x.1=k
  ·rw[if_pos (congrArg (λn:Nat=>Key.i n) e),if_pos (show k∈(x::r).map (·.1)from(show k∈x.1::r.map (·.1)from e▸List.mem_cons_self)),Zn e,Yh (e▸(Za h).1)];rfl
  ·rw[if_neg (J8k e),ih (Za h).2,YP e]
   by_cases m:k∈r.map (·.1)
   ·rw[if_pos m,if_pos (show k∈(x::r).map (·.1)from List.mem_cons_of_mem _ m)]
   ·rw[if_neg m,if_neg (show¬k∈(x::r).map (·.1)from λq=>(List.mem_cons.mp q).elim (λq=>e q.symm) m)]
theorem Jf6 {u:Tb} (h:(u.map (·.1)).Nodup) (k:Nat):(dget (.i k) (tbD u)).getD (.int 0)= .int (cnt k u:Nat):=by
 rw[J3P h]
 split
 ·rfl
 ·rename_i q
  rw[Yh q];rfl
theorem J7K (k a:Nat) {u:Tb} (h:(u.map (·.1)).Nodup):JY (.i k) (.int ((cnt k u+a:Nat):Int)) (tbD u)=tbD (bump k a u):=by
 induction u with
 |nil=>exact congrArg (λn:Nat=>[(Key.i k,D.int n)]) (Nat.zero_add a)
 |cons x r ih=>
  show(if Key.i (x.1:Nat)= .i (k:Nat)then(Key.i (x.1:Nat),D.int _)::tbD r else(Key.i (x.1:Nat),D.int (x.2:Nat))::JY (.i k) _ (tbD r))=_
  by_cases e:x.1=k
  ·rw[if_pos (congrArg (λn:Nat=>Key.i n) e),Yg e,Zn e,Yh (e▸(Za h).1)];rfl
  ·rw[if_neg (J8k e),JP e,YP e];exact congrArg (_:: ·) (ih (Za h).2)
theorem J7q (k a x:Nat) {u:Tb}:x∈(bump k a u).map (·.1)↔x=k∨x∈u.map (·.1):=by
 induction u with
 |nil=>exact List.mem_singleton.trans ⟨.inl,λh=>h.elim id λh=>absurd h List.not_mem_nil⟩
 |cons y r ih=>
  by_cases e:y.1=k
  ·rw[Yg e];exact⟨.inr,λh=>h.elim (λq=>q▸e▸List.mem_cons_self) id⟩
  ·rw[JP e];exact(List.mem_cons.trans ((or_congr Iff.rfl ih).trans or_left_comm)).trans (or_congr Iff.rfl List.mem_cons.symm)
theorem Zk (k a:Nat) {u:Tb} (h:(u.map (·.1)).Nodup):((bump k a u).map (·.1)).Nodup:=by
 induction u with
 |nil=>exact List.nodup_cons.mpr ⟨List.not_mem_nil,List.nodup_nil⟩
 |cons y r ih=>
  by_cases e:y.1=k
  ·rw[Yg e];exact h
  ·rw[JP e];exact List.nodup_cons.mpr ⟨λq=>((J7q k a y.1).mp q).elim e (Za h).1,ih (Za h).2⟩
theorem Ja6 (k a x:Nat) (u:Tb):cnt x (bump k a u)=cnt x u+if k=x then a else 0:=by
 induction u with
 |nil=>exact Nat.add_comm ..
 |cons y r ih=>
  by_cases e:y.1=k
  ·rw[Yg e]
   by_cases q:y.1=x
   ·rw[Zn (x:=(y.1,y.2+a)) q,Zn q,if_pos (e▸q),Nat.add_right_comm]
   ·rw[YP (x:=(y.1,y.2+a)) q,YP q,if_neg (e▸q),Nat.add_zero]
  ·rw[JP e];exact(congrArg (_+ ·) ih).trans (Nat.add_assoc ..).symm
theorem JcM {k a:Nat} (ha:a≠0) {u:Tb} (hu: ∀p∈u,p.2≠0): ∀p∈bump k a u,p.2≠0:=by
 induction u with
 |nil=>exact λp h=>List.mem_singleton.mp h▸ha
 |cons y r ih=>
  have hr: ∀p∈r,p.2≠0:=λp hp=>hu p (List.mem_cons_of_mem _ hp)
  by_cases e:y.1=k
  ·rw[Yg e];exact List.forall_mem_cons.mpr ⟨λq=>ha (Nat.eq_zero_of_add_eq_zero_left q),hr⟩
  ·rw[JP e];exact List.forall_mem_cons.mpr ⟨hu y List.mem_cons_self,ih hr⟩
theorem Ja7 (k a:Nat) (u:Tb):tot (bump k a u)=tot u+a:=by
 induction u with
 |nil=>exact Nat.add_comm ..
 |cons y r ih=>
  by_cases e:y.1=k
  ·rw[Yg e];exact Nat.add_right_comm ..
  ·rw[JP e];exact(congrArg (y.2+ ·) ih).trans (Nat.add_assoc ..).symm
theorem Tab.nil:Tab [] []:=⟨List.nodup_nil,λ_=>rfl,λ_ h=>(absurd h List.not_mem_nil),rfl⟩
theorem Tab.bump {u:Tb} {ks:List Nat} (h:Tab u ks) {k a:Nat} (ha:a≠0):Tab (bump k a u) (ks++List.replicate a k):=by
 refine⟨Zk k a h.nd,λx=>?_,JcM ha h.nz,by simp only[Ja7,h.to,List.length_append,List.length_replicate]⟩
 simp only[Ja6,h.ct,List.count_append,List.count_replicate]
 congr 1
 by_cases e:k=x<;>simp[e]
theorem Tab.congr {u:Tb} {ks ls:List Nat} (h:Tab u ks) (p:ks.Perm ls):Tab u ls:=⟨h.nd,λk=>by rw[h.ct,p.count],h.nz,by rw[h.to,p.length_eq]⟩
noncomputable def Jhy (v:Tb):List Nat:=v.flatMap λp=>List.replicate p.2 p.1
theorem J67 (k:Nat) (v:Tb):(Jhy v).count k=cnt k v:=by
 induction v with
 |nil=>rfl
 |cons x r ih=>
  refine(List.count_append ..).trans (congr (congrArg HAdd.hAdd (List.count_replicate.trans ?_)) ih)
  by_cases e:x.1=k
  ·rw[if_pos (beq_iff_eq.mpr e),if_pos e]
  ·rw[if_neg (λh=>e (beq_iff_eq.mp h)),if_neg e]
theorem JcD {v u:Tb} {ks:List Nat} (h:Tab u ks) (hz: ∀p∈v,p.2≠0):Tab (addT u v) (ks++Jhy v):=by
 induction v generalizing u ks with
 |nil=>exact(List.append_nil ks).symm▸h
 |cons x r ih=>exact List.append_assoc .. ▸ih (h.bump (k:=x.1) (hz x List.mem_cons_self)) λp hp=>hz p (List.mem_cons_of_mem _ hp)
theorem Tab.add {u v:Tb} {ks ls:List Nat} (h:Tab u ks) (k:Tab v ls):Tab (addT u v) (ks++ls):=
 (JcD h k.nz).congr (List.Perm.append_left _ (List.perm_iff_count.mpr λx=>by rw[J67,k.ct]))
theorem Tab.mem {u:Tb} {ks:List Nat} (h:Tab u ks) {k:Nat}:k∈u.map (·.1)↔k∈ks:=by
 rw[<-List.count_pos_iff (l:=ks),<-h.ct]
 constructor
 ·intro m
  refine o11 (List.mem_map.mp m) λp hp q1=>?_;subst q1
  have le: ∀(u:Tb),p∈u ->p.2<=cnt p.1 u:=λu=>by
   induction u with
   |nil=>exact λh=>absurd h List.not_mem_nil
   |cons q r ih=>exact λm=>(List.mem_cons.mp m).elim (λe=>e▸Nat.le_trans (Nat.le_add_right ..) (Nat.le_of_eq (Zn rfl).symm)) λm=>Nat.le_trans (ih m) (Nat.le_add_left ..)
  exact Nat.lt_of_lt_of_le (Nat.pos_of_ne_zero (h.nz p hp)) (le u hp)
 ·intro m
  exact Decidable.byContradiction λq=>absurd m (Yh q▸Nat.lt_irrefl 0)
theorem ZB (u:Tb):Jf (tbD u)=true:=by
 induction u with
 |nil=>rfl
 |cons _ _ ih=>exact ih
theorem Ja1 {v:Tb} (hv:(v.map (·.1)).Nodup) (n:Nat) {w:Tb} (h: ∀p∈w,p.1∈v.map (·.1)/\ cnt p.1 v=p.2):Y2 (eqD (n+1)) (tbD v) (tbD w)=some true:=by
 induction w with
 |nil=>rfl
 |cons x r ih=>
  have h1:=h x List.mem_cons_self
  show(match dget (.i x.1) (tbD v)with|some y=>(eqD (n+1) (.int (x.2:Nat)) y).bind λq=>(Y2 (eqD (n+1)) (tbD v) (tbD r)).map (q&& ·)|none=>some false)=_
  rw[J3P hv,if_pos h1.1,ih λp hp=>h p (List.mem_cons_of_mem _ hp)]
  show((some (((x.2:Nat):Int)==((cnt x.1 v:Nat):Int))).bind λq=>(some true).map (q&& ·))=_
  rw[h1.2,beq_self_eq_true];rfl
theorem J9o {u v:Tb} {ks ls:List Nat} (h:Tab u ks) (k:Tab v ls) (p:ks.Perm ls) (n:Nat):eqD (n+2) (.dct (tbD u)) (.dct (tbD v))=some true:=by
 have hm: ∀x,x∈u.map (·.1)↔x∈v.map (·.1):=λx=>by rw[h.mem,k.mem,p.mem_iff]
 have hl:u.length=v.length:=by
  have:=((List.perm_ext_iff_of_nodup h.nd k.nd).mpr hm).length_eq
  rwa [List.length_map,List.length_map]at this
 show(if Jf (tbD u)&&Jf (tbD v)then(if(tbD u).length==(tbD v).length then Y2 (eqD (n+1)) (tbD v) (tbD u)else some false)else none)=_
 simp only[ZB,ZB,List.length_map,List.length_map,hl,beq_self_eq_true]
 refine Ja1 k.nd n λq hq=>?_
 have m:q.1∈u.map (·.1):=List.mem_map_of_mem hq
 refine⟨(hm _).mp m,?_⟩
 rw[k.ct,<-p.count,<-h.ct]
 have e: ∀{w:Tb},(w.map (·.1)).Nodup ->q∈w ->cnt q.1 w=q.2:=λ{w}=>by
  induction w with
  |nil=>exact λ_ h=>absurd h List.not_mem_nil
  |cons y r ih=>
   exact λhn m=>(List.mem_cons.mp m).elim (λe=>e▸(Zn rfl).trans (congrArg (q.2+ ·) (Yh (e▸(Za hn).1)))) λm'=>
    (YP λe=>(Za hn).1 (e▸List.mem_map_of_mem m')).trans (ih (Za hn).2 m')
 exact e h.nd hq
theorem Tab.len {u:Tb} {ks:List Nat} (h:Tab u ks):u.length<=ks.length:=by
 rw[<-h.to]
 have:=h.nz
 clear h
 induction u with
 |nil=>exact Nat.le_refl _
 |cons p r ih=>
  have a:=ih λq hq=>this q (List.mem_cons_of_mem _ hq)
  have b:=this p List.mem_cons_self
  show r.length+1<=p.2+tot r
  lia
noncomputable abbrev sc2:Scope:=(fnAt 2).scope
noncomputable abbrev L14:Lv:=level theTop 14
noncomputable abbrev A1 (t s:D) (l:List (Key×D)) (y:Option (D×D)):Rho:=(nm "target",.val t)::(nm "source",.val s)::(nm "new_callers",.mdc l)::match y with|some (f,c)=>[(nm "func",.val f),(nm "caller",.val c)]|none=>[]
noncomputable def J4Z (t:List (Key×D)):Option (List D):=if Jf t then some (t.map λkv=> .tup [dat kv.1,kv.2])else none
noncomputable def Jf3 (x:Option (Rho×Fl)):Option (Rho×Fl):=x.bind λx=>match x.2 with
 | .next=>some (x.1,.next)
 |f=>some (x.1,f)
theorem bdA:(fnAt 2).body=[fst 2 0,fst 2 1,fst 2 2,fst 2 3]:=by kernel_rfl
theorem Ji1:forB (fst 2 1)=[bst (fst 2 1) 0]:=by kernel_rfl
theorem Ji2:forB (fst 2 2)=[bst (fst 2 2) 0]:=by kernel_rfl
section
variable (t s:D) (l:List (Key×D)) (y:Option (D×D))
theorem ad0:step1 L15 sc2 (fst 2 0) [(nm "target",.val t),(nm "source",.val s)]=some (A1 t s [] none,.next):=by kernel_rfl
theorem ad1 (t:List (Key×D)):step1 L15 sc2 (fst 2 1) (A1 (.dct t) s l none)=(J4Z t).bind λits=>loopX (forF L15 sc2 (fst 2 1)) its (A1 (.dct t) s l none):=by kernel_rfl
theorem JhQ (f c:D):forF L15 sc2 (fst 2 1) (.tup [f,c]) (A1 t s l y)=exSs theTop L14 sc2 (forB (fst 2 1)) (A1 t s l (some (f,c))):=by
 rcases y with _|⟨y1,y2⟩<;>kernel_rfl
theorem JhR (f:Int) (c:D):step1 L14 sc2 (bst (fst 2 1) 0) (A1 t s l (some (.int f,c)))=if l.length<=1000000 then some (A1 t s (JY (.i f) c l) (some (.int f,c)),.next)else none:=by kernel_rfl
theorem ad2 (s:List (Key×D)):step1 L15 sc2 (fst 2 2) (A1 t (.dct s) l y)=(J4Z s).bind λits=>loopX (forF L15 sc2 (fst 2 2)) its (A1 t (.dct s) l y):=by
 rcases y with _|⟨y1,y2⟩<;>kernel_rfl
theorem JhS (f c:D):forF L15 sc2 (fst 2 2) (.tup [f,c]) (A1 t s l y)=exSs theTop L14 sc2 (forB (fst 2 2)) (A1 t s l (some (f,c))):=by
 rcases y with _|⟨y1,y2⟩<;>kernel_rfl
theorem JhT (f c:Int):step1 L14 sc2 (bst (fst 2 2) 0) (A1 t s l (some (.int f,.int c)))=if(dget (.i f) l).isSome then Jf3 (Jf3 ((dget (.i f) l).bind λa=>(addI .Add a (.int c)).bind λz=>if l.length<=1000000 then some (A1 t s (JY (.i f) (.int z) l) (some (.int f,.int c)),Fl.next)else none))else Jf3 (if l.length<=1000000 then some (A1 t s (JY (.i f) (.int c) l) (some (.int f,.int c)),.next)else none):=by kernel_rfl
theorem ad3:step1 L15 sc2 (fst 2 3) (A1 t s l y)=some (frzAll [nm "new_callers"] (A1 t s l y),.ret (.dct l)):=by
 rcases y with _|⟨y1,y2⟩<;>kernel_rfl
end
theorem J50 (u:Tb):J4Z (tbD u)=some (u.map λp=> .tup [.int (p.1:Nat),.int (p.2:Nat)]):=by
 unfold J4Z
 rw[ZB,if_pos rfl,List.map_map];rfl
theorem J4K (k c:Nat): ∀{u:Tb},k∉u.map (·.1) ->JY (.i k) (.int (c:Nat)) (tbD u)=tbD (u++[(k,c)])
 |[],_=>rfl
 |(j,d)::r,h=>by
  rw[List.map_cons,List.mem_cons,not_or]at h
  show(if Key.i (j:Nat)= .i (k:Nat)then(Key.i (j:Nat),D.int _)::tbD r else(Key.i (j:Nat),D.int (d:Nat))::JY (.i k) _ (tbD r))=_
  rw[if_neg (J8k λe=>h.1 e.symm),J4K k c h.2];rfl
theorem J0j (k a:Nat): ∀u:Tb,(bump k a u).length<=u.length+1
 |[]=>Nat.le_refl _
 |(j,c)::r=>by
  rw[bump]
  split
  ·exact Nat.le_succ _
  ·have:=J0j k a r
   simp only[List.length_cons];lia
theorem J7F (t s:D): ∀(r acc:Tb) (y:Option (D×D)),((acc++r).map (·.1)).Nodup ->(acc++r).length<=1000 -> ∃y',loopX (forF L15 sc2 (fst 2 1)) (r.map λp=> .tup [.int (p.1:Nat),.int (p.2:Nat)]) (A1 t s (tbD acc) y)=some (A1 t s (tbD (acc++r)) y',.next)
 |[],acc,y,_,_=>⟨y,by rw[List.append_nil];rfl⟩
 |(k,c)::r,acc,y,h,hl=>by
  have e:acc++(k,c)::r=acc++[(k,c)]++r:=by rw[List.append_assoc];rfl
  have hk:k∉acc.map (·.1):=λm=>by
   rw[List.map_append,List.nodup_append]at h
   exact h.2.2 k m k (by simp) rfl
  rw[e]at h hl⊢
  refine o10 (J7F t s r (acc++[(k,c)]) (some (.int (k:Nat),.int (c:Nat))) h hl) λy' hy=>?_
  refine⟨y',J2 (ρ':=A1 t s (tbD (acc++[(k,c)])) (some (.int (k:Nat),.int (c:Nat)))) ?_ hy⟩
  rw[JhQ,Ji1]
  refine J0 ?_ rfl
  rw[JhR,J4K k c hk,if_pos]
  rw[List.length_map]
  simp only[List.length_append,List.length_cons]at hl
  lia
theorem J51 (t s:D): ∀(r acc:Tb) (y:Option (D×D)),(acc.map (·.1)).Nodup ->acc.length+r.length<=1000 -> ∃y',loopX (forF L15 sc2 (fst 2 2)) (r.map λp=> .tup [.int (p.1:Nat),.int (p.2:Nat)]) (A1 t s (tbD acc) y)=some (A1 t s (tbD (addT acc r)) y',.next)
 |[],acc,y,_,_=>⟨y,rfl⟩
 |(k,c)::r,acc,y,h,hl=>by
  have bl:=J0j k c acc
  rw[List.length_cons]at hl
  obtain⟨y',hy⟩:=J51 t s r (bump k c acc) (some (.int (k:Nat),.int (c:Nat))) (Zk k c h) (by lia)
  refine⟨y',J2 (ρ':=A1 t s (tbD (bump k c acc)) (some (.int (k:Nat),.int (c:Nat)))) ?_ hy⟩
  rw[JhS,Ji2]
  refine J0 ?_ rfl
  rw[JhT,J3P h]
  have q:=J7K k c h
  by_cases m:k∈acc.map (·.1)
  ·rw[if_pos m]
   show Jf3 (Jf3 (if(tbD acc).length<=1000000 then some (A1 t s (JY (.i k) (.int (((cnt k acc:Nat):Int)+((c:Nat):Int))) (tbD acc)) (some (.int (k:Nat),.int (c:Nat))),Fl.next)else none))=_
   rw[if_pos (by rw[List.length_map];lia),<-Int.natCast_add,q];rfl
  ·rw[if_neg m,if_neg (by simp),if_pos (by rw[List.length_map];lia)]
   rw[Yh m,Nat.zero_add]at q
   rw[q];rfl
theorem Jce {u v:Tb} (hu:(u.map (·.1)).Nodup) (hl:u.length+v.length<=1000):callF L16 (fnAt 2) [.dct (tbD u),.dct (tbD v)]=some (.dct (tbD (addT u v))):=by
 refine o10 (J7F (.dct (tbD u)) (.dct (tbD v)) u [] none hu (by rw[List.nil_append];lia)) λy1 h1=>?_
 refine o10 (J51 (.dct (tbD u)) (.dct (tbD v)) v u y1 hu hl) λy2 h2=>?_
 refine Jw (ρ:=frzAll [nm "new_callers"] (A1 (.dct (tbD u)) (.dct (tbD v)) (tbD (addT u v)) y2)) (by kernel_rfl) ?_
 show exSs theTop L15 sc2 (fnAt 2).body [(nm "target",.val (.dct (tbD u))),(nm "source",.val (.dct (tbD v)))]=_
 rw[bdA]
 refine J0 (ad0 _ _) (J0 (ρ':=A1 (.dct (tbD u)) (.dct (tbD v)) (tbD u) y1) ?_ (J0 (ρ':=A1 (.dct (tbD u)) (.dct (tbD v)) (tbD (addT u v)) y2) ?_ (J7 (ad3 _ _ _ _))))
 ·rw[ad1,J50];exact h1
 ·rw[ad2,J50];exact h2
noncomputable abbrev sc3:Scope:=(fnAt 3).scope
noncomputable abbrev N1 (t:D) (n:D) (y:Option D):Rho:=(nm "callers",.val t)::(nm "nc",.val n)::match y with|some c=>[(nm "calls",.val c)]|none=>[]
section
variable (m:Nat)
theorem bdN:(fnAt 3).body=[fst 3 0,fst 3 1,fst 3 2]:=by kernel_rfl
theorem nc0 (t:D):step1 (Lc m) sc3 (fst 3 0) [(nm "callers",.val t)]=some (N1 t (.int 0) none,.next):=by kernel_rfl
theorem nc1 (t:List (Key×D)) (n:D):step1 (Lc m) sc3 (fst 3 1) (N1 (.dct t) n none)=loopX (forF (Lc m) sc3 (fst 3 1)) (t.map (·.2)) (N1 (.dct t) n none):=by kernel_rfl
theorem Jis (t:D) (n c:Int) (y:Option D):forF (Lc m) sc3 (fst 3 1) (.int c) (N1 t (.int n) y)=some (N1 t (.int (n+c)) (some (.int c)),.next):=by
 rcases y with _|y<;>kernel_rfl
theorem nc2 (t n:D) (y:Option D):step1 (Lc m) sc3 (fst 3 2) (N1 t n y)=some (N1 t n y,.ret n):=by
 rcases y with _|y<;>kernel_rfl
theorem J4G (t:D): ∀(r:Tb) (n:Nat) (y:Option D),∃y',loopX (forF (Lc m) sc3 (fst 3 1)) (r.map λp=> .int (p.2:Nat)) (N1 t (.int (n:Nat)) y)=some (N1 t (.int ((n+tot r:Nat):Int)) y',.next)
 |[],n,y=>⟨y,rfl⟩
 |(k,c)::r,n,y=>by
  obtain⟨y',h⟩:=J4G t r (n+c) (some (.int (c:Nat)))
  refine⟨y',J2 (Jis m t n c y) ?_⟩
  rw[<-Int.natCast_add,show n+tot ((k,c)::r)=n+c+tot r from(Nat.add_assoc n c (tot r)).symm]
  exact h
theorem Ja9 (u:Tb):callF (level theTop (m+5)) (fnAt 3) [.dct (tbD u)]=some (.int (tot u:Nat)):=by
 refine o10 (J4G m (.dct (tbD u)) u 0 none) λy h=>?_
 rw[Nat.zero_add]at h
 refine Jw (ρ:=N1 (.dct (tbD u)) (.int (tot u:Nat)) y) (by kernel_rfl) ?_
 show exSs theTop (Lc m) sc3 (fnAt 3).body [(nm "callers",.val (.dct (tbD u)))]=_
 rw[bdN]
 refine J0 (nc0 m _) (J0 ?_ (J7 (nc2 m _ _ y)))
 rw[nc1,List.map_map]
 exact h
end
noncomputable abbrev Yt (x:Nat×Nat×Nat):Nat:=x.1+x.2.1+x.2.2
noncomputable def wordsX (x:Nat×Nat×Nat):List (List Nat):=YA (cts x.1 x.2.1 x.2.2) (Yt x-1)
noncomputable def turn (w:List Nat) (k:Nat):List Nat:=w.drop k++w.take k
noncomputable def JZ (w:List Nat):Nat:=((List.range' 1 w.length).find? λk=>turn w k==w).getD 0
noncomputable def turnsL (w:List Nat):List (List Nat):=(List.range (JZ w)).map (turn w)
noncomputable def leW:List Nat ->List Nat ->Bool
 |a::r,b::s=>Nat.blt a b||(Nat.beq a b&&leW r s)
 |_,_=>true
noncomputable def isMax (w:List Nat):Bool:=(turnsL w).all λt=>leW t w
theorem J9A (s:Str):J9z (.str s)=((((binD .Add (.str s) (.str s)).bind λd=>(match d with| .obj _=>none|d=>JdL d (nm "index") [.str s,.int 1]))).bind rgD).bind λits=>((J6 (clF L17 (JU (rb 0)) [(nm "word",.val (.str s))]) its).bind YK).map .lst:=by kernel_rfl
theorem JcV (s:Str) (k:D):clF L17 (JU (rb 0)) [(nm "word",.val (.str s))] k=((JL (.str s) (some k) none).bind λa=>(JL (.str s) none (some k)).bind λb=>binD .Add a b).map λd=>[d]:=by kernel_rfl
theorem Jeb (a b c d e f:Nat) {k:Nat} (h:k<6):JL (wD [a,b,c,d,e,f]) (some (.int k)) none=some (wD ([a,b,c,d,e,f].drop k))/\ JL (wD [a,b,c,d,e,f]) none (some (.int k))=some (wD ([a,b,c,d,e,f].take k)):=by
 have:k=0∨k=1∨k=2∨k=3∨k=4∨k=5:=dj6 (by omega)
 clear h;rcases this with rfl|rfl|rfl|rfl|rfl|rfl<;>exact⟨by kernel_rfl,by kernel_rfl⟩
theorem Jea (a b c d e:Nat) {k:Nat} (h:k<5):JL (wD [a,b,c,d,e]) (some (.int k)) none=some (wD ([a,b,c,d,e].drop k))/\ JL (wD [a,b,c,d,e]) none (some (.int k))=some (wD ([a,b,c,d,e].take k)):=by
 have:k=0∨k=1∨k=2∨k=3∨k=4:=dj5 (by omega)
 clear h;rcases this with rfl|rfl|rfl|rfl|rfl<;>exact⟨by kernel_rfl,by kernel_rfl⟩
theorem JdG {w:List Nat} (h:w.length=5): ∃a b c d e,w=[a,b,c,d,e]:=match w,h with
 |[a,b,c,d,e],_=>⟨a,b,c,d,e,rfl⟩
theorem JdH {w:List Nat} (h:w.length=6): ∃a b c d e f,w=[a,b,c,d,e,f]:=match w,h with
 |[a,b,c,d,e,f],_=>⟨a,b,c,d,e,f,rfl⟩
theorem J9e {w:List Nat} (hl:w.length=5∨w.length=6) {k:Nat} (h:k<w.length):JL (wD w) (some (.int k)) none=some (wD (w.drop k))/\ JL (wD w) none (some (.int k))=some (wD (w.take k)):=by
 rcases hl with q|q
 ·refine o50 (JdG q) λa b c d e q1=>?_;clear q;subst q1
  exact Jea a b c d e h
 ·refine o60 (JdH q) λa b c d e f q2=>?_;clear q;subst q2
  exact Jeb a b c d e f h
theorem Jcf (w v:List Nat) (h:w.length+v.length<=1000):binD .Add (wD w) (wD v)=some (wD (w++v)):=by
 show(if(⟨w.toArray⟩:Str).length+(⟨v.toArray⟩:Str).length<=100000 then some (D.str (⟨w.toArray⟩++⟨v.toArray⟩))else none)=_
 rw[Yc,Yc,if_pos (by lia)]
 have e3:(⟨w.toArray⟩:Str)++⟨v.toArray⟩=⟨(w++v).toArray⟩:=by
  show Str.mk (w.toArray++v.toArray)=_
  simp
 rw[e3]
theorem J5S {w:List Nat} (hl:w.length=5∨w.length=6) {k:Nat} (h:k<w.length):clF L17 (JU (rb 0)) [(nm "word",.val (wD w))] (.int k)=some [wD (turn w k)]:=by
 rw[JcV,(J9e hl h).1,(J9e hl h).2]
 simp only[Option.bind_some]
 rw[Jcf _ _ (by rw[List.length_drop,List.length_take];omega)]
 rfl
theorem Zg {m:Nat} (h:m<=1000):rgD (.int m)=some ((List.range m).map λ(k:Nat)=> .int k):=by
 show Jn 0 m 1=_
 unfold Jn
 have e2:Builtin.Range.rangeSize 0 (m:Int) 1=m:=by
  unfold Builtin.Range.rangeSize
  rw[if_pos (by lia)]
  split<;>lia
 have e1:Builtin.Range.small 0 (m:Int) 1=true:=by
  unfold Builtin.Range.small
  rw[e2]
  have f: ∀x:Int,0<=x ->x<=1000 ->Builtin.Range.rangeFitsLong x=true:=λx h1 h2=>by
   unfold Builtin.Range.rangeFitsLong
   rw[decide_eq_true (by lia),decide_eq_true (by lia)];rfl
  rw[f 0 (by lia) (by lia),f m (by lia) (by lia),f 1 (by lia) (by lia),if_pos (by lia),f _ (by lia) (by lia),Bool.or_true];rfl
 rw[e1,e2,decide_eq_true (by lia)]
 simp
theorem JdK:JH.map (λx=>(wordsX x).map λw=>(J4 (nm "max") [.lst ((turnsL w).map wD)]).bind λm=>Kj .NotEq (wD w) m)=JH.map λx=>(wordsX x).map λw=>some (!isMax w):=by kernel_rfl
theorem JbK:JH.map (λx=>(wordsX x).map λw=>rgbC.map λc=>J4r w [c] [])=JH.map λx=>(wordsX x).map λw=>rgbC.map λc=>w.filter (· !=c):=by kernel_rfl
noncomputable def J55:List (List Nat) ->Bool
 |[]=>true
 |a::r=>!r.contains a&&J55 r
theorem Jbc {l:List (List Nat)} (h:J55 l=true):l.Nodup:=by
 induction l with
 |nil=>exact List.nodup_nil
 |cons a r ih=>
  have h:(!r.contains a&&J55 r)=true:=h
  rw[Bool.and_eq_true,Bool.not_eq_true']at h
  exact List.nodup_cons.mpr ⟨λm=>Bool.noConfusion (h.1.symm.trans (List.contains_iff_mem.mpr m)),ih h.2⟩
noncomputable def okW (n:Nat) (w:List Nat):Bool:=Nat.beq w.length n&&w.all (rgbC.contains ·)&&Nat.blt 0 (JZ w)&&Nat.ble (JZ w) n&&J55 (turnsL w)&&(J3s (w++w) w (n+n) 1 (List.range' 1 (n+n)) 0 1==[JZ w])&&(Nat.beq n 5||Nat.beq n 6)
theorem JdW:(JH.all λx=>(wordsX x).all (okW (Yt x)))=true:=by kernel_rfl
structure IsW (n:Nat) (w:List Nat):Prop where
 len:w.length=n
 rgb: ∀c∈w,c∈rgbC
 pos:0<JZ w
 le:JZ w<=n
 nd:(turnsL w).Nodup
 oc:J3s (w++w) w (n+n) 1 (List.range' 1 (n+n)) 0 1=[JZ w]
 n56:n=5∨n=6
theorem ZU {x:Nat×Nat×Nat} (hx:x∈JH) {w:List Nat} (hw:w∈wordsX x):IsW (Yt x) w:=by
 have h:okW (Yt x) w=true:=List.all_eq_true.mp (List.all_eq_true.mp JdW x hx) w hw
 unfold okW at h
 simp only[Bool.and_eq_true,Bool.or_eq_true]at h
 obtain⟨⟨⟨⟨⟨⟨h1,h2⟩,h3⟩,h4⟩,h5⟩,h6⟩,h7⟩:=h
 exact⟨Nat.eq_of_beq_eq_true h1,λc hc=>List.contains_iff_mem.mp (List.all_eq_true.mp h2 c hc),Nat.le_of_ble_eq_true h3,Nat.le_of_ble_eq_true h4,Jbc h5,beq_iff_eq.mp h6,h7.imp Nat.eq_of_beq_eq_true Nat.eq_of_beq_eq_true⟩
theorem Jo {α β:Type} {f:D ->Option (List α)} (i:β ->D) (g:β ->α): ∀{l:List β},(∀d∈l,f (i d)=some [g d]) ->J6 f (l.map i)=some (l.map g):=by
 intro l h
 induction l with
 |nil=>rfl
 |cons d l ih=>exact gC (h d List.mem_cons_self) (ih λx hx=>h x (List.mem_cons_of_mem _ hx))
theorem YL {α:Type} {l:List α} (h:l.length<=1000000):YK l=some l:=if_pos h
theorem J5D {n:Nat} {w:List Nat} (h:IsW n w):J9z (wD w)=some (.lst ((turnsL w).map wD)):=by
 have hn:=h.n56
 have hl:w.length=5∨w.length=6:=by rw[h.len];exact hn
 rw[J9A,Jcf w w (by lia)]
 have e:J1I (sD (w++w)) [wD w,.int 1]=some (.int (JZ w:Nat)):=by
  show(match Builtin.Str.occurrences (sD (w++w)) (sD w) (fromIndex (sD (w++w)).length 1) (sD (w++w)).length 1 with|i::_=>some (D.int (i:Nat))|[]=>none)=_
  have e1:fromIndex (n+n) 1=1:=by clear h;rcases hn with rfl|rfl<;>rfl
  rw[Yc,List.length_append,h.len,e1,JdV,Nat.add_sub_cancel,h.oc]
 show(((J1I (sD (w++w)) [wD w,.int 1]).bind rgD).bind λits=>((J6 (clF L17 (JU (rb 0)) [(nm "word",.val (wD w))]) its).bind YK).map D.lst)=_
 have hp:=h.le
 rw[e,Option.bind_some,Zg (by lia),Option.bind_some,Jo (λ(k:Nat)=>D.int k) (λk=>wD (turn w k)) λk hk=>J5S hl (by rw[h.len];have:=List.mem_range.mp hk;lia),Option.bind_some,YL (by rw[List.length_map,List.length_range];lia)]
 unfold turnsL
 rw[List.map_map];rfl
theorem Jcu {x:Nat×Nat×Nat} (hx:x∈JH) {w:List Nat} (hw:w∈wordsX x):((J4 (nm "max") [.lst ((turnsL w).map wD)]).bind λm=>Kj .NotEq (wD w) m)=some (!isMax w):=List.map_inj_left.mp (List.map_inj_left.mp JdK x hx) w hw
theorem Je7 {x:Nat×Nat×Nat} (hx:x∈JH) {w:List Nat} (hw:w∈wordsX x) {c:Nat} (hc:c∈rgbC):J4r w [c] []=w.filter (· !=c):=List.map_inj_left.mp (List.map_inj_left.mp (List.map_inj_left.mp JbK x hx) w hw) c hc
noncomputable def rkC (rk:List Nat) (c:Nat):Nat:=rk.getD (if c==114 then 0 else if c==103 then 1 else 2) 0
noncomputable def Jc (rk:List Nat) (a b:Nat):Bool:=Nat.blt (rkC rk b) (rkC rk a)
theorem Jaz:sixR.map (λrk=>rgbC.map λa=>rgbC.map λb=>dget (.s (sD [a,b])) (JM rk))=sixR.map λrk=>rgbC.map λa=>rgbC.map λb=>some (.bool (Jc rk a b)):=by kernel_rfl
theorem JbJ:sixR.map (λrk=>rgbC.map λa=>dget (.s (sD [a])) (J0Q rk))=sixR.map λrk=>rgbC.map λa=>some (.int (rkC rk a:Nat)):=by kernel_rfl
section
variable {rk:List Nat} (hr:rk∈sixR)
include hr
theorem J7P {a b:Nat} (ha:a∈rgbC) (hb:b∈rgbC):dget (.s (sD [a,b])) (JM rk)=some (.bool (Jc rk a b)):=List.map_inj_left.mp (List.map_inj_left.mp (List.map_inj_left.mp Jaz rk hr) a ha) b hb
theorem Je6 {a:Nat} (ha:a∈rgbC):dget (.s (sD [a])) (J0Q rk)=some (.int (rkC rk a:Nat)):=List.map_inj_left.mp (List.map_inj_left.mp JbJ rk hr) a ha
end
theorem VZ {acc x:Int} {r:List D} (h1: -(2^60)<x/\ x<2^60) (h2: -(2^60)<acc+x/\ acc+x<2^60) {d:D} (hd:J6z d=some x):J5A acc (d::r)=J5A (acc+x) r:=by
 have f: ∀x:Int,-(2^60)<x/\ x<2^60 ->J4M x=true:=λx hx=>by unfold J4M;rw[decide_eq_true (by lia),decide_eq_true (by lia)];rfl
 show((J6z d).bind λx=>if(J4M x&&J4M (acc+x))=true then J5A (acc+x) r else none)=_
 (rw[hd];dsimp only[Option.bind_some];rw[f _ h1,f _ h2]);rfl
theorem J3d: ∀(l:List Nat) (acc:Nat),acc+l.sum<=1000000 ->J5A (acc:Int) (l.map λ(k:Nat)=> .int k)=some ((acc+l.sum:Nat):Int)
 |[],acc,_=>rfl
 |k::l,acc,h=>by
  rw[List.sum_cons]at h
  rw[List.map_cons,VZ (x:=(k:Int)) (by omega) (by omega) rfl,<-Int.natCast_add,J3d l (acc+k) (by omega),List.sum_cons,Nat.add_assoc]
theorem J0g: ∀(l:List Bool) (acc:Nat),acc+l.length<=1000000 ->J5A (acc:Int) (l.map .bool)=some ((acc+l.count true:Nat):Int)
 |[],acc,_=>rfl
 |k::l,acc,h=>by
  rw[List.length_cons]at h
  have e: ∀b:Bool,J6z (.bool b)=some (((if b then 1 else 0:Nat)):Int):=λb=>by cases b<;>rfl
  rw[List.map_cons,VZ (x:=((if k then 1 else 0:Nat):Int)) (by cases k<;>simp) (by cases k<;>simp<;>lia) (e k),<-Int.natCast_add,J0g l _ (by cases k<;>simp<;>lia)]
  cases k<;>simp<;>lia
theorem J4x (l:List D):J4 (nm "sum") [.lst l]=(J5A 0 l).map .int:=by kernel_rfl
theorem JbX {l:List Nat} (h:l.sum<=1000000):J4 (nm "sum") [.lst (l.map λ(k:Nat)=> .int k)]=some (.int (l.sum:Nat)):=by
 rw[J4x,show(0:Int)=((0:Nat):Int)from rfl,J3d l 0 (by lia),Nat.zero_add];rfl
theorem J9m {l:List Bool} (h:l.length<=1000000):J4 (nm "sum") [.lst (l.map .bool)]=some (.int (l.count true:Nat)):=by
 rw[J4x,show(0:Int)=((0:Nat):Int)from rfl,J0g l 0 (by lia),Nat.zero_add];rfl
noncomputable abbrev JhJ:Scope:=(fnAt 16).scope
theorem bdR:(fnAt 16).body=[fst 16 0]:=by kernel_rfl
noncomputable abbrev J95:Expr:=J7e (JU (fst 16 0))
theorem rd0 (m:Nat) (s:Str) (fl:D):step1 (level theTop (m+7)) JhJ (fst 16 0) [(nm "word",.val (.str s)),(nm "fall",.val fl)]=(((((((J4 (nm "len") [.str s]).bind rgD).bind λits=>((J6 (clF (level theTop (m+5)) J95 [(nm "fall",.val fl),(nm "word",.val (.str s))]) its).bind YK).map .lst).bind λd=>some [d]).bind (J4 (nm "sum")))).map λd=>([(nm "word",.val (.str s)),(nm "fall",.val fl)],.ret d)):=by kernel_rfl
theorem Jai (m:Nat) (s:Str) (f:List (Key×D)) (k:Int):clF (level theTop (m+5)) J95 [(nm "fall",.val (.dct f)),(nm "word",.val (.str s))] (.int k)=((((itemD (.str s) (.int (k-1))).bind λa=>(itemD (.str s) (.int k)).bind λb=>binD .Add a b).bind λc=>itemD (.dct f) c)).map λd=>[d]:=by kernel_rfl
theorem Jcr {l:List Nat} {k:Nat} (h:k<l.length) (hl:l.length<=1000):itemD (wD l) (.int k)=some (lD (l.getD k 0)):=by
 show(idx (sD l).length (k:Int)).bind _=_
 rw[Yc,J1H h hl]
 show((l.toArray)[k]?).map _=_
 simp[h]
theorem J8f {l:List Nat} (h:0<l.length) (hl:l.length<=1000):itemD (wD l) (.int (-1))=some (lD (l.getD (l.length-1) 0)):=by
 have e:idx l.length (-1)=some (l.length-1):=by
  unfold idx
  rw[if_pos (by lia)]
  unfold seqIndex?
  simp
  lia
 show(idx (sD l).length (-1)).bind _=_
 rw[Yc,e]
 show((l.toArray)[l.length-1]?).map _=_
 have q:l.length-1<l.length:=by lia
 simp[List.getElem?_eq_getElem q]
noncomputable def J30 (rk:List Nat) (l:List Nat):List Bool:=(List.range l.length).map λk=>Jc rk (l.getD (if k=0 then l.length-1 else k-1) 0) (l.getD k 0)
noncomputable def J0d (rk:List Nat) (l:List Nat):Nat:=(J30 rk l).count true
theorem len_str (l:List Nat) (h:l.length<=1000):J4 (nm "len") [wD l]=some (.int (l.length:Nat)):=by
 have e: ∀s:Str,J4 (nm "len") [.str s]=if s.length<=1000000 then some (.int s.length)else none:=λs=>by kernel_rfl
 rw[e,Yc,if_pos (by lia)]
theorem J5u (m:Nat) {rk:List Nat} (hr:rk∈sixR) {l:List Nat} (hc: ∀c∈l,c∈rgbC) (hl:l.length<=12):callF (level theTop (m+8)) (fnAt 16) [wD l,.dct (JM rk)]=some (.int (J0d rk l:Nat)):=by
 refine Jw (ρ:=[(nm "word",.val (wD l)),(nm "fall",.val (.dct (JM rk)))]) (by kernel_rfl) ?_
 show exSs theTop (level theTop (m+7)) JhJ (fnAt 16).body [(nm "word",.val (wD l)),(nm "fall",.val (.dct (JM rk)))]=_
 rw[bdR]
 refine J7 ?_
 have at_: ∀{k:Nat},k<l.length ->l.getD k 0∈rgbC:=λ{k} h=>by
  rw[List.getD_eq_getElem?_getD,List.getElem?_eq_getElem h]
  exact hc _ (List.getElem_mem h)
 have g:J6 (clF (level theTop (m+5)) J95 [(nm "fall",.val (.dct (JM rk))),(nm "word",.val (wD l))]) ((List.range l.length).map λ(k:Nat)=> .int k)=some ((List.range l.length).map λk=> .bool (Jc rk (l.getD (if k=0 then l.length-1 else k-1) 0) (l.getD k 0))):=Jo _ _ λk hk=>by
  have hk:=List.mem_range.mp hk
  rw[Jai,Jcr hk (by lia)]
  have e:itemD (wD l) (.int ((k:Int)-1))=some (lD (l.getD (if k=0 then l.length-1 else k-1) 0)):=by
   cases k with
   |zero=>exact J8f hk (by lia)
   |succ k=>rw[show((k+1:Nat):Int)-1=(k:Int) by lia,Jcr (by lia) (by lia)];rfl
  have hp:(if k=0 then l.length-1 else k-1)<l.length:=by split<;>lia
  rw[e,Option.bind_some,Option.bind_some,show(binD .Add (lD (l.getD (if k=0 then l.length-1 else k-1) 0)) (lD (l.getD k 0)))=some (wD [l.getD (if k=0 then l.length-1 else k-1) 0,l.getD k 0])from JcE [_] _ (by simp)]
  show(dget (.s (sD [_,_])) (JM rk)).map _=_
  rw[J7P hr (at_ hp) (at_ hk)];rfl
 rw[rd0,len_str l (by lia),Option.bind_some,Zg (by lia),Option.bind_some,g,Option.bind_some,YL (by rw[List.length_map,List.length_range];lia),Option.map_some,Option.bind_some,Option.bind_some]
 have e:((List.range l.length).map λk=>D.bool (Jc rk (l.getD (if k=0 then l.length-1 else k-1) 0) (l.getD k 0)))=(J30 rk l).map .bool:=by unfold J30;rw[List.map_map];rfl
 rw[e,J9m (by unfold J30;rw[List.length_map,List.length_range];lia)];rfl
theorem Jdw (s t:Str) (fl:D):JaY (.str s) fl (.str t)=((callF (level theTop 15) (fnAt 16) [.str s,fl]).bind λa=>binD .Mult (.int 10) a).bind λx=>(((ZE s [.str t,wD []]).bind λv=>some [v,fl]).bind λas=>callF (level theTop 16) (fnAt 16) as).bind λy=>binD .Add x y:=by kernel_rfl
theorem Jb0 (ts:List D) (r:D):J8s (.lst ts) r=((J6 (clF L17 (JU (rb 3)) [(nm "rank",.val r)]) ts).bind YK).map .lst:=by kernel_rfl
noncomputable abbrev Jfn:Expr:=J7e (J4b (JU (rb 3)))
theorem JcS (s:Str) (r:D):clF L17 (JU (rb 3)) [(nm "rank",.val r)] (.str s)=((((((J6 (clF L15 Jfn [(nm "rank",.val r)]) (chars s)).bind YK).map .lst).bind λd=>some [d]).bind (J4 (nm "tuple")))).map λd=>[d]:=by kernel_rfl
theorem JcT (c:Nat) (r:List (Key×D)):clF L15 Jfn [(nm "rank",.val (.dct r))] (lD c)=(dget (.s (sD [c])) r).map λd=>[d]:=by kernel_rfl
theorem Jao (ls wt:List D):J7B (.lst ls) (.lst wt)=((J6 (clF L17 (JU (rb 4)) [(nm "weights",.val (.lst wt))]) ls).bind YK).map .lst:=by kernel_rfl
noncomputable abbrev JeQ:Expr:=J7e (J4b (JU (rb 4)))
theorem JcQ (l:D) (wt:List D):clF L17 (JU (rb 4)) [(nm "weights",.val (.lst wt))] l=(((((J6 (clF L15 JeQ [(nm "line",.val l)]) wt).bind YK).map .lst).bind λd=>some [d]).bind (J4 (nm "sum"))).map λd=>[d]:=by kernel_rfl
theorem JcU (l:D) (k w:Int):clF L15 JeQ [(nm "line",.val l)] (pairI (k,w))=((itemD l (.int k)).bind λx=>binD .Mult (.int w) x).map λd=>[d]:=by kernel_rfl
noncomputable abbrev L13:Lv:=level theTop 13
noncomputable def JiA:Expr ->Expr
 | .BinOp _ _ r _=>r
 |e=>e
noncomputable def Jio:Expr ->Expr
 | .BinOp l _ _ _=>l
 |e=>e
noncomputable abbrev Jf2:Expr:=J7e (Jio (JiA (JU (sb 0))))
theorem Jfd (ki tn fl:D) (n:Int):JgO ki (.int n) tn fl=(binD .Mult (.int 100) ki).bind λa=>((((((((rgD (.int (n-1)))).bind λits=>((J6 (clF L13 Jf2 [(nm "fall",.val fl),(nm "turn",.val tn)]) its).bind YK).map .lst).bind λd=>some [d])).bind (J4 (nm "sum")))).bind λs=>binD .Mod s (.int n)).bind λb=>binD .Add a b:=by kernel_rfl
theorem JcR (tn:Str) (fl:List (Key×D)) (k:Int):clF L13 Jf2 [(nm "fall",.val (.dct fl)),(nm "turn",.val (.str tn))] (.int k)=((((JL (.str tn) (some (.int k)) (some (.int (k+2)))).bind λx=>itemD (.dct fl) x).bind truthy).bind λt=>if t then some true else some false).bind λt=>if t then some [.int (k+1)]else some []:=by kernel_rfl
theorem Jdu (ki a:D) (n:Int) (ts:List D):Jdt ki (.int n) (.lst ts) a=(binD .Mult (.int 100) ki).bind λx=>((((J4 (nm "len") [.lst ts]).bind λm=>binD .FloorDiv (.int n) m).bind λq=>binD .Mult q a).bind λp=>binD .Mod p (.int n)).bind λy=>binD .Add x y:=by kernel_rfl
theorem Jd5 (a b:D):Jd4 (.lst [a,b])=((J6 (λd=>(J4 (nm "dict") [d]).map λd=>[d]) [a,b]).bind YK).map .lst:=by kernel_rfl
theorem JdR (t:Int) (co o w:D):JdQ (.int t) co o w=((((((((itemD co o).bind λx=>(itemD co w).bind λy=>Kj .Gt x y).map .bool).bind λa=>(((itemD co o).bind λx=>(itemD co w).bind λy=>Kj .Lt x y).map .bool).bind λb=>binD .Sub a b).bind λd=>some [d,.bool false]).map .lst).bind λd=>some [d]).bind λds=>some (.lst [.int t,.bool false]::ds)).map .tup:=by kernel_rfl
noncomputable def YX (rk w:List Nat):Nat:=10*J0d rk w+J0d rk (w.filter (· !=KD rk))
theorem Jek (rk:List Nat):KD rk∈rgbC:=by unfold KD;split<;>(try split)<;>simp[rgbC]
theorem J0L {a b:Nat} (h:a<10000):binD .Mult (.int (a:Nat)) (.int (b:Nat))=some (.int ((a*b:Nat):Int)):=by
 rw[YZ (by omega),Int.natCast_mul]
theorem Jdx {x:Nat×Nat×Nat} (hx:x∈JH) {w:List Nat} (hw:w∈wordsX x) {rk:List Nat} (hr:rk∈sixR):JaY (wD w) (.dct (JM rk)) (lD (KD rk))=some (.int (YX rk w:Nat)):=by
 have W:=ZU hx hw
 have hl:w.length<=6:=by rw[W.len];rcases W.n56 with h|h<;>lia
 have e:ZE (sD w) [lD (KD rk),wD []]=some (wD (w.filter (· !=KD rk))):=by
  have q: ∀c:Nat,(J9U c==sD [])=false:=λc=>by
   rw[beq_eq_false_iff_ne]
   intro h
   have:=congrArg Str.length h
   rw[Yc]at this
   cases this
  show(if(J9U (KD rk)==sD [])=true then none else if(sD w).length<=1000&&(sD []).length<=10 then some (D.str (Txt.replace (sD w) (sD [KD rk]) (sD [])))else none)=_
  rw[q,if_neg (by simp),Yc,Yc,if_pos (by simp;lia),Jcy _ _ _ (by simp),Je7 hx hw (Jek rk)]
 rw[Jdw,e,J5u 7 hr W.rgb (by lia)]
 simp only[Option.bind_some]
 rw[J5u 8 hr (λc hc=>W.rgb c (List.mem_filter.mp hc).1) (Nat.le_trans (List.length_filter_le _ _) (by lia))]
 show((binD .Mult (.int (10:Nat)) (.int (J0d rk w:Nat)))).bind _=_
 rw[J0L (by lia)]
 rfl
noncomputable abbrev Km (l:List Nat):D:= .tup (l.map λ(k:Nat)=> .int k)
theorem J9w (l:List D) (h:l.length<=1000000):J4 (nm "tuple") [.lst l]=some (.tup l):=by
 have e:J4 (nm "tuple") [.lst l]=if l.length<=1000000 then some (.tup l)else none:=by kernel_rfl
 rw[e,if_pos h]
theorem Jb1 {rk:List Nat} (hr:rk∈sixR) {ts:List (List Nat)} (ht: ∀t∈ts,t.length<=12/\ ∀c∈t,c∈rgbC) (hl:ts.length<=12):J8s (.lst (ts.map wD)) (.dct (J0Q rk))=some (.lst (ts.map λt=>Km (t.map (rkC rk)))):=by
 rw[Jb0,Jo wD (λt=>Km (t.map (rkC rk))) λt h=>by
  obtain⟨h1,h2⟩:=ht t h
  rw[JcS,J7w,Jo lD (λc=> .int (rkC rk c:Nat)) λc hc=>by rw[JcT,Je6 hr (h2 c hc)];rfl]
  (dsimp only[Option.bind_some,Option.map_some];rw[YL (by rw[List.length_map];lia)];dsimp only[Option.bind_some,Option.map_some];rw[J9w _ (by rw[List.length_map];lia)])
  show some [D.tup (t.map _)]=some [D.tup ((t.map (rkC rk)).map _)]
  rw[List.map_map];rfl]
 (dsimp only[Option.bind_some];rw[YL (by rw[List.length_map];lia)]);rfl
noncomputable def codeI (wt:List (Int×Int)) (l:List Nat):Int:=(wt.map λp=>p.2*((l.getD p.1.toNat 0:Nat):Int)).sum
theorem J9k (l:List Int): ∀acc:Int,(∀x∈l,-1000000<x/\ x<1000000) -> -1000000000000+(l.length:Int)*1000000<acc ->acc<1000000000000-(l.length:Int)*1000000 ->J5A acc (l.map .int)=some (acc+l.sum):=by
 induction l with
 |nil=>intro acc _ _ _;show some acc=some (acc+0);rw[Int.add_zero]
 |cons k l ih=>
  intro acc h h1 h2
  have hk:=h k List.mem_cons_self
  rw[List.length_cons]at h1 h2
  have e:((l.length+1:Nat):Int)=(l.length:Int)+1:=by lia
  rw[e]at h1 h2
  rw[List.map_cons,VZ (x:=k) (by lia) (by lia) rfl,ih (acc+k) (λx hx=>h x (List.mem_cons_of_mem _ hx)) (by lia) (by lia),List.sum_cons,Int.add_assoc]
theorem J0I {l:List Nat} {k:Nat} (h:k<l.length) (hl:l.length<=1000):itemD (Km l) (.int k)=some (.int (l.getD k 0:Nat)):=by
 show(idx (l.map _).length (k:Int)).bind _=_
 rw[List.length_map,J1H h hl]
 show((l.map _)[k]?)=_
 simp[h]
noncomputable def Jhk (n:Nat) (wt:List (Int×Int)):Prop:=wt.length<=12/\ ∀p∈wt,∃j:Nat,p.1=j/\ j<n/\ -65536<p.2/\ p.2<65536
theorem Jap {n:Nat} (hn:n<=12) {wt:List (Int×Int)} (hw:Jhk n wt) {ls:List (List Nat)} (hl: ∀l∈ls,l.length=n/\ ∀x∈l,x<=2) (hk:ls.length<=12):J7B (.lst (ls.map Km)) (.lst (wt.map pairI))=some (.lst ((ls.map (codeI wt)).map .int)):=by
 rw[Jao,Jo Km (λl=> .int (codeI wt l)) λl h=>by
  refine o01 (hl l h) λh1 h2=>?_
  have at2: ∀j:Nat,l.getD j 0<=2:=λj=>by
   rw[List.getD_eq_getElem?_getD]
   by_cases q:j<l.length
   ·rw[List.getElem?_eq_getElem q];exact h2 _ (List.getElem_mem q)
   ·rw[List.getElem?_eq_none (by lia)];exact Nat.zero_le _
  rw[JcQ,Jo pairI (λp=> .int (p.2*((l.getD p.1.toNat 0:Nat):Int))) λp hp=>by
   refine o13 (hw.2 p hp) λj e1 e2 e3 e4=>?_
   obtain⟨k,w⟩:=p
   dsimp only at e1 e3 e4
   clear hp;subst e1
   rw[JcU,J0I (by lia) (by lia),Option.bind_some,YZ (by lia)];rfl]
  (dsimp only[Option.bind_some,Option.map_some];rw[YL (by rw[List.length_map];have:=hw.1;lia)];dsimp only[Option.bind_some,Option.map_some];rw[J4x])
  rw[show(wt.map λp=>D.int (p.2*((l.getD p.1.toNat 0:Nat):Int)))=(wt.map λp=>p.2*((l.getD p.1.toNat 0:Nat):Int)).map D.int by rw[List.map_map];rfl]
  have hw1:=hw.1
  rw[J9k _ 0 (λx hx=>by
   refine o11 (List.mem_map.mp hx) λp hp q1=>?_;subst q1
   refine o13 (hw.2 p hp) λj e1 e2 e3 e4=>?_
   have a2:=at2 p.1.toNat
   generalize l.getD p.1.toNat 0=y at*
   have:y=0∨y=1∨y=2:=dj3 (by lia)
   clear hx a2;rcases this with rfl|rfl|rfl<;>lia) (by rw[List.length_map];lia) (by rw[List.length_map];lia),Int.zero_add];rfl]
 (dsimp only[Option.bind_some];rw[YL (by rw[List.length_map];lia),List.map_map]);rfl
theorem JfO {t:List Nat} (hl:t.length=5∨t.length=6) {k:Nat} (h:k+1<t.length):JL (wD t) (some (.int k)) (some (.int ((k:Int)+2)))=some (wD [t.getD k 0,t.getD (k+1) 0]):=by
 have:k=0∨k=1∨k=2∨k=3∨k=4:=dj5 (by omega)
 rcases hl with q|q
 ·refine o50 (JdG q) λa b c d e q1=>?_;clear q;subst q1
  rcases this with rfl|rfl|rfl|rfl|rfl<;>first|(simp at h;done)|kernel_rfl
 ·refine o60 (JdH q) λa b c d e f q2=>?_;clear q;subst q2
  clear h;rcases this with rfl|rfl|rfl|rfl|rfl<;>kernel_rfl
theorem J3Y {α β:Type} {f:D ->Option (List α)} (i:β ->D) (g:β ->List α): ∀{l:List β},(∀d∈l,f (i d)=some (g d)) ->J6 f (l.map i)=some (l.flatMap g):=by
 intro l h
 induction l with
 |nil=>rfl
 |cons d l ih=>exact gC (h d List.mem_cons_self) (ih λx hx=>h x (List.mem_cons_of_mem _ hx))
noncomputable def KR (rk t:List Nat):List Nat:=(List.range (t.length-1)).flatMap λk=>if Jc rk (t.getD k 0) (t.getD (k+1) 0)then[k+1]else[]
noncomputable def JaW (rk t:List Nat) (ki n:Nat):Nat:=100*ki+(KR rk t).sum%n
theorem J8B {a n:Nat} (h:0<n):binD .Mod (.int (a:Nat)) (.int (n:Nat))=some (.int ((a%n:Nat):Int)):=by
 have hne:(((n:Nat):Int)==0)=false:=by rw[beq_eq_false_iff_ne];lia
 show(if(((n:Nat):Int)==0)=true then none else some (D.int ((a:Int).fmod (n:Int))))=_
 rw[hne,Int.fmod_eq_emod_of_nonneg _ (by lia)];rfl
theorem Jfe {n:Nat} (hn:n=5∨n=6) {rk:List Nat} (hr:rk∈sixR) {t:List Nat} (hc: ∀c∈t,c∈rgbC) (hl:t.length=n) (ki:Nat):JgO (.int ki) (.int n) (wD t) (.dct (JM rk))=some (.int (JaW rk t ki n:Nat)):=by
 have at_: ∀{k:Nat},k<t.length ->t.getD k 0∈rgbC:=λ{k} h=>by
  rw[List.getD_eq_getElem?_getD,List.getElem?_eq_getElem h]
  exact hc _ (List.getElem_mem h)
 have e1:(n:Int)-1=((t.length-1:Nat):Int):=by lia
 have bnd:(KR rk t).sum<=1000:=by
  have:t.length-1<=5:=by lia
  unfold KR
  have go: ∀(l:List Nat) (f:Nat ->Bool),(l.flatMap λk=>if f k then[k+1]else[]).sum<=(l.map (· +1)).sum:=λl f=>by
   induction l with
   |nil=>exact Nat.le_refl _
   |cons a l ih=>
    simp only[List.flatMap_cons,List.sum_append,List.map_cons,List.sum_cons]
    split<;>simp<;>lia
  refine Nat.le_trans (go _ _) ?_
  refine Or.elim hn (λh=>?_) λh=>?_
  ·rw[hl,h];decide
  ·rw[hl,h];decide
 (rw[Jfd,e1,Zg (by lia)];dsimp only[Option.bind_some])
 rw[J3Y (λ(k:Nat)=>D.int k) (λk=>(if Jc rk (t.getD k 0) (t.getD (k+1) 0)then[k+1]else[]).map λ(k:Nat)=>D.int k) λk hk=>by
  have hk:=List.mem_range.mp hk
  rw[JcR,JfO (by lia) (by lia)]
  show((((dget (.s (sD [_,_])) (JM rk)).bind truthy).bind _).bind _)=_
  rw[J7P hr (at_ (by lia)) (at_ (by lia))]
  show((some (Jc rk (t.getD k 0) (t.getD (k+1) 0))).bind λt=>if t then some true else some false).bind _=_
  cases Jc rk (t.getD k 0) (t.getD (k+1) 0)<;>rfl]
 have e2:((List.range (t.length-1)).flatMap λk=>(if Jc rk (t.getD k 0) (t.getD (k+1) 0)then[k+1]else[]).map λ(k:Nat)=>D.int k)=(KR rk t).map λ(k:Nat)=>D.int k:=by
  unfold KR
  rw[List.map_flatMap]
 have len: ∀(l:List Nat) (f:Nat ->Bool),(l.flatMap λk=>if f k then[k+1]else[]).length<=l.length:=λl f=>by
  induction l with
  |nil=>exact Nat.le_refl _
  |cons a l ih=>
   simp only[List.flatMap_cons,List.length_append,List.length_cons]
   split
   ·rw[List.length_singleton];lia
   ·rw[List.length_nil];lia
 (rw[e2];dsimp only[Option.bind_some,Option.map_some];rw[YL (by rw[List.length_map];refine Nat.le_trans (len _ _) ?_;rw[List.length_range];lia)];dsimp only[Option.bind_some,Option.map_some];rw[JbX (by lia)];dsimp only[Option.bind_some,Option.map_some];rw[J8B (by lia)])
 show(binD .Mult (.int (100:Nat)) (.int (ki:Nat))).bind _=_
 rw[J0L (by lia)]
 rfl
noncomputable def J0J (n m a ki:Nat):Nat:=100*ki+n/m*a%n
theorem Jdv {n m:Nat} (hn:n=5∨n=6) (hm:0<m) (hm2:m<=12) {ts:List D} (hl:ts.length=m) (a ki:Nat):Jdt (.int ki) (.int n) (.lst ts) (.int a)=some (.int (J0J n m a ki:Nat)):=by
 have e:J4 (nm "len") [.lst ts]=some (.int (m:Nat)):=by
  have e:J4 (nm "len") [.lst ts]=if ts.length<=1000000 then some (.int ts.length)else none:=by kernel_rfl
  rw[e,if_pos (by lia),hl]
 have d:binD .FloorDiv (.int (n:Nat)) (.int (m:Nat))=some (.int ((n/m:Nat):Int)):=by
  have hne:(((m:Nat):Int)==0)=false:=by rw[beq_eq_false_iff_ne];lia
  show(if(((m:Nat):Int)==0||!decide (((m:Nat):Int).natAbs<1073741824))=true then none else some (D.int ((n:Int).fdiv (m:Int))))=_
  rw[hne,decide_eq_true (by lia),Int.fdiv_eq_ediv_of_nonneg _ (by lia)];rfl
 have hq:n/m<10000:=Nat.lt_of_le_of_lt (Nat.div_le_self _ _) (by lia)
 (rw[Jdu,e];dsimp only[Option.bind_some];rw[d];dsimp only[Option.bind_some];rw[J0L hq];dsimp only[Option.bind_some];rw[J8B (by lia)])
 show(binD .Mult (.int (100:Nat)) (.int (ki:Nat))).bind _=_
 rw[J0L (by lia)]
 rfl
theorem Jd6 {a b:List (Key×D)} (ha:a.length<=1000) (hb:b.length<=1000):Jd4 (.lst [.dct a,.dct b])=some (.lst [.dct a,.dct b]):=by
 have e: ∀a:List (Key×D),a.length<=1000 ->J4 (nm "dict") [.dct a]=some (.dct a):=λa h=>by
  have e:J4 (nm "dict") [.dct a]=if a.length<=1000000 then some (.dct a)else none:=by kernel_rfl
  rw[e,if_pos (by lia)]
 rw[Jd5]
 rw[gC (congrArg _ (e a ha)) (gC (congrArg _ (e b hb)) rfl)]
 rfl
theorem J0H {cs:List D} {k:Nat} (h:k<cs.length) (hl:cs.length<=1000):itemD (.lst cs) (.int k)=cs[k]?:=by
 show(idx cs.length (k:Int)).bind _=_
 rw[J1H h hl];rfl
theorem JdS {cs:List Int} {i j:Nat} (hi:i<cs.length) (hj:j<cs.length) (hl:cs.length<=1000) (t:Int):JdQ (.int t) (.lst (cs.map .int)) (.int i) (.int j)=some (Jbd t (cs.getD i 0-cs.getD j 0)):=by
 have e: ∀k,k<cs.length ->itemD (.lst (cs.map .int)) (.int k)=some (.int (cs.getD k 0)):=λk h=>by
  rw[J0H (by rw[List.length_map];exact h) (by rw[List.length_map];exact hl)]
  simp[h]
 rw[JdR,e i hi,e j hj]
 show some (D.tup [_,.lst [.int ((if decide (cs.getD j 0<cs.getD i 0)then 1 else 0)-(if decide (cs.getD i 0<cs.getD j 0)then 1 else 0)),.bool false]])=_
 unfold Jbd sgB
 rw[show decide (0<cs.getD i 0-cs.getD j 0)=decide (cs.getD j 0<cs.getD i 0)from decide_eq_decide.mpr (by lia),show decide (cs.getD i 0-cs.getD j 0<0)=decide (cs.getD i 0<cs.getD j 0)from decide_eq_decide.mpr (by lia)]
noncomputable def JcB (f:Int ->Int):List (Int×Int) ->Int
 |[]=>0
 |(k,w)::r=>w*f k+JcB f r
theorem Jip {P S x:Int} (h1: -P<2*S) (h2:2*S<P) (k1: -2*P<=x) (k2:x<=2*P): -(P*5)<2*(x+S)/\ 2*(x+S)<P*5:=by lia
theorem Jja {w f P:Int} (hw:w=1∨w= -1) (hf: -2<=f/\ f<=2) (hp:0<P): -2*P<=w*f*P/\ w*f*P<=2*P:=by
 have h: -2<=w*f/\ w*f<=2:=by rcases hw with h|h<;>rw[h]<;>lia
 exact⟨Int.mul_le_mul_of_nonneg_right h.1 (Int.le_of_lt hp),Int.mul_le_mul_of_nonneg_right h.2 (Int.le_of_lt hp)⟩
theorem JgP {P S:Int} (hp:0<P) (h: -P<2*S): -P<S:=by lia
theorem JgQ {P S:Int} (hp:0<P) (h:2*S<P):S<P:=by lia
theorem JdF (n:Nat) (f:Int ->Int) (hf: ∀k,-2<=f k/\ f k<=2) {wd:List (Int×Int)} {p:Nat} (hl:p+wd.length<=n) (hw: ∀x∈wd,x.2=1∨x.2= -1):
  (-((5:Int)^(n-p+1))<2*JcB f (weightL n p wd)/\ 2*JcB f (weightL n p wd)<(5:Int)^(n-p+1))/\ VL f wd=sgB (JcB f (weightL n p wd)):=by
 induction wd generalizing p with
 |nil=>
  have:=Int.pow_pos (n:=5) (m:=n-p+1) (by decide)
  exact⟨⟨Int.neg_neg_of_pos this,this⟩,rfl⟩
 |cons x r ih=>
  have ih:=ih (p:=p+1) (Nat.succ_add_eq_add_succ p r.length▸hl) λx hx=>hw x (List.mem_cons_of_mem _ hx)
  rw[show n-(p+1)+1=n-p from Nat.sub_add_cancel (Nat.sub_pos_of_lt (Nat.lt_of_lt_of_le (Nat.lt_add_of_pos_right (Nat.succ_pos r.length)) hl))]at ih
  have hp:=Int.pow_pos (n:=5) (m:=n-p) (by decide)
  have hk:=hf x.1
  have hw:=hw x List.mem_cons_self
  have B:=Jja hw hk hp
  have ew:x.2*(5:Int)^(n-p)*f x.1=x.2*f x.1*5^(n-p):=by rw[Int.mul_assoc,Int.mul_comm (5^(n-p)),<-Int.mul_assoc]
  have es:JcB f (weightL n p (x::r))=x.2*f x.1*5^(n-p)+JcB f (weightL n (p+1) r):=congrArg (· +JcB f (weightL n (p+1) r)) ew
  rw[es,show(5:Int)^(n-p+1)=5^(n-p)*5 from Int.pow_succ ..]
  refine⟨Jip ih.1.1 ih.1.2 B.1 B.2,Eq.trans ?_ (J5x hw (JgP hp ih.1.1) (JgQ hp ih.1.2))⟩
  exact congrArg (λz=>if f x.1<0 then-x.2 else if 0<f x.1 then x.2 else z) ih.2
theorem Jam (l l':List Nat) (wt:List (Int×Int)):codeI wt l-codeI wt l'=JcB (Yv l l') wt:=by
 induction wt with
 |nil=>rfl
 |cons x r ih=>
  refine Eq.trans ?_ (congrArg (x.2*Yv l l' x.1+ ·) ih)
  show(x.2*_+codeI r l)-(x.2*_+codeI r l')=_
  unfold Yv
  rw[Int.mul_sub]
  lia
theorem Jc3 {n:Nat} (hn:n<=12) {l l':List Nat} (h:l.length=n) (h':l'.length=n) {k:Nat} (hk:k<n):Told (Km l) (Km l') (Yv l l') (k:Int):=by
 refine J0Y (z:=(l.getD k 0:Nat)-(l'.getD k 0:Nat)) (J0I (by lia) (by lia)) (J0I (by lia) (by lia)) rfl ⟨?_,?_⟩
 ·show some (decide ((l.getD k 0:Int)<(l'.getD k 0:Int)))=_
  exact congrArg some (decide_eq_decide.mpr (by lia))
 ·show some (decide ((l'.getD k 0:Int)<(l.getD k 0:Int)))=_
  exact congrArg some (decide_eq_decide.mpr (by lia))
theorem JcZ (d s:Int) {n:Nat} (hn:n=5∨n=6) (k:Nat): ∃j:Nat,j<n/\ Jex d s n k=(j:Int):=
 Jx (d+(k:Int)*s) n (hn.elim (λe=>e▸Nat.le_of_ble_eq_true rfl) λe=>e▸Nat.le_of_ble_eq_true rfl) λj h1 h2=>⟨j,h1,h2⟩
theorem JcY: ∀n∈([5,6]:List Nat),∀s∈([1,(n:Int)-1]:List Int),∀r∈List.range n,∀j∈List.range n,∃k∈List.range n,((r:Int)+(k:Int)*s).fmod (n:Int)=(j:Int):=by decide+kernel
theorem JcX (d:Int) {s:Int} {n:Nat} (hn:n=5∨n=6) (hs:s=1∨s=(n:Int)-1) {j:Nat} (hj:j<n): ∃k:Nat,k<n/\ Jex d s n k=(j:Int):=
 Jx d n (Nat.lt_of_le_of_lt (Nat.zero_le j) hj) λr hr e=>o11 (JcY n (hn.elim (λe=>e▸List.mem_cons_self) λe=>e▸List.mem_cons_of_mem _ List.mem_cons_self) s (hs.elim (λe=>e▸List.mem_cons_self) λe=>e▸List.mem_cons_of_mem _ List.mem_cons_self) r (List.mem_range.mpr hr) j (List.mem_range.mpr hj)) λk hk q=>
 ⟨k,List.mem_range.mp hk,by
  rw[JgE _ n (Nat.lt_of_le_of_lt (Nat.zero_le j) hj)]at e q
  unfold Jex
  rw[JgE _ n (Nat.lt_of_le_of_lt (Nat.zero_le j) hj),<-q,<-e,Int.emod_add_emod]⟩
structure WdOk (n:Nat) (wd:List (Int×Int)):Prop where
 len:wd.length=n
 way: ∀x∈wd,x.2=1∨x.2= -1
 col: ∀x∈wd,∃j:Nat,j<n/\ x.1=(j:Int)
 all: ∀j:Nat,j<n -> ∃x∈wd,x.1=(j:Int)
theorem J9E (d:Int) {s:Int} {n:Nat} (hn:n=5∨n=6) (hs:s=1∨s=(n:Int)-1):WdOk n (wideL d s n) where
 len:=J9G d s n
 way:=J9H d s n
 col:=λx hx=>by
  refine o11 (List.mem_map.mp hx) λk _ q1=>?_;subst q1
  exact JcZ d s hn k
 all:=λj hj=>by
  refine o11 (JcX d hn hs hj) λk hk e=>?_
  exact⟨_,List.mem_map_of_mem (List.mem_range.mpr hk),e⟩
theorem Jiz {q:Nat} (h:q<=6):(0:Int)<5^q/\ (5:Int)^q<65536:=(by decide+kernel: ∀q:Fin 7,(0:Int)<5^q.val/\ (5:Int)^q.val<65536) ⟨q,by lia⟩
theorem J72 (n:Nat) (hn:n<=6) (wd:List (Int×Int)) (p:Nat) (hw: ∀x∈wd,x.2=1∨x.2= -1) (hc: ∀x∈wd,∃j:Nat,j<n/\ x.1=(j:Int)): ∀y∈weightL n p wd,∃j:Nat,y.1=j/\ j<n/\ -65536<y.2/\ y.2<65536:=by
 induction wd generalizing p with
 |nil=>exact λy hy=>absurd hy List.not_mem_nil
 |cons x r ih=>
  intro y hy
  obtain⟨k,w⟩:=x
  rw[weightL]at hy
  refine(List.mem_cons.mp hy).elim (λe=>o11 (hc (k,w) List.mem_cons_self) λj h1 h2=>?_) (ih (p+1) (λx hx=>hw x (List.mem_cons_of_mem _ hx)) (λx hx=>hc x (List.mem_cons_of_mem _ hx)) y)
  have hb:=Jiz (show n-p<=6 by lia)
  have h:=hw (k,w) List.mem_cons_self
  rw[e]
  refine⟨j,h2,h1,?_⟩
  show-65536<w*5^(n-p)/\ w*5^(n-p)<65536
  clear hw hc hy h2 ih e
  rcases(show w=1∨w= -1 from h)with h|h
  ·rw[h,Int.one_mul];exact⟨Int.lt_trans (by decide) hb.1,hb.2⟩
  ·rw[h,Int.neg_mul,Int.one_mul];exact⟨Int.neg_lt_neg hb.2,by lia⟩
theorem WdOk.wt {n:Nat} (hn:n=5∨n=6) {wd:List (Int×Int)} (h:WdOk n wd):Jhk n (weightL n 0 wd):=by
 refine⟨by rw[Ki,h.len];lia,J72 n (by lia) wd 0 h.way h.col⟩
theorem J3i {n:Nat} {wd:List (Int×Int)} (h:WdOk n wd) {l l':List Nat} (a: ∀x∈l,x<=2) (a': ∀x∈l',x<=2):VL (Yv l l') wd=sgB (codeI (weightL n 0 wd) l-codeI (weightL n 0 wd) l'):=by
 have at2: ∀{l:List Nat},(∀x∈l,x<=2) -> ∀j:Nat,l.getD j 0<=2:=λ{l} h2 j=>by
  rw[List.getD_eq_getElem?_getD]
  by_cases q:j<l.length
  ·rw[List.getElem?_eq_getElem q];exact h2 _ (List.getElem_mem q)
  ·rw[List.getElem?_eq_none (Nat.not_lt.mp q)];exact Nat.zero_le _
 rw[Jam]
 refine(JdF n (Yv l l') (λk=>?_) (wd:=wd) (p:=0) (Nat.le_of_eq ((Nat.zero_add _).trans h.len)) h.way).2
 have:=at2 a k.toNat
 have:=at2 a' k.toNat
 unfold Yv
 lia
theorem Jan {n:Nat} {wd:List (Int×Int)} (h:WdOk n wd) {l l':List Nat} (a: ∀x∈l,x<=2) (a': ∀x∈l',x<=2) (e:l.length=n) (e':l'.length=n) (hc:codeI (weightL n 0 wd) l=codeI (weightL n 0 wd) l'):l=l':=by
 have z:=J3i h a a'
 simp only[hc,Int.sub_self]at z
 have q:=J54 h.way z
 refine List.ext_getElem (by lia) λj h1 h2=>?_
 refine o11 (h.all j (by lia)) λx hx ex=>?_
 have:=q x hx
 rw[ex]at this
 unfold Yv at this
 simp only[Int.toNat_natCast,List.getD_eq_getElem?_getD,List.getElem?_eq_getElem h1,List.getD_eq_getElem?_getD,List.getElem?_eq_getElem h2]at this
 simp only[Option.getD_some]at this
 lia
noncomputable def inc (be:List Nat) (k:Nat):List Nat:=be.set k (be.getD k 0+1)
noncomputable def Jj (c:Nat ->Int) (i j:Nat):Nat:=if c j<c i then i else j
noncomputable def rankI (c:Nat ->Int) (m x:Nat):Nat:=(List.range m).countP λy=>decide (c y<c x)
theorem Jdp {m k:Nat} (F:Nat ->Nat) (h:k<m):inc ((List.range m).map F) k=(List.range m).map λx=>F x+if k=x then 1 else 0:=by
 unfold inc
 refine List.ext_getElem (by simp) λj h1 h2=>?_
 rw[List.getElem_set]
 simp only[List.getElem_map,List.getElem_range]
 by_cases e:k=j
 ·clear h1 h2;subst e
  rw[if_pos rfl,if_pos rfl,List.getD_eq_getElem?_getD,List.getElem?_eq_getElem (by simpa using h)]
  simp
 ·rw[if_neg e,if_neg e];rfl
theorem VK {c:Nat ->Int} {i j m:Nat} (hi:i<m) (hj:j<m):Jj c i j<m:=by
 unfold Jj;split
 ·exact hi
 ·exact hj
theorem J8b (c:Nat ->Int) {m i:Nat} (hi:i<m) {t:Nat} (F:Nat ->Nat) (ht:t<=i):(List.range t).foldl (λbe j=>inc be (Jj c i j)) ((List.range m).map F)=(List.range m).map λx=>F x+(List.range t).countP λj=>Jj c i j==x:=by
 induction t with
 |zero=>rfl
 |succ t ih=>
  rw[List.range_succ,List.foldl_append,ih (Nat.le_of_succ_le ht)]
  refine(Jdp _ (VK hi (Nat.lt_trans ht hi))).trans (List.map_congr_left λx _=>?_)
  rw[List.countP_append,List.countP_singleton,Nat.add_assoc]
  refine congrArg (λz=>F x+((List.range t).countP (λj=>Jj c i j==x)+z)) ?_
  by_cases q:Jj c i t=x
  ·rw[if_pos q,if_pos (beq_iff_eq.mpr q)]
  ·rw[if_neg q,if_neg λh=>q (beq_iff_eq.mp h)]
theorem Jfj {c:Nat ->Int} {M j x:Nat} (hx:x≠M):Jj c M j=x↔j=x/\ ¬c x<c M:=by
 unfold Jj
 by_cases q:c j<c M
 ·rw[if_pos q];exact⟨λe=>absurd e.symm hx,λe=>absurd (e.1▸q) e.2⟩
 ·rw[if_neg q];exact⟨λe=>⟨e,e▸q⟩,λe=>e.1⟩
theorem JdA {c:Nat ->Int} {M x:Nat} (hx:x<M) (ne:c x≠c M):(List.range M).countP (λj=>Jj c M j==x)=if decide (c M<c x)=true then 1 else 0:=by
 have e:=λj=>Jfj (c:=c) (j:=j) (Nat.ne_of_lt hx)
 by_cases q:c x<c M
 ·rw[if_neg (λh=>Int.lt_asymm q (of_decide_eq_true h))]
  exact List.countP_eq_zero.mpr λj _ h=>((e j).mp (beq_iff_eq.mp h)).2 q
 ·rw[if_pos (decide_eq_true (Int.lt_iff_le_and_ne.mpr ⟨Int.not_lt.mp q,ne.symm⟩))]
  refine Eq.trans ?_ (List.nodup_range.count.trans (if_pos (List.mem_range.mpr hx)))
  exact List.countP_congr λj _=>⟨λh=>beq_iff_eq.mpr ((e j).mp (beq_iff_eq.mp h)).1,λh=>beq_iff_eq.mpr ((e j).mpr ⟨beq_iff_eq.mp h,q⟩)⟩
theorem JdB {c:Nat ->Int} {M:Nat}:(List.range M).countP (λj=>Jj c M j==M)=(List.range M).countP λy=>decide (c y<c M):=
 List.countP_congr λj hj=>by
  unfold Jj
  by_cases q:c j<c M
  ·rw[if_pos q];exact⟨λ_=>decide_eq_true q,λ_=>beq_iff_eq.mpr rfl⟩
  ·rw[if_neg q];exact⟨λh=>absurd (beq_iff_eq.mp h) (Nat.ne_of_lt (List.mem_range.mp hj)),λh=>absurd (of_decide_eq_true h) q⟩
theorem J8P (c:Nat ->Int) {m:Nat} (hc: ∀x y,x<m ->y<m ->c x=c y ->x=y) {M:Nat} (h:M<=m):(List.range M).foldl (λbe i=>(List.range i).foldl (λbe j=>inc be (Jj c i j)) be) (List.replicate m 0)=(List.range m).map λx=>if x<M then(List.range M).countP (λy=>decide (c y<c x))else 0:=by
 induction M with
 |zero=>
  refine List.ext_getElem (by rw[List.length_map,List.length_range];exact List.length_replicate) λj h1 h2=>?_
  rw[List.getElem_map,if_neg (Nat.not_lt_zero _)]
  exact List.getElem_replicate ..
 |succ M ih=>
  rw[List.range_succ,List.foldl_append,ih (Nat.le_of_succ_le h)]
  refine(J8b c (show M<m from h) _ (Nat.le_refl _)).trans (List.map_congr_left λx hx=>?_)
  have hx:=List.mem_range.mp hx
  rw[List.countP_append,List.countP_singleton]
  rcases Nat.lt_trichotomy x M with q|q|q
  ·rw[if_pos q,if_pos (Nat.lt_succ_of_lt q)]
   exact congrArg (_+ ·) (JdA q λe=>Nat.ne_of_lt q (hc x M hx h e))
  ·rw[q,if_neg (Nat.lt_irrefl M),if_pos (Nat.lt_succ_self M),Nat.zero_add,if_neg (λh=>Int.lt_irrefl _ (of_decide_eq_true h))]
   exact JdB
  ·rw[if_neg (Nat.lt_asymm q),if_neg (λh=>Nat.lt_irrefl x (Nat.lt_of_lt_of_le h q)),Nat.zero_add]
   exact List.countP_eq_zero.mpr λj hj h=>absurd (beq_iff_eq.mp h) (Nat.ne_of_lt (VK q (Nat.lt_trans (List.mem_range.mp hj) q)))
theorem J1h {p q:Nat ->Bool} {l:List Nat} (h: ∀y∈l,p y=true ->q y=true) {y:Nat} (hy:y∈l) (h1:q y=true) (h2:p y=false):l.countP p<l.countP q:=by
 induction l with
 |nil=>exact absurd hy List.not_mem_nil
 |cons a l ih=>
  have hl: ∀y∈l,p y=true ->q y=true:=λy hy=>h y (List.mem_cons_of_mem _ hy)
  rw[List.countP_cons,List.countP_cons]
  refine(List.mem_cons.mp hy).elim (λe=>?_) λhy=>?_
  ·rw[<-e,h1,h2];exact Nat.lt_succ_of_le (List.countP_mono_left hl)
  ·refine Nat.add_lt_add_of_lt_of_le (ih hl hy) ?_
   cases e:p a with
   |false=>exact Nat.zero_le _
   |true=>rw[h a List.mem_cons_self e];exact Nat.le_refl _
theorem J6E {m:Nat} {l:List Nat} (hn:l.Nodup) (hl:l.length=m) (hb: ∀x∈l,x<m):l.Perm (List.range m):=by
 refine(List.perm_ext_iff_of_nodup hn List.nodup_range).mpr λa=>⟨λh=>List.mem_range.mpr (hb a h),λh=>Decidable.byContradiction λna=>?_⟩
 have sub:l ⊆ (List.range m).erase a:=λx hx=>(List.Nodup.mem_erase_iff List.nodup_range).mpr ⟨λe=>na (e▸hx),List.mem_range.mpr (hb x hx)⟩
 have le:=List.Nodup.length_le_of_subset hn sub
 simp only[List.length_erase_of_mem h,List.length_range,hl]at le
 have:=List.mem_range.mp h
 lia
theorem J8X (c:Nat ->Int) {m:Nat} (hc: ∀x y,x<m ->y<m ->c x=c y ->x=y):((List.range m).map (rankI c m)).Perm (List.range m):=by
 refine J6E ?_ (by simp) λx hx=>?_
 ·have key: ∀x y,x<m ->y<m ->c x<c y ->rankI c m x<rankI c m y:=λx y hx hy h=>J1h (λz _ hz=>decide_eq_true (Int.lt_trans (of_decide_eq_true hz) h)) (List.mem_range.mpr hx) (decide_eq_true h) (decide_eq_false (Int.lt_irrefl _))
  unfold List.Nodup
  rw[List.pairwise_map]
  refine List.Pairwise.imp_of_mem ?_ (List.nodup_range (n:=m))
  intro x y hx hy ne e
  have hx:=List.mem_range.mp hx
  have hy:=List.mem_range.mp hy
  rcases Int.lt_trichotomy (c x) (c y)with h|h|h
  ·exact Nat.ne_of_lt (key x y hx hy h) e
  ·exact ne (hc x y hx hy h)
  ·exact Nat.ne_of_gt (key y x hy hx h) e
 ·refine o11 (List.mem_map.mp hx) λy hy q1=>?_;clear hx;subst q1
  have hy:=List.mem_range.mp hy
  have:=J1h (p:=λz=>decide (c z<c y)) (q:=λ_=>true) (l:=List.range m) (λ_ _ _=>rfl) (List.mem_range.mpr hy) rfl (decide_eq_false (Int.lt_irrefl _))
  simp only[List.countP_true,List.length_range]at this
  exact this
theorem J3z (c:Nat ->Int) {m:Nat} (hc: ∀x y,x<m ->y<m ->c x=c y ->x=y):((List.range m).foldl (λbe i=>(List.range i).foldl (λbe j=>inc be (Jj c i j)) be) (List.replicate m 0)).Perm (List.range m):=by
 rw[J8P c hc (Nat.le_refl _)]
 have e:((List.range m).map λx=>if x<m then(List.range m).countP (λy=>decide (c y<c x))else 0)=(List.range m).map (rankI c m):=List.map_congr_left λx hx=>by
  rw[if_pos (List.mem_range.mp hx)];rfl
 rw[e]
 exact J8X c hc
noncomputable abbrev J0G (l:List Nat):List D:=l.map λ(k:Nat)=> .int k
structure LsOk (n:Nat) (ls:List (List Nat)):Prop where
 len:ls.length<=6
 row: ∀l∈ls,l.length=n/\ ∀x∈l,x<=2
 nd:ls.Nodup
theorem J8a (be:List Nat) (k:Nat):(inc be k).length=be.length:=by unfold inc;rw[List.length_set]
theorem Jdo (be:List Nat) (k:Nat):(J0G be).set k (.int ((be.getD k 0:Nat)+1))=J0G (inc be k):=by
 unfold inc J0G
 rw[List.map_set];rfl
theorem JaU {l:List Nat} {k:Nat} (h:k<l.length) (hl:l.length<=1000):itemD (.lst (J0G l)) (.int k)=some (.int (l.getD k 0:Nat)):=by
 rw[J0H (by rw[List.length_map];exact h) (by rw[List.length_map];exact hl)]
 simp[h]
theorem JbR {l:List D} {k:Nat} (h:k<l.length) (hl:l.length<=1000) (v:D):VV l (.int k) v=some (l.set k v):=by
 show(if(0:Int)<=(k:Nat)then(idx l.length (k:Nat)).map λk=>l.set k v else none)=_
 exact(if_pos (Int.natCast_nonneg k)).trans (congrArg (Option.map λk=>l.set k v) (J1H h hl))
theorem JaB (c:Nat ->Int) (i:Nat) (js be:List Nat):(js.foldl (λbe j=>inc be (Jj c i j)) be).length=be.length:=by
 induction js generalizing be with
 |nil=>rfl
 |cons j js ih=>exact(ih _).trans (J8a ..)
theorem n6 {n:Nat} (h:n=5∨n=6):n<=6:=h.elim (λe=>e▸Nat.le_of_ble_eq_true rfl) λe=>e▸Nat.le_refl 6
noncomputable def YC (I:Iv) (ls:List (List Nat)) (i:Nat):Int:=codeI I.wt (ls.getD i [])
section
variable {I:Iv} (hn:I.n=5∨I.n=6) (hw:WdOk I.n I.wd) (ht:I.wt=weightL I.n 0 I.wd) {ls:List (List Nat)} (hl:LsOk I.n ls)
include hn hw ht hl
theorem J1c {x y:Nat} (hx:x<ls.length) (hy:y<ls.length) (e:YC I ls x=YC I ls y):x=y:=by
 unfold YC at e
 simp only[List.getD_eq_getElem?_getD,List.getElem?_eq_getElem hx,List.getD_eq_getElem?_getD,List.getElem?_eq_getElem hy,ht]at e
 have a:=hl.row _ (List.getElem_mem hx)
 have b:=hl.row _ (List.getElem_mem hy)
 have:=Jan hw a.2 b.2 a.1 b.1 e
 exact(List.getElem?_inj hx hl.nd).mp (by simp only[List.getElem?_eq_getElem hx,List.getElem?_eq_getElem hy];exact congrArg some this)
omit hn hw ht hl in
theorem J9c {c:Nat ->Int} {i j:Nat} (ne:c i≠c j):(if(sgB (c i-c j)==1)=true then some (D.int i)else some (D.int j))=some (.int (Jj c i j:Nat)):=by
 unfold Jj
 by_cases q:c j<c i
 ·rw[if_pos q,J0V (Int.sub_pos_of_lt q)];rfl
 ·rw[if_neg q,J0U (Int.sub_neg_of_lt (Int.lt_iff_le_and_ne.mpr ⟨Int.not_lt.mp q,ne⟩))];rfl
theorem J8T (wo:D) {ns:List D} {N:Nat} (hN:Nts N ns) (n1:N<=90000) (t tb tu ki:D) {be:List Nat} (hb:be.length=ls.length) (z:Rho) {i j:Nat} (hi:i<ls.length) (hj:j<ls.length) (hij:i≠j) {G:Prop} (k: ∀ns' t',Nts (N+1) ns' ->
  exSs theTop L16 scL (forB pb) (C26 I wo ns (.int i) (.int j) t tb (Q6 tu ki (.lst (ls.map Km)) (.lst ((ls.map (codeI I.wt)).map .int)) (.mls (J0G be)) z))=
   some (C26 I wo ns' (.int i) (.int j) t' tb (Q6 tu ki (.lst (ls.map Km)) (.lst ((ls.map (codeI I.wt)).map .int)) (.mls (J0G (inc be (Jj (YC I ls) i j)))) z),.next) ->G):G:=by
 have l6:ls.length<=1000:=Nat.le_trans hl.len (by decide)
 have il: ∀k:Nat,k<ls.length ->itemD (.lst (ls.map Km)) (.int k)=some (Km (ls.getD k [])):=λk h=>by
  rw[J0H (by rw[List.length_map];exact h) (by rw[List.length_map];exact l6)]
  simp[h]
 have ri:=hl.row _ (gdm (d:=[]) hi)
 have rj:=hl.row _ (gdm (d:=[]) hj)
 have cg: ∀k,k<ls.length ->(ls.map (codeI I.wt)).getD k 0=YC I ls k:=λk h=>by
  unfold YC
  simp[h]
 have hc:=(KP 10 (Km (ls.getD i [])) (Km (ls.getD j [])) (Yv (ls.getD i []) (ls.getD j [])) I.wd λp hp=>o11 (hw.col p hp) λk h1 h2=>h2▸Jc3 (Nat.le_trans (n6 hn) (by decide)) ri.1 rj.1 h1).trans
  (congrArg (λx=>some (D.int x)) (show VL (Yv (ls.getD i []) (ls.getD j [])) I.wd=sgB (YC I ls i-YC I ls j) by unfold YC;rw[ht];exact J3i hw ri.2 rj.2))
 have hk:Jj (YC I ls) i j<be.length:=hb▸VK hi hj
 have b6:be.length<=1000:=hb▸l6
 have nk:=JdS (cs:=ls.map (codeI I.wt)) (i:=i) (j:=j) (by rw[List.length_map];exact hi) (by rw[List.length_map];exact hj) (by rw[List.length_map];exact l6) (sgB (YC I ls i-YC I ls j))
 rw[cg i hi,cg j hj]at nk
 exact k _ _ (hN.add (J1G rfl)) (bdq▸J0 ((q0 ..).trans (bdE (bdE (bdE (il i hi) (bdE (bdE (il j hj) rfl) rfl)) hc) rfl)) (J0 ((q1 ..).trans (bdE nk (ifE (hN.to (Nat.le_trans n1 (by decide))) rfl)))
  (J0 ((q2 ..).trans (bdE (J9c λe=>hij (J1c hn hw ht hl hi hj e)) (bdE (JaU hk b6) (bdE rfl (mpE (JbR (by rw[List.length_map];exact hk) (by rw[List.length_map];exact b6) _)
   (congrArg (λl=>some (C26 I wo _ _ _ _ tb (Q6 tu ki _ _ (.mls l) z),Fl.next)) (Jdo be _))))))) rfl)))
theorem J6C (wo tb tu ki:D) (z:Rho) {i:Nat} (hi:i<ls.length) {js be:List Nat} {ns:List D} {N:Nat} (hN:Nts N ns) {w t:D} (hj: ∀j∈js,j<i) (hb:be.length=ls.length) (hn':N+js.length<=90000) {G:Prop} (k: ∀ns' w' t',Nts (N+js.length) ns' ->
  loopX (forF L17 scL pb) (J0G js) (C26 I wo ns (.int i) w t tb (Q6 tu ki (.lst (ls.map Km)) (.lst ((ls.map (codeI I.wt)).map .int)) (.mls (J0G be)) z))=
   some (C26 I wo ns' (.int i) w' t' tb (Q6 tu ki (.lst (ls.map Km)) (.lst ((ls.map (codeI I.wt)).map .int)) (.mls (J0G (js.foldl (λbe j=>inc be (Jj (YC I ls) i j)) be))) z),.next) ->G):G:=by
 induction js generalizing be ns w t N with
 |nil=>exact k ns w t hN rfl
 |cons j js ih=>
  have h0:=hj j List.mem_cons_self
  have e:=Nat.succ_add N js.length
  exact J8T hn hw ht hl wo hN (Nat.le_trans (Nat.le_add_right ..) hn') t tb tu ki hb z hi (Nat.lt_trans h0 hi) (Nat.ne_of_gt h0) λn1 t1 g s=>
   ih g (λx hx=>hj x (List.mem_cons_of_mem _ hx)) ((J8a ..).trans hb) (e▸hn') λn2 w' t' g' s'=>k n2 w' t' (show Nts (N+js.length).succ n2 from e▸g') (J2 ((r6q ..).trans s) s')
theorem J6D (wo tb tu ki:D) (z:Rho) {is be:List Nat} {ns:List D} {N:Nat} (hN:Nts N ns) {o w t:D} (hi: ∀i∈is,i<ls.length) (hb:be.length=ls.length) (hn':N+is.length*6<=90000) {G:Prop} (k: ∀ns' o' w' t',Nts (N+is.length*6) ns' ->
  loopX (forF L18 scL (rb 6)) (J0G is) (C26 I wo ns o w t tb (Q6 tu ki (.lst (ls.map Km)) (.lst ((ls.map (codeI I.wt)).map .int)) (.mls (J0G be)) z))=
   some (C26 I wo ns' o' w' t' tb (Q6 tu ki (.lst (ls.map Km)) (.lst ((ls.map (codeI I.wt)).map .int)) (.mls (J0G (is.foldl (λbe i=>(List.range i).foldl (λbe j=>inc be (Jj (YC I ls) i j)) be) be))) z),.next) ->G):G:=by
 induction is generalizing be ns o w t N with
 |nil=>exact k ns o w t hN rfl
 |cons i is ih=>
  have h0:=hi i List.mem_cons_self
  have i6:(List.range i).length<=6:=List.length_range.symm▸Nat.le_trans (Nat.le_of_lt h0) hl.len
  have e:=mq N is.length 6
  have h6:N+6<=90000:=Nat.le_trans (Nat.le_add_right ..) (e▸hn')
  exact J6C hn hw ht hl wo tb tu ki z h0 hN (λj hj=>List.mem_range.mp hj) hb (Nat.le_trans (Nat.add_le_add_left i6 N) h6) λn1 w1 t1 g1 s1=>
   ih (g1.le (Nat.add_le_add_left i6 N)) (λx hx=>hi x (List.mem_cons_of_mem _ hx)) ((JaB ..).trans hb) (e▸hn') λn2 o' w' t' g' s'=>k n2 o' w' t' (show Nts (N+(is.length+1)*6) n2 from e▸g')
    (J2 ((r6a ..).trans (bdp▸J0 ((r6p ..).trans (bdE (Zg (Nat.le_trans (Nat.le_of_lt h0) (Nat.le_trans hl.len (by decide)))) s1)) rfl)) s')
end
noncomputable def bumps (u:Tb) (ks:List Nat):Tb:=ks.foldl (λu k=>bump k 1 u) u
theorem Tab.bumps {ls:List Nat} {u:Tb} {ks:List Nat} (h:Tab u ks):Tab (bumps u ls) (ks++ls):=by
 induction ls generalizing u ks with
 |nil=>rw[List.append_nil];exact h
 |cons k ls ih=>
  have:=ih (h.bump (k:=k) (a:=1) (by decide))
  rw[List.append_assoc]at this
  exact this
theorem J4F {u:Tb} (h:(u.map (·.1)).Nodup) (k:Nat) {G:Prop} (f: ∀d,binD .Add ((dget (.i (k:Nat)) (tbD u)).getD (.int 0)) (.int 1)=some d ->JY (.i (k:Nat)) d (tbD u)=tbD (bump k 1 u) ->G):G:=
 f (.int ((cnt k u+1:Nat):Int)) ((congrArg (λd=>binD .Add d (.int 1)) (Jf6 h k)).trans rfl) (J7K k 1 h)
theorem s1' {I:Iv} {wo:D} {ns:List D} {o w t tb tu ki li co be a b:D} {k:Int} {l r l':List (Key×D)} {v:Option (D×D)} {d:D} (h:binD .Add ((dget (.i k) l).getD (.int 0)) (.int 1)=some d) (e:JY (.i k) d l=l') (hl:l.length<=1000000):step1 L17 scL (sb 1) (C26 I wo ns o w t tb (Q7 tu ki li co (.val be) (.mdc l) (.mdc r) (Ta9 a b (.int k) v)))=some (C26 I wo ns o w t tb (Q7 tu ki li co (.val be) (.mdc l') (.mdc r) (Ta9 a b (.int k) v)),.next):=
 e▸(s1 ..).trans (bdE h (ifE hl rfl))
theorem s3' {I:Iv} {wo:D} {ns:List D} {o w t tb tu ki li co be a b:D} {k:Int} {l r l':List (Key×D)} {v:Option (D×D)} {d:D} (h:binD .Add ((dget (.i k) r).getD (.int 0)) (.int 1)=some d) (e:JY (.i k) d r=l') (hl:r.length<=1000000):step1 L17 scL (sb 3) (C26 I wo ns o w t tb (Q7 tu ki li co (.val be) (.mdc l) (.mdc r) (Ta9 a b (.int k) v)))=some (C26 I wo ns o w t tb (Q7 tu ki li co (.val be) (.mdc l) (.mdc l') (Ta9 a b (.int k) v)),.next):=
 e▸(s3 ..).trans (bdE h (ifE hl rfl))
theorem Ja5 {k a n m:Nat} {u:Tb} (h:u.length+(n+1)<=m):(bump k a u).length+n<=m:=Nat.le_trans (Nat.add_le_add_right (J0j k a u) n) (Nat.succ_add_eq_add_succ u.length n▸h)
section
variable {I:Iv} (hn:I.n=5∨I.n=6) (hr:I.rk∈sixR)
include hn hr
theorem KQ (wo:D) (ns:List D) (o w t tb li co be:D) {ts:List D} (m1:0<ts.length) (m2:ts.length<=12) (ki:Nat) {u v:Tb} (hu:(u.map (·.1)).Nodup) (hv:(v.map (·.1)).Nodup) (lu:u.length<=1000) (lv:v.length<=1000) {tn:List Nat} (hc: ∀c∈tn,c∈rgbC) (hl:tn.length=I.n) (a:Nat) (y:Option (D×D×D×Option (D×D))) {G:Prop} (k: ∀c,
  forF L18 scL (rb 8) (.tup [wD tn,.int a]) (C26 I wo ns o w t tb (Q7 (.lst ts) (.int ki) li co (.val be) (.mdc (tbD u)) (.mdc (tbD v)) (Ta7 y)))=
   some (C26 I wo ns o w t tb (Q7 (.lst ts) (.int ki) li co (.val be) (.mdc (tbD (bump (JaW I.rk tn ki I.n) 1 u))) (.mdc (tbD (bump (J0J I.n ts.length a ki) 1 v))) (Ta7 (some (wD tn,.int a,c,vOf (y.map (·.2.2)))))),.next) ->G):G:=
 J4F hu (JaW I.rk tn ki I.n) λ_ d1 d2=>J4F hv (J0J I.n ts.length a ki) λ_ e1 e2=>
 have ml: ∀{u:Tb},u.length<=1000 ->(tbD u).length<=1000000:=λ{u} h=>(List.length_map (as:=u) _).symm▸Nat.le_trans h (by decide)
 k _ ((r8a ..).trans (bds▸J0 ((s0 ..).trans (bdE (Jfe hn hr hc hl ki) rfl)) (J0 (s1' d1 d2 (ml lu))
  (J0 ((s2 ..).trans (bdE (Jdv hn m1 m2 rfl a ki) rfl)) (J0 (s3' e1 e2 (ml lv)) rfl)))))
theorem J5X (wo:D) (ns:List D) (o w t tb li co be:D) {ts:List D} (m1:0<ts.length) (m2:ts.length<=12) (ki:Nat) {ps:List (List Nat×Nat)} {u v:Tb} {a b c:D} {q:Option (D×D)} (hu:(u.map (·.1)).Nodup) (hv:(v.map (·.1)).Nodup) (lu:u.length+ps.length<=1000) (lv:v.length+ps.length<=1000) (h: ∀p∈ps,(∀c∈p.1,c∈rgbC)/\ p.1.length=I.n) {G:Prop} (k: ∀a' b' c',
  loopX (forF L18 scL (rb 8)) (ps.map λp=> .tup [wD p.1,.int p.2]) (C26 I wo ns o w t tb (Q7 (.lst ts) (.int ki) li co (.val be) (.mdc (tbD u)) (.mdc (tbD v)) (Ta7 (some (a,b,c,q)))))=
   some (C26 I wo ns o w t tb (Q7 (.lst ts) (.int ki) li co (.val be) (.mdc (tbD (bumps u (ps.map λp=>JaW I.rk p.1 ki I.n)))) (.mdc (tbD (bumps v (ps.map λp=>J0J I.n ts.length p.2 ki)))) (Ta7 (some (a',b',c',q)))),.next) ->G):G:=by
 induction ps generalizing u v a b c q with
 |nil=>exact k a b c rfl
 |cons p ps ih=>
  have hp:=h p List.mem_cons_self
  have le: ∀{u:Tb},u.length+(p::ps).length<=1000 ->u.length<=1000:=λl=>Nat.le_trans (Nat.le_add_right ..) l
  exact KQ hn hr wo ns o w t tb li co be m1 m2 ki hu hv (le lu) (le lv) hp.1 hp.2 p.2 (some (a,b,c,q)) λc1 s=>
   ih (Zk _ _ hu) (Zk _ _ hv) (Ja5 lu) (Ja5 lv) (λx hx=>h x (List.mem_cons_of_mem _ hx)) λa' b' c' s'=>k a' b' c' (J2 s s')
theorem J7G (wo:D) (ns:List D) (o w t tb li co be:D) {ts:List D} (m1:0<ts.length) (m2:ts.length<=12) (ki:Nat) (l:List (List Nat×Nat)) (h0:0<l.length) (hl:l.length<=100) (h: ∀x∈l,(∀c∈x.1,c∈rgbC)/\ x.1.length=I.n) (y:Option (D×D×D×Option (D×D))) {G:Prop} (k: ∀a' b' c',
  loopX (forF L18 scL (rb 8)) (l.map λp=> .tup [wD p.1,.int p.2]) (C26 I wo ns o w t tb (Q7 (.lst ts) (.int ki) li co (.val be) (.mdc []) (.mdc []) (Ta7 y)))=
   some (C26 I wo ns o w t tb (Q7 (.lst ts) (.int ki) li co (.val be) (.mdc (tbD (bumps [] (l.map λp=>JaW I.rk p.1 ki I.n)))) (.mdc (tbD (bumps [] (l.map λp=>J0J I.n ts.length p.2 ki)))) (Ta9 a' b' c' (vOf (y.map (·.2.2))))),.next) ->G):G:=by
 cases l with
 |nil=>exact absurd h0 (Nat.lt_irrefl 0)
 |cons p ps=>
  have hp:=h p List.mem_cons_self
  have z:0+(ps.length+1)<=1000:=(Nat.zero_add _).symm▸Nat.le_trans hl (by decide)
  exact KQ hn hr wo ns o w t tb li co be m1 m2 ki (u:=[]) (v:=[]) List.nodup_nil List.nodup_nil (Nat.zero_le _) (Nat.zero_le _) hp.1 hp.2 p.2 y λc1 s=>
   J5X hn hr wo ns o w t tb li co be m1 m2 ki (Zk (u:=[]) _ _ List.nodup_nil) (Zk (u:=[]) _ _ List.nodup_nil) (Ja5 (u:=[]) z) (Ja5 (u:=[]) z) (λx hx=>h x (List.mem_cons_of_mem _ hx)) λa' b' c' s'=>k a' b' c' (J2 s s')
end
theorem JcA:(sixR.all λrk=>rgbC.all λa=>Nat.ble (rkC rk a) 2&&rgbC.all λb=>(Nat.beq (rkC rk a) (rkC rk b)==Nat.beq a b))=true:=by kernel_rfl
theorem Jh3 {rk:List Nat} (hr:rk∈sixR) {a:Nat} (ha:a∈rgbC):rkC rk a<=2:=by
 have h:=List.all_eq_true.mp (List.all_eq_true.mp JcA rk hr) a ha
 exact Nat.le_of_ble_eq_true (Bool.and_eq_true_iff.mp h).1
theorem JfM {rk:List Nat} (hr:rk∈sixR) {a b:Nat} (ha:a∈rgbC) (hb:b∈rgbC) (e:rkC rk a=rkC rk b):a=b:=by
 have h:=List.all_eq_true.mp (List.all_eq_true.mp JcA rk hr) a ha
 have h:=beq_iff_eq.mp (List.all_eq_true.mp (Bool.and_eq_true_iff.mp h).2 b hb)
 rw[e,Nat.beq_refl]at h
 exact Nat.eq_of_beq_eq_true h.symm
theorem JdJ {rk:List Nat} (hr:rk∈sixR) {s t:List Nat} (hs: ∀c∈s,c∈rgbC) (ht: ∀c∈t,c∈rgbC) (e:s.map (rkC rk)=t.map (rkC rk)):s=t:=by
 induction s generalizing t with
 |nil=>cases t with
  |nil=>rfl
  |cons b t=>exact nomatch e
 |cons a s ih=>cases t with
  |nil=>exact nomatch e
  |cons b t=>exact congr (congrArg List.cons (JfM hr (hs a List.mem_cons_self) (ht b List.mem_cons_self) (List.cons.inj e).1)) (ih (λc hc=>hs c (List.mem_cons_of_mem _ hc)) (λc hc=>ht c (List.mem_cons_of_mem _ hc)) (List.cons.inj e).2)
noncomputable abbrev KZ (rk w:List Nat):List (List Nat):=(turnsL w).map λt=>t.map (rkC rk)
theorem Yq {n:Nat} {w:List Nat} (W:IsW n w):(turnsL w).length<=6/\ 0<(turnsL w).length/\ ∀t∈turnsL w,t.length=n/\ ∀c∈t,c∈rgbC:=by
 have a:=W.pos
 have b:=W.le
 have c:=W.n56
 have d:=W.len
 unfold turnsL
 rw[List.length_map,List.length_range]
 refine⟨by omega,a,λt ht=>?_⟩
 refine o11 (List.mem_map.mp ht) λk _ q1=>?_;clear ht;subst q1
 unfold turn
 refine⟨by simp only[List.length_append,List.length_drop,List.length_take];omega,λc hc=>?_⟩
 rcases List.mem_append.mp hc with h|h
 ·exact W.rgb c (List.mem_of_mem_drop h)
 ·exact W.rgb c (List.mem_of_mem_take h)
theorem JgS {n:Nat} {w:List Nat} (W:IsW n w) {rk:List Nat} (hr:rk∈sixR):LsOk n (KZ rk w):=by
 refine o02 (Yq W) λa _ c=>?_
 refine⟨by rw[List.length_map];exact a,λl hl=>?_,?_⟩
 ·refine o11 (List.mem_map.mp hl) λt ht q1=>?_;clear hl;subst q1
  refine⟨by rw[List.length_map];exact(c t ht).1,λx hx=>?_⟩
  refine o11 (List.mem_map.mp hx) λs hs q2=>?_;clear hx;subst q2
  exact Jh3 hr ((c t ht).2 s hs)
 ·unfold KZ List.Nodup
  rw[List.pairwise_map]
  exact List.Pairwise.imp_of_mem (λ{s t} hs ht ne e=>ne (JdJ hr (c s hs).2 (c t ht).2 e)) W.nd
theorem J53 {l:List D} {n:Nat} (e:l.length=n) (h:n<=12):J4 (nm "len") [.lst l]=some (.int n):=by
 have q:J4 (nm "len") [.lst l]=if l.length<=1000000 then some (.int l.length)else none:=by kernel_rfl
 rw[q,e,if_pos (Nat.le_trans h (by decide))]
theorem Jba:(List.range 13).map (λn=>binD .Mult (.lst [.int 0]) (.int (n:Nat)))=(List.range 13).foldr (λn r=>some (.lst (J0G (List.replicate n 0)))::r) []:=by kernel_rfl
theorem JcH {l:List D} {n:Nat} (e:l.length=n) (h:n<=12):((J4 (nm "len") [.lst l]).bind λk=>binD .Mult (.lst [.int 0]) k)=some (.lst (J0G (List.replicate n 0))):=
 bdE (J53 e h) (JN Jba (Nat.lt_succ_of_le h))
theorem J9S (ts:List (List Nat)) (be:List Nat):zipD (ts.map wD) (J0G be)=(ts.zip be).map λp=> .tup [wD p.1,.int p.2]:=by
 induction ts generalizing be with
 |nil=>rfl
 |cons t ts ih=>cases be with
  |nil=>rfl
  |cons b be=>exact congrArg (_:: ·) (ih be)
theorem Jet {α β γ:Type} (f:α ->γ) (xs:List α) (ys:List β) (h:xs.length=ys.length):(xs.zip ys).map (λp=>f p.1)=xs.map f:=by
 induction xs generalizing ys with
 |nil=>rfl
 |cons x xs ih=>cases ys with
  |nil=>exact absurd h (Nat.succ_ne_zero _)
  |cons y ys=>exact congrArg (_:: ·) (ih ys (Nat.succ.inj h))
theorem Jeu {α β γ:Type} (f:β ->γ) (xs:List α) (ys:List β) (h:xs.length=ys.length):(xs.zip ys).map (λp=>f p.2)=ys.map f:=by
 induction xs generalizing ys with
 |nil=>cases ys with
  |nil=>rfl
  |cons y ys=>exact absurd h.symm (Nat.succ_ne_zero _)
 |cons x xs ih=>cases ys with
  |nil=>exact absurd h (Nat.succ_ne_zero _)
  |cons y ys=>exact congrArg (_:: ·) (ih ys (Nat.succ.inj h))
noncomputable def leftK (rk w:List Nat) (n:Nat):List Nat:=(turnsL w).map λt=>JaW rk t (YX rk w) n
noncomputable def rightK (rk w:List Nat) (n:Nat):List Nat:=(List.range (turnsL w).length).map λa=>J0J n (turnsL w).length a (YX rk w)
theorem J43 {u v:Tb} {ks ls:List Nat} (h:Tab u ks) (k:Tab v ls):Good (.tup [.lst [.dct (tbD u),.dct (tbD v)],.lst [.dct (tbD u),.dct (tbD v)]]):=by
 refine⟨_,_,rfl,?_⟩
 show((eqD 5 (.dct (tbD u)) (.dct (tbD u))).bind λr=>((eqD 5 (.dct (tbD v)) (.dct (tbD v))).bind λr=>(some true).map (r&& ·)).map (r&& ·))=some true
 rw[J9o h h (.refl _) 3,J9o k k (.refl _) 3];rfl
structure IvOk (I:Iv) (x:Nat×Nat×Nat):Prop where
 hx:x∈JH
 n:I.n=Yt x
 wd:WdOk I.n I.wd
 wt:I.wt=weightL I.n 0 I.wd
 rk:I.rk∈sixR
 tp:I.tp=lD (KD I.rk)
theorem J6K {I:Iv} (hn:I.n=5∨I.n=6) (hw:WdOk I.n I.wd) (ht:I.wt=weightL I.n 0 I.wd) {L:List (List Nat)} (hl:LsOk I.n L) {ts:List D} {m:Nat} (e1:ts.length=m) (e2:L.length=m) (wo tb ki:D) (z:Rho) {ns:List D} {N:Nat} (hN:Nts N ns) (n1:N<=80000) (o w t:D) {G:Prop} (k: ∀ns' o' w' t' be,Nts (N+36) ns' ->be.Perm (List.range m) ->
  step1 L18 scL (rb 6) (C26 I wo ns o w t tb (Q6 (.lst ts) ki (.lst (L.map Km)) (.lst ((L.map (codeI I.wt)).map .int)) (.mls (J0G (List.replicate m 0))) z))=some (C26 I wo ns' o' w' t' tb (Q6 (.lst ts) ki (.lst (L.map Km)) (.lst ((L.map (codeI I.wt)).map .int)) (.mls (J0G be)) z),.next) ->G):G:=by
 have m6:m<=6:=e2▸hl.len
 have l36:N+(List.range m).length*6<=N+36:=Nat.add_le_add_left (Nat.mul_le_mul_right 6 (Nat.le_trans (Nat.le_of_eq List.length_range) m6)) N
 exact J6D hn hw ht hl wo tb (.lst ts) ki z hN (λi hi=>e2▸List.mem_range.mp hi) (List.length_replicate.trans e2.symm) (Nat.le_trans l36 (Nat.le_trans (Nat.add_le_add_right n1 36) (by decide))) λn2 o' w' t' b1 b3=>
  k n2 o' w' t' _ (b1.le l36) (J3z (YC I L) (m:=m) λx y hx hy e=>J1c hn hw ht hl (e2.symm▸hx) (e2.symm▸hy) e)
  ((r6 ..).trans (bdE (bdE (J53 e1 (Nat.le_trans m6 (by decide))) (Zg (Nat.le_trans m6 (by decide)))) b3))
theorem JhM (l:List Nat):Tab (bumps [] l) l:=Tab.nil.bumps (ls:=l)
theorem J2Y {I:Iv} {x:Nat×Nat×Nat} (J:IvOk I x) {wo:List Nat} (hw:wo∈wordsX x) (hm:isMax wo=true) {ns:List D} {N:Nat} (hN:Nts N ns) (n1:N<=80000) (o w t:D) {u v:Tb} {ks ls:List Nat} (hu:Tab u ks) (hv:Tab v ls) (l1:ks.length<=900) (l2:ls.length<=900) (y:Option Zo) {G:Prop} (k: ∀ns' o' w' t' u' v' z,Nts (N+37) ns' ->Tab u' (ks++leftK I.rk wo I.n) ->Tab v' (ls++rightK I.rk wo I.n) ->
  exSs theTop L18 scL (forB (lst 26)) (C26 I (wD wo) ns o w t (.lst [.dct (tbD u),.dct (tbD v)]) (Ta0 y))=some (C26 I (wD wo) ns' o' w' t' (.lst [.dct (tbD u'),.dct (tbD v')]) (Ta0 (some z)),.next) ->G):G:=by
 have W:IsW I.n wo:=J.n▸ZU J.hx hw
 have hn:=W.n56
 refine o02 (Yq W) λf1 f2 f3=>?_
 have L:=JgS W J.rk
 have h12: ∀{k:Nat},k<=6 ->k<=12:=λh=>Nat.le_trans h (by decide)
 have lm:((turnsL wo).map wD).length=(turnsL wo).length:=List.length_map _
 have lk:=(List.length_map (as:=turnsL wo) λt=>t.map (rkC I.rk))
 refine J6K hn J.wd J.wt L lm lk (wD wo) (.lst [.dct (tbD u),.dct (tbD v)]) (.int (YX I.rk wo:Nat)) (Ta5 y) hN n1 o w t λn2 o' w' t' be b1 bp e6=>?_
 have bl:be.length=(turnsL wo).length:=bp.length_eq.trans List.length_range
 have zl:((turnsL wo).zip be).length=(turnsL wo).length:=by rw[List.length_zip,bl,Nat.min_self]
 refine J7G hn J.rk (wD wo) n2 o' w' t' (.lst [.dct (tbD u),.dct (tbD v)]) (.lst ((KZ I.rk wo).map Km)) (.lst (((KZ I.rk wo).map (codeI I.wt)).map .int)) (.lst (J0G be)) (ts:=(turnsL wo).map wD) (lm▸f2) (lm▸h12 f1) (YX I.rk wo) ((turnsL wo).zip be) (zl▸f2) (zl▸Nat.le_trans f1 (by decide)) (λq hq=>⟨(f3 q.1 (List.of_mem_zip hq).1).2,(f3 q.1 (List.of_mem_zip hq).1).1⟩) (yOf y) λta tc td c=>?_
 rw[lm,Jet (λt=>JaW I.rk t (YX I.rk wo) I.n) _ _ bl.symm,Jeu (λa=>J0J I.n (turnsL wo).length a (YX I.rk wo)) _ _ bl.symm]at c
 have T1:=JhM (leftK I.rk wo I.n)
 have T2:=(JhM (be.map λa=>J0J I.n (turnsL wo).length a (YX I.rk wo))).congr (bp.map _)
 have t1:=Nat.le_trans T1.len (show(leftK I.rk wo I.n).length<=6 from(List.length_map (as:=turnsL wo) _).symm▸f1)
 have t2:=Nat.le_trans T2.len (show _<=6 by rw[List.length_map,List.length_range];exact f1)
 have d1: ∀{u:Tb} {ks:List Nat},u.length<=ks.length ->ks.length<=900 ->(tbD u).length<=1000:=λ{u ks} h k=>(List.length_map (as:=u) _).symm▸Nat.le_trans h (Nat.le_trans k (by decide))
 exact k _ o' w' t' _ _ ⟨.lst ((turnsL wo).map wD),.int (YX I.rk wo:Nat),.lst ((KZ I.rk wo).map Km),.lst (((KZ I.rk wo).map (codeI I.wt)).map .int),.lst (J0G be),.dct (tbD (bumps [] (leftK I.rk wo I.n))),.dct (tbD (bumps [] (be.map λa=>J0J I.n (turnsL wo).length a (YX I.rk wo)))),ta,tc,td,.lst [.dct (tbD u),.dct (tbD v)],.lst [.dct (tbD u),.dct (tbD v)]⟩
  (b1.add (J43 hu hv)) (hu.add T1) (hv.add T2)
  (Jho▸J0 ((r0 ..).trans (bdE (J5D W) rfl)) (J0 ((r1 ..).trans (bdE ((Jcu J.hx hw).trans (congrArg (λb=>some (!b)) hm)) rfl))
  (J0 ((r2 ..).trans (bdE ((congrArg (JaY _ _) J.tp).trans (Jdx J.hx hw J.rk)) rfl)) (J0 ((r3 ..).trans (bdE ((Jb1 J.rk (λt ht=>⟨(f3 t ht).1.symm▸h12 (n6 hn),(f3 t ht).2⟩) (h12 f1)).trans (congrArg (λl=>some (D.lst l)) (List.map_map (g:=Km)).symm)) rfl))
  (J0 ((r4 ..).trans (bdE (Jap (n:=I.n) (h12 (n6 hn)) (J.wt.symm▸J.wd.wt hn) L.row (h12 L.len)) rfl)) (J0 ((r5 ..).trans (bdE (JcH lm (h12 f1)) rfl)) (J0 e6 (J0 (r7 ..)
  (J0 ((r8 ..).trans (bdE (ifE (by rw[lm,List.length_map,bl];exact beq_self_eq_true _) (congrArg some (J9S ..))) c)) (J0 ((r9 ..).trans (bdE (bdE (bdE (Jd6 (d1 hu.len l1) (d1 hv.len l2)) rfl) rfl) (mpE (r9b ..) rfl)))
  (J0 ((r10 ..).trans (bdE (mpE (bdE (Jce hu.nd (Nat.le_trans (Nat.add_le_add (Nat.le_trans hu.len l1) t1) (by decide))) (bdE (bdE (Jce hv.nd (Nat.le_trans (Nat.add_le_add (Nat.le_trans hv.len l2) t2) (by decide))) rfl) rfl)) rfl) rfl))
  (J0 ((r11 ..).trans (ifE (b1.to (Nat.le_trans (Nat.add_le_add_right n1 36) (by decide))) rfl)) rfl))))))))))))
theorem J9d {I:Iv} {x:Nat×Nat×Nat} (J:IvOk I x) {wo:List Nat} (hw:wo∈wordsX x) (hm:isMax wo=false) (ns:List D) (o w t tb:D) (z:Zo):
  exSs theTop L18 scL (forB (lst 26)) (C26 I (wD wo) ns o w t tb (Ta0 (some z)))=some (C26 I (wD wo) ns o w t tb (Ta0 (some {z with tu:= .lst ((turnsL wo).map wD)})),.cont):=by
 have W:IsW I.n wo:=by rw[J.n];exact ZU J.hx hw
 have e0:=r0 I (wD wo) ns o w t tb (some z)
 rw[J5D W]at e0
 have e1:=r1 I (wD wo) ns o w t tb (.lst ((turnsL wo).map wD)) (some z)
 rw[Jcu J.hx hw,hm]at e1
 rw[Jho]
 exact J0 e0 (J7N e1)
noncomputable def leftR (rk:List Nat) (n:Nat) (ws:List (List Nat)):List Nat:=(ws.filter isMax).flatMap λw=>leftK rk w n
noncomputable def rightR (rk:List Nat) (n:Nat) (ws:List (List Nat)):List Nat:=(ws.filter isMax).flatMap λw=>rightK rk w n
theorem VJ {n:Nat} {w:List Nat} (W:IsW n w) (rk:List Nat):(leftK rk w n).length<=6/\ (rightK rk w n).length<=6:=by
 refine o02 (Yq W) λf1 _ _=>?_
 unfold leftK rightK
 simp only[List.length_map,List.length_map,List.length_range]
 exact⟨f1,f1⟩
theorem J52 {rk a:List Nat} {n:Nat} {ws:List (List Nat)} (h:isMax a=false):leftR rk n (a::ws)=leftR rk n ws/\ rightR rk n (a::ws)=rightR rk n ws:=by
 have e:(a::ws).filter isMax=ws.filter isMax:=List.filter_cons_of_neg (h▸Bool.false_ne_true)
 exact⟨congrArg (List.flatMap λw=>leftK rk w n) e,congrArg (List.flatMap λw=>rightK rk w n) e⟩
theorem Vh {rk a:List Nat} {n:Nat} {ws:List (List Nat)} (h:isMax a=true):leftR rk n (a::ws)=leftK rk a n++leftR rk n ws/\ rightR rk n (a::ws)=rightK rk a n++rightR rk n ws:=by
 have e:(a::ws).filter isMax=a::ws.filter isMax:=List.filter_cons_of_pos h
 exact⟨congrArg (List.flatMap λw=>leftK rk w n) e,congrArg (List.flatMap λw=>rightK rk w n) e⟩
theorem Jhn {l l':List Nat} {k N:Nat} (h:l.length+(k+1)*6<=N) (h':l'.length<=6):(l++l').length+k*6<=N:=
 List.length_append (as:=l)▸Nat.le_trans (Nat.add_le_add_right (Nat.add_le_add_left h' _) _) (mq l.length k 6▸h)
theorem J6L {I:Iv} {x:Nat×Nat×Nat} (J:IvOk I x) {ws:List (List Nat)} {ns:List D} {N:Nat} (hN:Nts N ns) {wo o w t:D} {u v:Tb} {ks ls:List Nat} {z:Zo} (hws: ∀w∈ws,w∈wordsX x) (hn:N+ws.length*40<=70000) (hu:Tab u ks) (hv:Tab v ls) (l1:ks.length+ws.length*6<=900) (l2:ls.length+ws.length*6<=900)
  {G:Prop} (k: ∀ns' wo' o' w' t' u' v' z',Nts (N+ws.length*40) ns' ->Tab u' (ks++leftR I.rk I.n ws) ->Tab v' (ls++rightR I.rk I.n ws) ->
  loopX (forF L19 scL (lst 26)) (ws.map wD) (C26 I wo ns o w t (.lst [.dct (tbD u),.dct (tbD v)]) (Ta0 (some z)))=some (C26 I wo' ns' o' w' t' (.lst [.dct (tbD u'),.dct (tbD v')]) (Ta0 (some z')),.next) ->G):G:=by
 induction ws generalizing ns N wo o w t u v ks ls z with
 |nil=>exact k ns wo o w t u v z hN ((List.append_nil ks).symm▸hu) ((List.append_nil ls).symm▸hv) rfl
 |cons a ws ih=>
  have ha:=hws a List.mem_cons_self
  have hr: ∀w∈ws,w∈wordsX x:=λx hx=>hws x (List.mem_cons_of_mem _ hx)
  have e:=mq N ws.length 40
  have a40: ∀{n:Nat},n<=40 ->N+n+ws.length*40<=70000:=λh=>Nat.le_trans (Nat.add_le_add_right (Nat.add_le_add_left h N) _) (e▸hn)
  have n40: ∀{n:Nat} {l:List D},n<=40 ->Nts (N+n+ws.length*40) l ->Nts (N+(ws.length+1)*40) l:=λh g=>g.le (e▸Nat.add_le_add_right (Nat.add_le_add_left h N) _)
  have N8:N<=80000:=Nat.le_trans (Nat.le_add_right ..) (Nat.le_trans hn (by decide))
  have lk:=VJ (show IsW I.n a from J.n▸ZU J.hx ha) I.rk
  have d6: ∀{n:Nat},n+(ws.length+1)*6<=900 ->n+ws.length*6<=900:=λh=>Nat.le_trans (Nat.add_le_add_left (Nat.mul_le_mul_right 6 (Nat.le_succ _)) _) h
  cases hm:isMax a with
  |false=>
   refine ih (N:=N+0) (wo:=wD a) (o:=o) (w:=w) (t:=t) (z:={z with tu:= .lst ((turnsL a).map wD)}) hN hr (a40 (Nat.zero_le _)) hu hv (d6 l1) (d6 l2) λn2 wo' o' w' t' u' v' z' b1 b3 b4 b5=>?_
   exact k n2 wo' o' w' t' u' v' z' (n40 (Nat.zero_le _) b1) ((J52 hm).1.symm▸b3) ((J52 hm).2.symm▸b4) (J8v ((Jec ..).trans (J9d J ha hm ns o w t _ z)) b5)
  |true=>
   exact J2Y J ha hm hN N8 o w t hu hv (Nat.le_trans (Nat.le_add_right ..) l1) (Nat.le_trans (Nat.le_add_right ..) l2) (some z) λn1 o1 w1 t1 u1 v1 z1 a1 a3 a4 a5=>
    ih a1 hr (a40 (by decide)) a3 a4 (Jhn l1 lk.1) (Jhn l2 lk.2) λn2 wo' o' w' t' u' v' z' b1 b3 b4 b5=>
    k n2 wo' o' w' t' u' v' z' (n40 (by decide) b1) ((Vh hm).1▸List.append_assoc .. ▸b3) ((Vh hm).2▸List.append_assoc .. ▸b4) (J2 ((Jec ..).trans a5) b5)
theorem Vz:(JH.all λx=>match wordsX x with|w::r=>isMax w&&Nat.ble r.length 99|[]=>false)=true:=by kernel_rfl
theorem J94 {I:Iv} {x:Nat×Nat×Nat} (J:IvOk I x) {ns:List D} (hN:Nts 1000 ns) (wo o w t:D) {G:Prop} (k: ∀ns' wo' o' w' t' u v z,Nts 6000 ns' ->Tab u (leftR I.rk I.n (wordsX x)) ->Tab v (rightR I.rk I.n (wordsX x)) ->
  loopX (forF L19 scL (lst 26)) ((wordsX x).map wD) (C26 I wo ns o w t (.lst [.dct [],.dct []]) [])=some (C26 I wo' ns' o' w' t' (.lst [.dct (tbD u),.dct (tbD v)]) (Ta0 (some z)),.next) ->G):G:=by
 have h:=List.all_eq_true.mp Vz x J.hx
 generalize eq:wordsX x=l at h k
 induction l with
 |nil=>exact Bool.noConfusion h
 |cons a ws _=>
  refine o01 (Bool.and_eq_true_iff.mp h) λhm hl=>?_
  have hl:ws.length<=99:=Nat.le_of_ble_eq_true hl
  have hws: ∀w∈a::ws,w∈wordsX x:=λw h=>eq▸h
  have ha:=hws a List.mem_cons_self
  have lk:=VJ (show IsW I.n a from J.n▸ZU J.hx ha) I.rk
  have l0: ∀{l':List Nat},l'.length<=6 ->l'.length+ws.length*6<=900:=λh=>Nat.le_trans (Nat.add_le_add h (Nat.mul_le_mul_right 6 hl)) (by decide)
  exact J2Y J ha hm hN (by decide) o w t Tab.nil Tab.nil (Nat.zero_le _) (Nat.zero_le _) none λn1 o1 w1 t1 u1 v1 z1 a1 a3 a4 a5=>
   J6L J a1 (λx hx=>hws x (List.mem_cons_of_mem _ hx)) (Nat.le_trans (Nat.add_le_add_left (Nat.mul_le_mul_right 40 hl) _) (by decide)) a3 a4 (l0 lk.1) (l0 lk.2) λn2 wo' o' w' t' u' v' z' b1 b3 b4 b5=>
   k n2 wo' o' w' t' u' v' z' (b1.le (Nat.le_trans (Nat.add_le_add_left (Nat.mul_le_mul_right 40 hl) _) (by decide))) ((Vh hm).1▸b3) ((Vh hm).2▸b4) (J2 ((Jec ..).trans a5) b5)
noncomputable def fs:Nat ->Nat ->List Nat ->Nat
 |_,_,[]=>0
 |a,k,b::r=>(bif Nat.blt b a then k else 0)+fs b (k+1) r
noncomputable def fc:Nat ->List Nat ->Nat
 |_,[]=>0
 |a,b::r=>(bif Nat.blt b a then 1 else 0)+fc b r
noncomputable def Jdg:List Nat ->Nat
 |[]=>0
 |a::l=>fs a 1 l
noncomputable def J96:List Nat ->Nat
 |[]=>0
 |a::l=>fc (l.getLastD a) (a::l)
noncomputable def JaZ (l:List Nat):Nat:=10*J96 l+J96 (l.filter λx=>!(Nat.beq x 2))
noncomputable def J5C:Nat ->List Nat ->List (List Nat)
 |0,_=>[]
 |k+1,l=>l::J5C k (match l with|[]=>[]|a::r=>r++[a])
noncomputable def Jdy (n p:Nat) (l:List Nat):List Nat:=(J5C p l).map λt=>100*JaZ l+Jdg t%n
noncomputable def J93 (n p:Nat) (l:List Nat):List Nat:=(List.range p).map λa=>100*JaZ l+n/p*a%n
theorem Jc7 (a:Nat) (r:List Nat) {k:Nat} (h:k<=r.length):turn (r++[a]) k=turn (a::r) (k+1):=by
 unfold turn
 simp only[List.drop_append_of_le_length h,List.take_append_of_le_length h,List.drop_succ_cons,List.take_succ_cons,List.append_assoc];rfl
theorem J3m: ∀(p:Nat) (l:List Nat),p<=l.length ->J5C p l=(List.range p).map (turn l)
 |0,_,_=>rfl
 |p+1,[],h=>by simp at h
 |p+1,a::r,h=>by
  rw[List.length_cons]at h
  simp only[J5C,J3m p (r++[a]) (by simp only[List.length_append,List.length_singleton];lia),List.range_succ_eq_map,List.map_cons,List.map_map]
  congr 1
  ·unfold turn;simp
  ·refine List.map_congr_left λk hk=>?_
   have:=List.mem_range.mp hk
   exact Jc7 a r (by lia)
theorem Jdh (rk:List Nat) {t:List Nat} (h:t.length=5∨t.length=6):(KR rk t).sum=Jdg (t.map (rkC rk)):=by
 rcases h with h|h
 ·refine o50 (JdG h) λa b c d e q1=>?_;clear h;subst q1
  show(([0,1,2,3]:List Nat).flatMap λk=>if Jc rk ([a,b,c,d,e].getD k 0) ([a,b,c,d,e].getD (k+1) 0)then[k+1]else[]).sum=(bif Jc rk a b then 1 else 0)+((bif Jc rk b c then 2 else 0)+((bif Jc rk c d then 3 else 0)+((bif Jc rk d e then 4 else 0)+0)))
  simp only[List.flatMap_cons,List.flatMap_nil,List.getD_cons_zero,List.getD_cons_succ]
  generalize Jc rk a b=x1
  generalize Jc rk b c=x2
  generalize Jc rk c d=x3
  generalize Jc rk d e=x4
  cases x1<;>cases x2<;>cases x3<;>cases x4<;>rfl
 ·refine o60 (JdH h) λa b c d e f q2=>?_;clear h;subst q2
  show(([0,1,2,3,4]:List Nat).flatMap λk=>if Jc rk ([a,b,c,d,e,f].getD k 0) ([a,b,c,d,e,f].getD (k+1) 0)then[k+1]else[]).sum=(bif Jc rk a b then 1 else 0)+((bif Jc rk b c then 2 else 0)+((bif Jc rk c d then 3 else 0)+((bif Jc rk d e then 4 else 0)+((bif Jc rk e f then 5 else 0)+0))))
  simp only[List.flatMap_cons,List.flatMap_nil,List.getD_cons_zero,List.getD_cons_succ]
  generalize Jc rk a b=x1
  generalize Jc rk b c=x2
  generalize Jc rk c d=x3
  generalize Jc rk d e=x4
  generalize Jc rk e f=x5
  cases x1<;>cases x2<;>cases x3<;>cases x4<;>cases x5<;>rfl
theorem J7R (rk:List Nat): ∀(l:List Nat) (a:Nat),((List.range l.length).map λk=>Jc rk (if k=0 then a else l.getD (k-1) 0) (l.getD k 0)).count true=fc (rkC rk a) (l.map (rkC rk))
 |[],a=>rfl
 |b::l,a=>by
  simp only[List.length_cons,List.range_succ_eq_map,List.map_cons,List.map_map,List.count_cons]
  have ih:=J7R rk l b
  have e:((List.range l.length).map ((λk=>Jc rk (if k=0 then a else(b::l).getD (k-1) 0) ((b::l).getD k 0))∘Nat.succ))=(List.range l.length).map λk=>Jc rk (if k=0 then b else l.getD (k-1) 0) (l.getD k 0):=List.map_congr_left λk _=>by
   cases k with
   |zero=>rfl
   |succ k=>rfl
  simp only[e,ih]
  show _=(bif Jc rk a b then 1 else 0)+fc (rkC rk b) (l.map (rkC rk))
  rw[Nat.add_comm]
  show(if(Jc rk a b==true)=true then 1 else 0)+_=_
  cases Jc rk a b<;>rfl
theorem J5t (rk l:List Nat):J0d rk l=J96 (l.map (rkC rk)):=by
 unfold J0d J30
 cases l with
 |nil=>rfl
 |cons b l=>
  have h:=J7R rk (b::l) ((b::l).getD l.length 0)
  have e:((List.range (b::l).length).map λk=>Jc rk ((b::l).getD (if k=0 then(b::l).length-1 else k-1) 0) ((b::l).getD k 0))=(List.range (b::l).length).map λk=>Jc rk (if k=0 then(b::l).getD l.length 0 else(b::l).getD (k-1) 0) ((b::l).getD k 0):=List.map_congr_left λk _=>by
   split<;>rfl
  simp only[e,h]
  show fc _ _=fc ((l.map (rkC rk)).getLastD (rkC rk b)) _
  have g: ∀(l:List Nat) (b:Nat),rkC rk ((b::l).getD l.length 0)=(l.map (rkC rk)).getLastD (rkC rk b):=λl=>by
   induction l with
   |nil=>intro b;rfl
   |cons c l ih=>intro b;simp only[List.map_cons,List.getLastD_cons];exact ih c
  rw[g];rfl
theorem Jej:(sixR.all λrk=>rgbC.all λa=>((a !=KD rk)==!(Nat.beq (rkC rk a) 2)))=true:=by kernel_rfl
theorem J1r {rk:List Nat} (hr:rk∈sixR): ∀{w:List Nat},(∀c∈w,c∈rgbC) ->(w.filter (· !=KD rk)).map (rkC rk)=(w.map (rkC rk)).filter λx=>!(Nat.beq x 2)
 |[],_=>rfl
 |a::w,h=>by
  have e:(a !=KD rk)=!(Nat.beq (rkC rk a) 2):=beq_iff_eq.mp (List.all_eq_true.mp (List.all_eq_true.mp Jej rk hr) a (h a List.mem_cons_self))
  have ih:=J1r hr (w:=w) λc hc=>h c (List.mem_cons_of_mem _ hc)
  simp only[List.map_cons,List.filter_cons,List.filter_cons,e]
  split
  ·simp only[List.map_cons,ih]
  ·exact ih
theorem J8m {rk:List Nat} (hr:rk∈sixR) {w:List Nat} (h: ∀c∈w,c∈rgbC):YX rk w=JaZ (w.map (rkC rk)):=by
 unfold YX JaZ
 simp only[J5t,J5t,J1r hr h]
theorem Jdz {rk:List Nat} (hr:rk∈sixR) {n:Nat} {w:List Nat} (W:IsW n w):leftK rk w n=Jdy n (JZ w) (w.map (rkC rk))/\ rightK rk w n=J93 n (JZ w) (w.map (rkC rk)):=by
 refine o02 (Yq W) λ_ _ f3=>?_
 have hn:=W.n56
 have hp:(turnsL w).length=JZ w:=by unfold turnsL;rw[List.length_map,List.length_range]
 refine⟨?_,?_⟩
 ·unfold leftK Jdy
  rw[<-J8m hr W.rgb,J3m _ _ (by rw[List.length_map,W.len];exact W.le),List.map_map]
  unfold turnsL
  rw[List.map_map]
  refine List.map_congr_left λk hk=>?_
  have:=f3 (turn w k) (List.mem_map_of_mem hk)
  show JaW rk (turn w k) (YX rk w) n=100*YX rk w+Jdg (turn (w.map (rkC rk)) k)%n
  unfold JaW
  rw[Jdh rk (by rw[this.1];exact hn)]
  unfold turn
  simp only[List.map_append,List.map_drop,List.map_take]
 ·unfold rightK J93
  rw[<-J8m hr W.rgb,hp];rfl
noncomputable def enc:List Nat ->Nat
 |[]=>0
 |k::r=>2^(12*k)+enc r
theorem J1l (k:Nat): ∀l:List Nat,∃A B,enc l=A+l.count k*2^(12*k)+B*(4096*2^(12*k))/\ A*4096<=l.length*2^(12*k)
 |[]=>⟨0,0,by simp[enc],by simp⟩
 |a::r=>by
  refine o21 (J1l k r) λA B h1 h2=>?_
  rw[enc,h1,List.length_cons,Nat.add_mul,List.count_cons]
  rcases Nat.lt_trichotomy a k with h|h|h
  ·have e:2^(12*a)*4096<=2^(12*k):=by
    rw[show(4096:Nat)=2^12 from rfl,<-Nat.pow_add]
    exact Nat.pow_le_pow_right (by lia) (by lia)
   refine⟨2^(12*a)+A,B,?_,by lia⟩
   rw[if_neg (by simp;lia),Nat.add_zero]
   lia
  ·subst h
   refine⟨A,B,?_,by lia⟩
   rw[if_pos (by simp),Nat.add_mul]
   lia
  ·have e:2^(12*a)=2^(12*(a-k-1))*(4096*2^(12*k)):=by
    rw[show(4096:Nat)=2^12 from rfl,<-Nat.pow_add,<-Nat.pow_add]
    congr 1;lia
   refine⟨A,B+2^(12*(a-k-1)),?_,by lia⟩
   rw[if_neg (by simp;lia),Nat.add_zero,Nat.add_mul,<-e]
   lia
theorem J1k {l:List Nat} (h:l.length<4096) (k:Nat):enc l/2^(12*k)%4096=l.count k:=by
 refine o21 (J1l k l) λA B h1 h2=>?_
 have hp:0<2^(12*k):=Nat.two_pow_pos _
 have hc:l.count k<=l.length:=List.count_le_length
 have hA:A<2^(12*k):=by
  have:l.length*2^(12*k)<=4095*2^(12*k):=Nat.mul_le_mul_right _ (by lia)
  lia
 simp only[h1,show A+l.count k*2^(12*k)+B*(4096*2^(12*k))=A+(l.count k+B*4096)*2^(12*k) by simp only[Nat.add_mul,Nat.mul_assoc];lia,Nat.add_mul_div_right _ _ hp,Nat.div_eq_of_lt hA]
 lia
theorem JbF {l r:List Nat} (h1:l.length<4096) (h2:r.length<4096) (h:enc l=enc r):l.Perm r:=
 List.perm_iff_count.mpr λk=>by rw[<-J1k h1,<-J1k h2,h]
noncomputable def J2Z (x:Nat×Nat×Nat):List (Nat×List Nat):=((wordsX x).filter isMax).map λw=>(JZ w,w)
noncomputable def J8M (n:Nat) (rs:List (Nat×List Nat)) (rk:List Nat):Bool:=Nat.beq (enc (rs.flatMap λp=>Jdy n p.1 (p.2.map (rkC rk)))) (enc (rs.flatMap λp=>J93 n p.1 (p.2.map (rkC rk))))
theorem JaX:(JH.all λx=>sixR.all λrk=>J8M (Yt x) (J2Z x) rk)=true:=by kernel_rfl
theorem J3S {f g:List Nat ->List Nat}: ∀{ws:List (List Nat)},(∀w∈ws,f w=g w) ->ws.flatMap f=ws.flatMap g
 |[],_=>rfl
 |w::ws,h=>by simp only[List.flatMap_cons,List.flatMap_cons,h w List.mem_cons_self,J3S λx hx=>h x (List.mem_cons_of_mem _ hx)]
theorem J0z {f:List Nat ->List Nat}: ∀{ws:List (List Nat)},(∀w∈ws,(f w).length<=6) ->(ws.flatMap f).length<=ws.length*6
 |[],_=>Nat.le_refl _
 |w::ws,h=>by
  have a:=h w List.mem_cons_self
  have b:=J0z λx hx=>h x (List.mem_cons_of_mem w hx)
  simp only[List.flatMap_cons,List.length_append,List.length_cons];lia
theorem J8l {x:Nat×Nat×Nat} (hx:x∈JH) {rk:List Nat} (hr:rk∈sixR):(leftR rk (Yt x) (wordsX x)).Perm (rightR rk (Yt x) (wordsX x)):=by
 have h:J8M (Yt x) (J2Z x) rk=true:=List.all_eq_true.mp (List.all_eq_true.mp JaX x hx) rk hr
 have hf:(wordsX x).length<=100:=by
  have h:=List.all_eq_true.mp Vz x hx
  generalize wordsX x=l at h
  match l,h with
  |a::ws,h=>exact Nat.succ_le_succ (Nat.le_of_ble_eq_true (Bool.and_eq_true_iff.mp h).2)
 unfold J8M J2Z at h
 simp only[List.flatMap_map,List.flatMap_map]at h
 have hf':=Nat.le_trans (List.length_filter_le isMax _) hf
 have e: ∀w∈(wordsX x).filter isMax,_:=λw hw=>Jdz hr (ZU hx (List.mem_filter.mp hw).1)
 have l: ∀w∈(wordsX x).filter isMax,_:=λw hw=>VJ (ZU hx (List.mem_filter.mp hw).1) rk
 have l1:=J0z (ws:=(wordsX x).filter isMax) λw hw=>(l w hw).1
 have l2:=J0z (ws:=(wordsX x).filter isMax) λw hw=>(l w hw).2
 unfold leftR rightR
 refine JbF (by omega) (by omega) ?_
 simp only[J3S λw hw=>(e w hw).1,J3S (f:=λw=>rightK rk w (Yt x)) λw hw=>(e w hw).2]
 exact Nat.eq_of_beq_eq_true h
noncomputable abbrev C27 (I:Iv) (wo:D) (ns:List D) (o w t tb wy sn:D) (z:Rho):Rho:=B0 I.X++(nm "many",.val I.m)::(nm "pool",.mls [])::(nm "word",.val wo)::(nm "draw",.val I.dr)::(nm "size",.val (.int I.n))::(nm "typed",.val I.ty)::(nm "gone",.val I.go)::(nm "text",.val I.tx)::(nm "notes",.mls ns)::(nm "counts",.val I.ct)::(nm "rows",.val I.rw)::(nm "plain",.val I.pl)::(nm "order",.val I.od)::(nm "chooser",.val (.obj (.lst (I.wd.map pairI))))::(nm "fall",.val (.dct (JM I.rk)))::(nm "one",.val o)::(nm "two",.val w)::(nm "told",.val t)::(nm "gap",.val I.g)::(nm "rank",.val (.dct (J0Q I.rk)))::(nm "top",.val I.tp)::(nm "step",.val I.sp)::(nm "wide",.val (.lst (I.wd.map pairI)))::(nm "weights",.val (.lst (I.wt.map pairI)))::(nm "ways",.val wy)::(nm "seen",.val sn)::(nm "words",.val (.lst I.ws))::(nm "tables",.val tb)::z
noncomputable def Jc9 (s w:Nat):Nat ->Nat ->Nat
 |0,_=>w
 |k+1,j=>Jc9 (s+1) (w*(s+1)/(j+1)) k (j+1)
noncomputable def J71 (x:Nat×Nat×Nat):Nat:=Jc9 (x.1+x.2.1) (Jc9 x.1 (Jc9 0 1 x.1 0) x.2.1 0) x.2.2 0
noncomputable def Jff (x:Nat×Nat×Nat):Nat:=if x.2.2 !=0 then x.2.2-1 else if x.2.1 !=0 then x.2.1-1 else x.1-1
theorem J5E:(JH.all λx=>Nat.beq ((J2Z x).map (·.1)).sum (J71 x)&&Nat.ble (J71 x) 100)=true:=by kernel_rfl
section
variable (I:Iv) (wo:D) (ns:List D) (o w t tb:D)
noncomputable def Jg5 (I:Iv) (x:Nat×Nat×Nat):Iv:={I with ct:=ctD x.1 x.2.1 x.2.2,sn:= .int 0}
noncomputable def Jhi (I:Iv) (wo:D) (ns:List D) (o w t tb:D) (z:Zo) (l:List (Nat×Nat×Nat)):Prop:=l.map (λx=>step1 L19 scL (lst 27) (C26 (Jg5 I x) wo ns o w t tb (Ta0 (some z))))=
 l.foldr (λx r=>some (C27 (Jg5 I x) wo ns o w t tb (.int (J71 x)) (.int (Yt x)) (Ta0 (some z)++[(nm "count",.val (.int x.2.2)),(nm "k",.val (.int (Jff x)))]),.next)::r) []
theorem s27 (z:Zo):Jhi I wo ns o w t tb z JH:=by
 obtain⟨⟨t,v,q,nn,a,b,c,d,e⟩,m,dr,n,ty,go,tx,ct,rw,pl,od,wd,rk,g,tp,sp,wt,sn,ws⟩:=I;unfold Jhi;cases t<;>kernel_rfl
theorem JiX {x:Nat×Nat×Nat} (hx:x∈JH) (hc:I.ct=ctD x.1 x.2.1 x.2.2) (hs:I.sn= .int 0) (z:Zo):step1 L19 scL (lst 27) (C26 I wo ns o w t tb (Ta0 (some z)))=some (C27 I wo ns o w t tb (.int (J71 x)) (.int (Yt x)) (Ta0 (some z)++[(nm "count",.val (.int x.2.2)),(nm "k",.val (.int (Jff x)))]),.next):=by
 have e:Jg5 I x=I:=by unfold Jg5;rw[<-hc,<-hs]
 rw[<-e]
 exact J8y (s27 I wo ns o w t tb z) hx
variable (wy sn:D) (z:Rho)
theorem JiY (ta tc:D):step1 L19 scL (lst 28) (C27 I wo ns o w t (.lst [ta,tc]) wy sn z)=if ns.length<=1000000 then some (C27 I wo (ns++[.tup [ta,tc]]) o w t (.lst [ta,tc]) wy sn z,.next)else none:=by
 refine Iv.tt I ?_ ?_<;>kernel_rfl
theorem JiZ (ta tc:D):step1 L19 scL (lst 29) (C27 I wo ns o w t (.lst [ta,tc]) wy sn z)=(((((callF L16 (fnAt 3) [ta]).bind λd=>some [d]).bind (J4 (nm "str"))).bind λa=>((J4 (nm "str") [wy]).bind λb=>some [b]).bind λbs=>some (a::bs)).map .tup).bind λd=>if ns.length<=1000000 then some (C27 I wo (ns++[d]) o w t (.lst [ta,tc]) wy sn z,.next)else none:=by
 refine Iv.tt I ?_ ?_<;>kernel_rfl
noncomputable def Ji8:Expr ->Expr
 | .Compare l _ _ _=>l
 |e=>e
noncomputable abbrev Jgt:Expr:=Ji8 (JU (lst 30))
theorem Jj0:step1 L19 scL (lst 30) (C27 I wo ns o w t tb wy sn z)=(((((J6 (clF L17 Jgt []) ns).bind YK).map .lst).bind λd=>Kj .Eq d (.lst [])).map .bool).map λd=>(frzAll [nm "notes"] (C27 I wo ns o w t tb wy sn z),.ret d):=by
 refine Iv.tt I ?_ ?_<;>kernel_rfl
end
theorem JeN (a b:D):clF L17 Jgt [] (.tup [a,b])=(((eqD Vt a b).map (!·)).bind λt=>if t then some true else some false).bind λt=>if t then some [.tup [a,b]]else some []:=by kernel_rfl
theorem Jav {ns:List D} (h: ∀n∈ns,Good n):J6 (clF L17 Jgt []) ns=some []:=by
 induction ns with
 |nil=>rfl
 |cons n ns ih=>
  refine o21 (h n List.mem_cons_self) λa b q1 e=>?_;subst q1
  refine gC (xs:=[]) ?_ (ih λx hx=>h x (List.mem_cons_of_mem _ hx))
  rw[JeN,e];rfl
noncomputable def J77 (sts:List Stmt) (ρ ρ':Rho):Prop:= ∀(r:List Stmt) (z:Option (Rho×Fl)),exSs theTop L19 scL r ρ'=z ->exSs theTop L19 scL (sts++r) ρ=z
theorem J77.nil (ρ:Rho):J77 [] ρ ρ:=λ_ _ h=>h
theorem J77.cons {st:Stmt} {sts:List Stmt} {ρ ρ' ρ'':Rho} (h:step1 L19 scL st ρ=some (ρ',.next)) (k:J77 sts ρ' ρ''):J77 (st::sts) ρ ρ'':=λr z e=>J0 h (k r z e)
theorem JbH: ∀m∈manyL,∀tu∈turnedL,(poolL m tu).length=Jef m/\ (Jef m=5∨Jef m=6)/\ (∀c∈poolL m tu,c∈rgbC)/\ (poolL m tu).length=Yt (Jc5 m tu):=by decide+kernel
theorem J8H:(List.range 7).map (λn=>eqD Vt (J1U n) (J1U n))=(List.range 7).foldr (λ_ r=>some true::r) []:=by kernel_rfl
theorem J6d {n:Nat} (h:n<=6):Good (.tup [J1U n,J1U n]):=⟨_,_,rfl,JN (g:=λ_=>some true) J8H (Nat.lt_succ_of_le h)⟩
theorem J7H (w:List Nat):(((J6 (λd=>(ZO (sD w) [d]).map λd=>[d]) Jg9).bind YK).map D.lst)=some (ctD (w.count 114) (w.count 103) (w.count 98)):=by
 rw[Jo lD (λc=> .int (w.count c:Nat)) λc _=>by rw[J1i];rfl]
 rfl
theorem JcG (X:Cl) (m w dr sz:D) (ty go:List D) (tx:D) (ns:List D) (ct:D):B12 X m w dr sz ty go tx ns ct=C12 ⟨X,m,w,dr,sz,.lst ty,.lst go,tx,ct⟩ ns:=by
 obtain⟨t,v,p,q,a,b,c,d,e⟩:=X;cases t<;>rfl
theorem Jc8 {w:List Nat} (wl:w.length=5∨w.length=6) (wc: ∀c∈w,c∈rgbC) (e:Int) {G:Prop} (f: ∀cs,cs≠[] ->(∀c∈cs,c∈signsL) ->cs.length<=6 ->cs.flatMap back=w ->((truthy (.int (e.fmod 2))).bind λc=>if c then ZE (sD w) [wD [103,98],lD 13191]else some (wD w))=some (wD cs) ->G):G:=by
 have wn:w≠[]:=λe=>(e▸wl:([]:List Nat).length=5∨([]:List Nat).length=6).elim (λh=>Nat.noConfusion h) λh=>Nat.noConfusion h
 have t:((truthy (.int (e.fmod 2))).bind λc=>if c then ZE (sD w) [wD [103,98],lD 13191]else some (wD w))=if(e.fmod 2 !=0)=true then ZE (sD w) [wD [103,98],lD 13191]else some (wD w):=rfl
 by_cases q:(e.fmod 2 !=0)=true
 ·exact f (gbJoin w) (JgI wn) (Jcp wc) (Nat.le_trans (Jco w) (n6 wl)) (J7f wc) (t.trans (ifE q (JfL wl wc)))
 ·exact f w wn (λc hc=>J5s (wc c hc)) (n6 wl) (J7h wc) (t.trans (if_neg q))
theorem JaL (xs:List Int) (hl:xs.length<=63) {G:Prop} (f: ∀(Y:Ev) (ns:List D) (x:Nat×Nat×Nat),x∈JH ->Y.ct=ctD x.1 x.2.1 x.2.2 ->Y.sz= .int (Yt x) ->Nts 1 ns ->
  J77 ((List.range 13).map lst) [(nm "script",.val (.lst (xs.map .int)))] (C12 Y ns) ->G):G:=by
 refine J7u xs hl λt a b c d e p n h1=>?_
 let X:Cl:=⟨t,.lst (xs.map .int),p,n,a,b,c,d,e⟩
 refine JdI X.a λm hm em=>J3l (X.a.fdiv 6) λtu ht et=>o03 (JbH m hm tu ht) λp1 p2 p3 p4=>?_
 have k1:Jef m=Jef m-1+1:=p2.elim (λe=>e▸rfl) λe=>e▸rfl
 refine J9O X (iD m) (Jef m-1) (poolL m tu) X.e (p1.trans k1) (k1▸Nat.le_trans (n6 p2) (by decide)) λw dr sz hw s6=>?_
 rw[<-k1]at s6
 have wl:w.length=5∨w.length=6:=(p1.symm.trans hw.length_eq)▸p2
 have l6:=n6 wl
 refine Jc8 wl (λc hc=>p3 c (hw.mem_iff.mpr hc)) X.e λcs c1 c2 c3 c4 c5=>?_
 have c6:cs.length<=100:=Nat.le_trans c3 (by decide)
 refine Jeo w X.e cs c1 c2 c6 c5 λty hty s7=>?_
 exact f ⟨X,iD m,wD w,.int dr,.int (w.length:Nat),.lst (ty.map lD),.lst (Zw cs.length),wD w,ctD (w.count 114) (w.count 103) (w.count 98)⟩ [.tup [J1U cs.length,J1U cs.length]] (Jc5 m tu) (Jc6 hm ht)
  (by simp only[<-hw.count]) (congrArg (λn:Nat=>D.int n) (hw.length_eq.symm.trans p4)) ⟨Nat.le_refl 1,λn hn=>List.mem_singleton.mp hn▸J6d c3⟩
  (J77.cons (st0 _) (.cons h1 (.cons (st2 X) (.cons ((st3 X).trans (bdE em rfl)) (.cons ((st4 X _).trans (bdE ((congrArg (λo:Option D=>(o.bind J5H).bind (Jg6 (level theTop 18) (JU (lst 4)) [(nm "many",.val (iD m))])) et).trans (Je5 hm ht)) rfl)) (.cons (st5 X _ _) (.cons ((st6 hm ..).trans s6)
  (.cons ((st7 ..).trans (bdE s7 rfl)) (.cons (J83 hty c6 X _ _ _ _) (.cons (J9q hty c6 c4 (Nat.le_trans l6 (by decide)) X _ _ _ _) (.cons (JiD c3 X _ _ _ _ _ _) (.cons (Jh5 X _ _ _ _ _ (sD w) _)
  (.cons ((JiF X _ _ _ _ _ (sD w) (sD w) _).trans (bdE (bdE (len_str w (Nat.le_trans l6 (by decide))) (bdE (bdE (J7H w) rfl) rfl)) (mpE (Jh6 ..) (congrArg (λr=>some (r,Fl.next)) (JcG ..))))) (J77.nil _))))))))))))))
theorem Jh9 (Y:Ev) (ns:List D) (rw pl od:D) {rk:List Nat} (hr:rk∈sixR) (o w' t' g:D):step1 L19 scL (lst 17) (C15 Y ns rw pl od (JM rk) (tl4 o w' t' g))=some (C17 ⟨Y,rw,pl,od,o,w',t',g,rk⟩ ns Y.sz [],.next):=by
 rw[JiK Y ns rw pl od hr]
 obtain⟨⟨t,v,q,n,a,b,c,d,e⟩,m,w,dr,sz,ty,go,tx,ct⟩:=Y
 cases t<;>rfl
theorem Jg8: ∀tu∈turnedL,((tu.getD 0 0).toNat<3/\ (tu.getD 1 0).toNat<3/\ (tu.getD 2 0).toNat<3)/\ [(tu.getD 0 0).toNat,(tu.getD 1 0).toNat,(tu.getD 2 0).toNat]∈([[0,1,2],[0,2,1],[1,0,2],[1,2,0],[2,0,1],[2,1,0]]:List (List Nat))/\
  (((tu.getD 0 0).toNat:Int)=tu.getD 0 0/\ ((tu.getD 1 0).toNat:Int)=tu.getD 1 0/\ ((tu.getD 2 0).toNat:Int)=tu.getD 2 0):=by decide+kernel
theorem JdX {tu:List Int} (ht:tu∈turnedL) (c:Int):JgW tu c=J3t (tu.getD 0 0).toNat (tu.getD 1 0).toNat (tu.getD 2 0).toNat (KF c 0) (KF c 1) (KF c 2):=by
 unfold JgW J3t
 rw[(Jg8 tu ht).2.2.1,(Jg8 tu ht).2.2.2.1,(Jg8 tu ht).2.2.2.2]
theorem J8O (Y:Ev) {ns:List D} (hN:Nts 1 ns) {G:Prop} (f: ∀(ns':List D) (rw pl od o w t g:D) (rk:List Nat),rk∈sixR ->Nts 19 ns' ->J77 [lst 13,lst 14,lst 15,lst 16,lst 17] (C12 Y ns) (C17 ⟨Y,rw,pl,od,o,w,t,g,rk⟩ ns' Y.sz []) ->G):G:=
 J4o Y hN (by decide) λT n1 hT g1 s13=>
 J6A Y n1 (.lst T.rows) (.lst T.plain) λtu ht s14=>
 have D:=Jg8 tu ht
 have v0:=J4D Y.X.c 0
 have v1:=J4D Y.X.c 1
 have v2:=J4D Y.X.c 2
 J7Q Y hT D.1.1 D.1.2.1 D.1.2.2 v0 v1 v2 g1 (by decide) λn2 o w t g g2 s16=>
 JfN hT D.2.1 v0 v1 v2 λrk hr e=>
 f n2 _ _ _ o w t g rk hr g2 (.cons s13 (.cons (s14.trans (congrArg (λl=>some (C14 Y n1 _ _ (.lst (l.map pairI)),Fl.next)) (JdX ht Y.X.c))) (.cons (JiI _ _ _ _ _) (.cons (s16.trans (congrArg (λl=>some (C15 Y n2 _ _ _ l _,Fl.next)) (Jda e))) (.cons (Jh9 Y _ _ _ _ hr o w t g) (J77.nil _))))))
theorem J9P (G:Gv) (ns:List D) {x:Nat×Nat×Nat} (hx:x∈JH) (hc:G.Y.ct=ctD x.1 x.2.1 x.2.2) (hr:G.rk∈sixR) {P:Prop} (f: ∀(I:Iv) (wo:D),IvOk I x ->I.ct=ctD x.1 x.2.1 x.2.2 ->I.sn= .int 0 ->I.ws=(wordsX x).map wD ->J77 [lst 18,lst 19,lst 20,lst 21,lst 22,lst 23,lst 24,lst 25] (C17 G ns (.int (Yt x)) []) (C26 I wo ns G.o G.w G.t (.lst [.dct [],.dct []]) []) ->P):P:=by
 obtain⟨n,hn'⟩: ∃n,n=Yt x:=⟨_,rfl⟩
 have hn:n=5∨n=6:=by
  have h:=List.all_eq_true.mp Vz x hx
  have m: ∃w,w∈wordsX x:=by
   generalize wordsX x=l at h
   match l,h with
   |a::ws,h=>exact⟨a,List.mem_cons_self⟩
  refine o10 m λw hw=>?_;clear m
  rw[hn']
  exact(ZU hx hw).n56
 have ew:YA (cts x.1 x.2.1 x.2.2) (n-1)=wordsX x:=by rw[hn'];rfl
 rw[<-hn']at f
 have s18:=JiL G ns (.int n) hr
 refine JbQ G.Y.X.d hn λs hs es=>?_
 have s19:=JiM G ns n (lD (KD G.rk))
 rw[es]at s19
 have s20:=J9J G ns hn (lD (KD G.rk)) s
 have W:=J9E G.Y.X.d hn hs
 have s21:=J3o G ns hn (lD (KD G.rk)) (.int s) (wideL G.Y.X.d s n) W.len W.way
 let H:Hv:=⟨G,n,.int s,wideL G.Y.X.d s n,weightL n 0 (wideL G.Y.X.d s n)⟩
 have s22:=JiS H ns (lD (KD G.rk))
 have s23:=JiT H ns H.G.Y.w (lD (KD G.rk)) (.int 0) hx hc
 refine o10 (J76 H hn ns H.G.Y.w (lD (KD G.rk)) (.int 0) x.1 x.2.1 x.2.2 hc) λsp s24=>?_
 have s25:=JiV H ns H.G.Y.w (lD (KD G.rk)) sp (.int 0) ((YA (cts x.1 x.2.1 x.2.2) (H.n-1)).map wD)
 let I:Iv:=⟨G.Y.X,G.Y.m,G.Y.dr,n,G.Y.ty,G.Y.go,G.Y.tx,G.Y.ct,G.rw,G.pl,G.od,wideL G.Y.X.d s n,G.rk,G.g,lD (KD G.rk),sp,weightL n 0 (wideL G.Y.X.d s n),.int 0,(YA (cts x.1 x.2.1 x.2.2) (n-1)).map wD⟩
 exact f I G.Y.w ⟨hx,hn',W,rfl,hr,rfl⟩ hc rfl (congrArg (List.map wD) ew)<| .cons s18 (.cons s19 (.cons s20 (.cons s21 (.cons s22 (.cons s23 (.cons s24 (.cons s25 (J77.nil _))))))))
theorem Jee {n:Nat} (h:n<=100):J4 (nm "str") [.int n]=some (.str (Str.ofString (toString ((n:Nat):Int)))):=by
 have e: ∀i:Int,J4 (nm "str") [.int i]=if decide (i.natAbs.log2<1920)then some (.str (Str.ofString (toString i)))else none:=λi=>by kernel_rfl
 rw[e,Int.natAbs_natCast,if_pos]
 by_cases q:n=0
 ·rw[q];rfl
 ·refine decide_eq_true ((Nat.log2_lt q).mpr (Nat.lt_of_le_of_lt h ?_))
  exact Nat.lt_of_lt_of_le (show 100<2^7 by decide) (Nat.pow_le_pow_right (by lia) (by lia))
theorem JaH (s:Str):Good (.tup [.str s,.str s]):=⟨_,_,rfl,by show some (s==s)=some true;rw[beq_self_eq_true]⟩
theorem Jc4 {I:Iv} {x:Nat×Nat×Nat} (J:IvOk I x) {u:Tb} (Tu:Tab u (leftR I.rk I.n (wordsX x))):tot u=J71 x:=by
 refine Tu.to.trans (Eq.trans ?_ (Nat.eq_of_beq_eq_true (Bool.and_eq_true_iff.mp (List.all_eq_true.mp J5E x J.hx)).1))
 unfold leftR J2Z
 generalize (wordsX x).filter isMax=l
 induction l with
 |nil=>rfl
 |cons a l ih=>exact(List.length_append ..).trans (congr (congrArg HAdd.hAdd ((List.length_map _).trans ((List.length_map _).trans List.length_range))) ih)
theorem Jd7 {I:Iv} {x:Nat×Nat×Nat} (J:IvOk I x) (hc:I.ct=ctD x.1 x.2.1 x.2.2) (hs:I.sn= .int 0) (hw:I.ws=(wordsX x).map wD) (wo:D) {ns:List D} (hN:Nts 1000 ns) (o w t:D): ∃ρ,exSs theTop L19 scL [lst 26,lst 27,lst 28,lst 29,lst 30] (C26 I wo ns o w t (.lst [.dct [],.dct []]) [])=some (ρ,.ret (.bool true)):=
 J94 J hN wo o w t λn1 wo' o' w' t' u v z g1 Tu Tv s26=>
 have P:(leftR I.rk I.n (wordsX x)).Perm (rightR I.rk I.n (wordsX x)):=J.n▸J8l J.hx J.rk
 have hb:=Jee (Nat.le_of_ble_eq_true (Bool.and_eq_true_iff.mp (List.all_eq_true.mp J5E x J.hx)).2)
 have n3:=g1.add (n:= .tup [.dct (tbD u),.dct (tbD v)]) ⟨_,_,rfl,J9o Tu Tv P 4⟩
 have n4:=n3.add (JaH (Str.ofString (toString ((J71 x:Nat):Int))))
 ⟨_,J0 ((JiW ..).trans (hw▸s26)) (J0 (JiX I wo' n1 o' w' t' _ J.hx hc hs z) (J0 ((JiY ..).trans (ifE (g1.to (by decide)) rfl))
  (J0 ((JiZ ..).trans (bdE (mpE (bdE (bdE (bdE ((Ja9 11 u).trans (congrArg (λn:Nat=>some (D.int n)) (Jc4 J Tu))) rfl) hb) (bdE (bdE hb rfl) rfl)) rfl) (ifE (n3.to (by decide)) rfl)))
  (J7 ((Jj0 ..).trans (mpE (mpE (bdE (mpE (bdE (Jav n4.2) rfl) rfl) rfl) rfl) rfl))))))⟩
theorem law_ok (xs:List Int) (hl:xs.length<=63):callF (level theTop 20) J4a [.lst (xs.map .int)]=some (.bool true):=
 JaL xs hl λY _ x hx hc hz g1 R1=>
 J8O Y g1 λn2 rw' pl od o w t g rk hr g2 R2=>
 J9P ⟨Y,rw',pl,od,o,w,t,g,rk⟩ n2 hx hc hr λI wo J hc' hs hw R3=>
 o10 (Jd7 J hc' hs hw wo (g2.le (by decide)) o w t) λρ e=>
 Jw (ρ:=ρ) (by kernel_rfl) (JcL▸R1 _ _ (R2 _ _ (hz▸R3 _ _ e)))
end
end Z
end Mine.Internal
set_option maxRecDepth 100000 in
theorem PySem.Challenge.cw_xh0043_01_holds : PySem.Challenge.rw_xh0043_01.Holds :=
  Mine.Internal.claim_from Mine.Internal.Z.law_ok
