import PyProof.Rows.All
import Wide.All
import OpenK.AllK
import Wide.FinOn
import PyProof.Rows.NestShow
import PyProof.ReprBulk
import Lean
import PySem.Challenge.RW_in0144_01
set_option Elab.async false
set_option linter.all false
set_option compiler.extract_closed false
set_option genSizeOf false
set_option maxRecDepth 1000000
set_option maxHeartbeats 4000000
section
open PySem PySem.W PyProof.Rows
namespace Mine
def aK:Lean.Syntax:=Lean.Unhygienic.run `(tacticSeq| kernel_rfl)
def aD:Lean.Syntax:=Lean.Unhygienic.run `(tacticSeq| decide+kernel)
def aI:Lean.Syntax:=Lean.Unhygienic.run `(tacticSeq| intro _; rfl)
def aR:Lean.Syntax:=Lean.Unhygienic.run `(tacticSeq| rfl)
def aW:Lean.Syntax:=Lean.Unhygienic.run `(tacticSeq| intro _ _; with_unfolding_all rfl)
def aJ:Lean.Syntax:=Lean.Unhygienic.run `(tacticSeq| intro _ _; rfl)
def aE:Lean.Syntax:=Lean.Unhygienic.run `(tacticSeq| intro _; exact ⟨_,rfl⟩)
def aS:Lean.Syntax:=Lean.Unhygienic.run `(tacticSeq| simp [sizeLine])
def aL:Lean.Syntax:=Lean.Unhygienic.run `(tacticSeq| intro _; kernel_rfl)
def aF:Lean.Syntax:=Lean.Unhygienic.run `(tacticSeq| size_fits)
def aV:Lean.Syntax:=Lean.Unhygienic.run `(tacticSeq| intro _; with_unfolding_all rfl)
end Mine
end
section
open PySem PySem.W PyProof.Rows
namespace Mine
set_option genInjectivity false in
structure Gx where
  prog:Program
  w:World
  K:Frag
  pp:Program
  loose:List Str
  j2:ExcName→Option Value
  mg:Str→Option Value
  mb:Str→Option Value
  sets:List (Addr×(Str→Bool))
  eK:List (Addr×(Str→Option Value))
noncomputable abbrev Gx.M (g:Gx):Model:=model g.prog g.w
structure Gx.Good (g:Gx) (h:Heap):Prop where
  kx:g.K.In h
  tp:Top g.pp g.loose g.j2 g.mg g.mb h
  st:∀ p∈g.sets,∃ n,n < 4096∧FrozAt (PySem.strKind g.prog g.w) h p.1 p.2 n
  mt:∀ p∈g.eK,Heap.MapOf (PySem.strKind g.prog g.w) h p.1 p.2
theorem Gx.Good.keeps {g:Gx} {h h':Heap} (x:g.Good h) (k:∀ b o,h.get? b=some o→h'.get? b=some o):g.Good h':=
  ⟨x.kx.keeps k,x.tp.keeps k,fun p hp=>(x.st p hp).imp fun ω F=>⟨F.1,F.2.imp fun ω F=>F.imp fun ω F=>F.imp fun ω F=>⟨k _ _ F.1,F.2⟩⟩,fun p hp=>(x.mt p hp).imp fun ω F=>F.imp fun ω F=>F.imp fun ω F=>⟨k _ _ F.1,F.2⟩⟩
noncomputable abbrev Led:=List (Addr×Obj)
inductive AV where
  | none
  | bool (b:Bool)
  | int (i:Int)
  | str (s:Str)
  | tup (l:List AV)
  | lst (l:List AV)
  | val (v:Value)
  | at (r:Addr) (a:AV)
noncomputable abbrev cV (vs:List Value):Obj:={cls:=.type "tuple",data:=.seq vs.toArray}
noncomputable abbrev g9 (vs:List Value):Obj:={cls:=.type "list",data:=.seq vs.toArray}
noncomputable def dQ (o:Obj) (vs:List Value):Prop:=o.cls=.type "list"∧o.dict=none∧∃ n,o.data=.seq vs.toArray n
theorem pT (vs:List Value):dQ (g9 vs) vs:=⟨rfl,rfl,_,rfl⟩
mutual
inductive Rep (ι:Led):Value→AV→Prop
  | none:Rep ι .none .none
  | bool (b:Bool):Rep ι (.bool b) (.bool b)
  | int (i:Int) (t:Tok):Rep ι (.int i t) (.int i)
  | str (s:Str) (t:Tok):Rep ι (.str s t) (.str s)
  | val (v:Value):Rep ι v (.val v)
  | at {r:Addr} {a:AV}:Rep ι (.ref r) a→Rep ι (.ref r) (.at r a)
  | tup {r:Addr} {vs:List Value} {l:List AV}:(r,cV vs)∈ι→aY ι vs l→Rep ι (.ref r) (.tup l)
  | lst {r:Addr} {o:Obj} {vs:List Value} {l:List AV}:(r,o)∈ι→dQ o vs→aY ι vs l→Rep ι (.ref r) (.lst l)
inductive aY (ι:Led):List Value→List AV→Prop
  | nil:aY ι [] []
  | cons {v:Value} {a:AV} {vs:List Value} {l:List AV}:Rep ι v a→aY ι vs l→aY ι (v::vs) (a::l)
end
theorem aY.ind {ι:Led} {M:List Value→List AV→Prop} (n:M [] []) (k:∀ {v:Value} {a:AV} {vs:List Value} {l:List AV},Rep ι v a→aY ι vs l→M vs l→M (v::vs) (a::l)) {vs:List Value} {l:List AV} (h:aY ι vs l):M vs l:=
  aY.rec (motive_1:=fun ω ω ω=>True) (motive_2:=fun vs l ω=>M vs l) ⟨⟩ (fun ω=>⟨⟩) (fun ω ω=>⟨⟩) (fun ω ω=>⟨⟩) (fun ω=>⟨⟩) (fun ω ω=>⟨⟩) (fun ω ω ω=>⟨⟩) (fun ω ω ω ω=>⟨⟩) n (fun h t ω m=>k h t m) h
theorem Rep.mono {ι ae:Led} (hs:∀ p∈ι,p∈ae) {v:Value} {a:AV} (h:Rep ι v a):Rep ae v a:=
  Rep.rec (motive_1:=fun v a ω=>Rep ae v a) (motive_2:=fun vs l ω=>aY ae vs l) .none .bool .int .str .val (fun ω h=>.at h) (fun m ω h=>.tup (hs _ m) h) (fun m o ω h=>.lst (hs _ m) o h) .nil (fun ω ω h t=>.cons h t) h
theorem aY.mono {ι ae:Led} (hs:∀ p∈ι,p∈ae) {vs:List Value} {l:List AV} (h:aY ι vs l):aY ae vs l:=
  h.ind .nil fun h ω m=>.cons (h.mono hs) m
theorem aY.length {ι:Led} {vs:List Value} {l:List AV} (h:aY ι vs l):vs.length=l.length:=
  h.ind (M:=fun vs l=>vs.length=l.length) rfl fun ω ω m=>congrArg (·+1) m
theorem aY.append {ι:Led} {vs us:List Value} {l k:List AV} (h:aY ι vs l) (x:aY ι us k):aY ι (vs++us) (l++k):=
  h.ind (M:=fun vs l=>aY ι (vs++us) (l++k)) x fun h ω m=>.cons h m
theorem aY.get {ι:Led} {l:List AV} {vs:List Value} {i:Nat} {a:AV} (h:aY ι vs l):l[i]?=some a→∃ v,vs[i]?=some v∧Rep ι v a:=
  h.ind (M:=fun vs l=>∀ i,l[i]?=some a→∃ v,vs[i]?=some v∧Rep ι v a) (fun ω e=>by cases e) (fun {v b _ _} h _ m i=>match i with
    | 0=>fun e=>⟨v,rfl,Option.some.inj (e:some b=some a)▸h⟩
    | i+1=>m i) i
theorem aY.get' {ι:Led} {l:List AV} {vs:List Value} {i:Nat} {v:Value} (h:aY ι vs l):vs[i]?=some v→∃ a,l[i]?=some a∧Rep ι v a:=
  h.ind (M:=fun vs l=>∀ i,vs[i]?=some v→∃ a,l[i]?=some a∧Rep ι v a) (fun ω e=>by cases e) (fun {u b _ _} h _ m i=>match i with
    | 0=>fun e=>⟨b,rfl,Option.some.inj (e:some u=some v)▸h⟩
    | i+1=>m i) i
noncomputable def xn (ι:Led) (v:Value):AV→Prop
  | .none=>Value.none=v
  | .bool b=>Value.bool b=v
  | .int i=>∃ t,Value.int i t=v
  | .str s=>∃ t,Value.str s t=v
  | .val w=>w=v
  | .at r a=>Value.ref r=v∧Rep ι v a
  | .tup l=>∃ r vs,Value.ref r=v∧(r,cV vs)∈ι∧aY ι vs l
  | .lst l=>∃ r o vs,Value.ref r=v∧(r,o)∈ι∧dQ o vs∧aY ι vs l
theorem Rep.inv {ι:Led} {v:Value} {a:AV} (h:Rep ι v a):xn ι v a:=
  Rep.rec (motive_1:=fun v a ω=>xn ι v a) (motive_2:=fun ω ω ω=>True) rfl (fun ω=>rfl) (fun ω t=>⟨t,rfl⟩) (fun ω t=>⟨t,rfl⟩) (fun ω=>rfl) (fun h ω=>⟨rfl,h⟩) (fun m h ω=>⟨_,_,rfl,m,h⟩) (fun m o h ω=>⟨_,_,_,rfl,m,o,h⟩) ⟨⟩ (fun ω ω ω ω=>⟨⟩) h
@[elab_as_elim] theorem Rep.isStr {ι:Led} {v:Value} {s:Str} {M:Value→Prop} (h:Rep ι v (.str s)) (k:∀ t,M (.str s t)):M v:=
  let ⟨t,e⟩:=h.inv; e▸k t
@[elab_as_elim] theorem Rep.isInt {ι:Led} {v:Value} {i:Int} {M:Value→Prop} (h:Rep ι v (.int i)) (k:∀ t,M (.int i t)):M v:=
  let ⟨t,e⟩:=h.inv; e▸k t
@[elab_as_elim] theorem Rep.isNone {ι:Led} {v:Value} {M:Value→Prop} (h:Rep ι v .none) (k:M .none):M v:=h.inv▸k
@[elab_as_elim] theorem Rep.isBool {ι:Led} {v:Value} {b:Bool} {M:Value→Prop} (h:Rep ι v (.bool b)) (k:M (.bool b)):M v:=h.inv▸k
@[elab_as_elim] theorem Rep.isVal {ι:Led} {v w:Value} {M:Value→Prop} (h:Rep ι v (.val w)) (k:M w):M v:=h.inv▸k
@[elab_as_elim] theorem Rep.isTup {ι:Led} {v:Value} {l:List AV} {M:Value→Prop} (h:Rep ι v (.tup l)) (k:∀ r vs,(r,cV vs)∈ι→aY ι vs l→M (.ref r)):M v:=
  let ⟨r,vs,e,m,h⟩:=h.inv; e▸k r vs m h
@[elab_as_elim] theorem Rep.jf {ι:Led} {v:Value} {l:List AV} {M:Value→Prop} (h:Rep ι v (.lst l)) (k:∀ r o vs,(r,o)∈ι→dQ o vs→aY ι vs l→M (.ref r)):M v:=
  let ⟨r,o,vs,e,m,q,h⟩:=h.inv; e▸k r o vs m q h
@[elab_as_elim] theorem Rep.sC {ι:Led} {v:Value} {r:Addr} {l:List AV} {M:Value→Prop} (h:Rep ι v (.at r (.lst l))) (k:∀ o vs,(r,o)∈ι→dQ o vs→aY ι vs l→M (.ref r)):M v:=
  let ⟨e,h⟩:=h.inv
  let ⟨_,o,vs,e',m,q,h⟩:=h.inv
  e▸k o vs (by cases e'.trans e.symm; exact m) q h
noncomputable def xo (M:Value→Prop):AV→Prop
  | .str s=>∀ t,M (.str s t)
  | .int i=>∀ t,M (.int i t)
  | .none=>M .none
  | .bool b=>M (.bool b)
  | .val w=>M w
  | _=>False
@[elab_as_elim] theorem Rep.is {ι:Led} {v:Value} {a:AV} {M:Value→Prop} (h:Rep ι v a) (k:xo M a):M v:=
  Rep.rec (motive_1:=fun v a ω=>xo M a→M v) (motive_2:=fun ω ω ω=>True) id (fun ω k=>k) (fun ω t k=>k t) (fun ω t k=>k t) (fun ω k=>k) (fun ω ω k=>k.elim) (fun ω ω ω k=>k.elim) (fun ω ω ω ω k=>k.elim) ⟨⟩ (fun ω ω ω ω=>⟨⟩) h k
theorem aY.J3 {ι:Led} {vs:List Value} {a:AV} {l:List AV} (h:aY ι vs (a::l)):∃ v r,v::r=vs∧Rep ι v a∧aY ι r l:=
  h.ind (M:=fun vs k=>∀ a l,a::l=k→∃ v r,v::r=vs∧Rep ι v a∧aY ι r l) (fun ω ω e=>nomatch e) (fun h t ω ω ω e=>by cases e; exact ⟨_,_,rfl,h,t⟩) a l rfl
set_option genInjectivity false in
structure Cx where
  A:Around
  A₀:Around
  nm:Str
  f:Addr
  cd:Value
  L:Addr
  outer:List Env
  base:Heap
  fo:Led
  hx:Option (Addr×Obj)
  cl:List (Str×Addr):=[]
noncomputable abbrev Cx.env (c:Cx) (sc:Scope):Env:=envX c.nm sc c.L c.f c.cd c.cl
structure Inv (g:Gx) (c:Cx) (news:Led) (m:Str→Option Value) (h₀ h:Heap):Prop where
  fr:Fr h₀ c.L h m
  nw:News h₀ c.L h news
  bl:Below c.A₀ c.base c.outer h₀
  fo:∀ p∈c.fo,∃ sl,h₀.get? p.1=some {p.2 with slots:=sl}
noncomputable def St (g:Gx) (c:Cx) (news:Led) (m:Str→Option Value) (h:Heap):Prop:=∃ h₀,Inv g c news m h₀ h
theorem Inv.next {g:Gx} {c:Cx} {news j3:Led} {m m':Str→Option Value} {h₀ h h':Heap} (I:Inv g c news m h₀ h) (F:Fr h₀ c.L h' m') (N:News h₀ c.L h' j3):Inv g c j3 m' h₀ h':=
  ⟨F,N,I.bl,I.fo⟩
theorem Inv.st {g:Gx} {c:Cx} {news:Led} {m:Str→Option Value} {h₀ h:Heap} (I:Inv g c news m h₀ h):St g c news m h:=⟨h₀,I⟩
theorem Inv.to {g:Gx} {c:Cx} {news j3:Led} {m m':Str→Option Value} {h₀ h h':Heap} (I:Inv g c news m h₀ h) (F:Fr h₀ c.L h' m') (N:News h₀ c.L h' j3):St g c j3 m' h':=⟨h₀,I.next F N⟩
structure Cx.Ok (g:Gx) (c:Cx) (sc:Scope) (pl:Bool) (D:Nat):Prop where
  gd:g.Good c.base
  fr:c.A.frames=some (c.env sc::c.outer)
  kind:sc.kind=.function
  dp:c.A.depth+D < 900
  un:c.A.units+20 * D < 9000
  hd:c.A.handled=c.hx.map fun p=>Value.ref p.1
  he:∀ p,c.hx=some p→∃ vs:Array Value,p.2.data=.fields vs∧vs[2]?=some .none
  pl:pl=true→c.A=c.A₀.deeper (c.env sc)∧c.hx=none
  gs:c.A.guards=some []
theorem Cx.Ok.kx {g:Gx} {c:Cx} {sc:Scope} {pl:Bool} {D:Nat} (ok:c.Ok g sc pl D) {news:Led} {m:Str→Option Value} {h₀ h:Heap} (I:Inv g c news m h₀ h):g.K.In h₀:=ok.gd.kx.keeps I.bl.stays
theorem Cx.Ok.tp {g:Gx} {c:Cx} {sc:Scope} {pl:Bool} {D:Nat} (ok:c.Ok g sc pl D) {news:Led} {m:Str→Option Value} {h₀ h:Heap} (I:Inv g c news m h₀ h):Top g.pp g.loose g.j2 g.mg g.mb h₀:=ok.gd.tp.keeps I.bl.stays
theorem Cx.Ok.kh {g:Gx} {c:Cx} {sc:Scope} {pl:Bool} {D:Nat} (ok:c.Ok g sc pl D) {news:Led} {m:Str→Option Value} {h₀ h:Heap} (I:Inv g c news m h₀ h):g.K.In h:=(ok.kx I).keeps I.fr.keep
noncomputable abbrev ag:=List (Str×Option AV)
structure bF (ι:Led) (E:ag) (m:Str→Option Value):Prop where
  nd:(E.map (·.1)).Nodup
  at_:∀ x a,(x,some a)∈E→∃ v,m x=some v∧Rep ι v a
  off:∀ x,(x,none)∈E→m x=none
theorem bF.mono {ι ae:Led} {E:ag} {m:Str→Option Value} (R:bF ι E m) (hs:∀ p∈ι,p∈ae):bF ae E m:=
  ⟨R.nd,fun x a h=>let ⟨v,h1,h2⟩:=R.at_ x a h; ⟨v,h1,h2.mono hs⟩,R.off⟩
structure pU (x:Option (Addr×Obj)) (ι σ:Led):Prop where
  apart:∀ p∈ι,∀ q∈σ,p.1≠q.1
  once:(σ.map (·.1)).Nodup
  hx:∀ p,x=some p→p∈ι
noncomputable abbrev Ap (c:Cx) (ι σ:Led):Prop:=pU c.hx ι σ
structure Comes {α β:Type} (g:Gx) (pl:Bool) (D:Nat) (sc:Scope) (E:ag) (σ:Led) (tr:Cx→Sem α) (R:Led→α→β→Prop) (b:β) (E':ag) (U:Led):Prop where
  on:∀ (c:Cx) (ι:Led) (m:Str→Option Value) (s:Shared) (Q:α→Shared→Prop) (Er:Value→Shared→Prop),c.Ok g sc pl D→St g c (ι++σ) m s.heap→bF ι E m→Ap c ι σ→0 < s.toks→
    (∀ v ae m' h' ao,0 < ao→St g c (ae++U) m' h'→bF ae E' m'→Ap c ae U→(∀ p∈ι,p∈ae)→R ae v b→Q v {s with heap:=h',toks:=ao})→
    wpAny g.M c.A (tr c) Q Er s
theorem Comes.of {α β:Type} {g:Gx} {pl:Bool} {D:Nat} {sc:Scope} {E:ag} {σ:Led} {tr:Cx→Sem α} {R:Led→α→β→Prop} {b:β} {E':ag} {U:Led}
    (H:∀ (c:Cx) (ι:Led) (m:Str→Option Value) (s:Shared) (Q:α→Shared→Prop) (Er:Value→Shared→Prop),c.Ok g sc pl D→St g c (ι++σ) m s.heap→bF ι E m→Ap c ι σ→0 < s.toks→
      (∀ v ae m' h' ao,St g c (ae++U) m' h'→bF ae E' m'→Ap c ae U→(∀ p∈ι,p∈ae)→R ae v b→Q v {s with heap:=h',toks:=ao})→
      wpAny g.M c.A (tr c) Q Er s):Comes g pl D sc E σ tr R b E' U:=by
  refine .mk fun c ι m s Q Er ok S R ap ht k=>?_
  refine wpAny_with_toks (n:=1) ht (H c ι m s _ _ ok S R ap ht fun v ae m' h' ao S' R' aX hs hr=>?_)
  intro hp
  exact k v ae m' h' ao hp S' R' aX hs hr
noncomputable abbrev Ev (g:Gx) (pl:Bool) (D:Nat) (sc:Scope) (E:ag) (σ:Led) (e:Expr) (a:AV) (U:Led):Prop:=
  Comes g pl D sc E σ (fun c=>eval e (c.env sc)) Rep a E U
noncomputable abbrev ee (g:Gx) (pl:Bool) (D:Nat) (sc:Scope) (E:ag) (σ:Led) (es:List Expr) (as:List AV) (U:Led):Prop:=
  ∀ pos,Comes g pl D sc E σ (fun c=>spliced (backTo pos (starEach es (c.env sc)))) aY as E U
noncomputable abbrev cv (g:Gx) (pl:Bool) (D:Nat) (sc:Scope) (E:ag) (σ:Led) (e:Expr) (b:Bool) (U:Led):Prop:=
  Comes g pl D sc E σ (fun c=>PySem.isTrue e (c.env sc) (eval e (c.env sc))) (fun ω v b=>v=b) b E U
inductive Fl where
  | next | brk | cont
  | ret (a:AV)
inductive cZ (ι:Led):Flow→Fl→Prop
  | next:cZ ι .next .next
  | brk:cZ ι .brk .brk
  | cont:cZ ι .cont .cont
  | ret {v:Value} {a:AV}:Rep ι v a→cZ ι (.ret v) (.ret a)
noncomputable def xp (ι:Led) (v:Flow):Fl→Prop
  | .next=>Flow.next=v
  | .brk=>Flow.brk=v
  | .cont=>Flow.cont=v
  | .ret a=>∃ w,Flow.ret w=v∧Rep ι w a
theorem cZ.inv {ι:Led} {v:Flow} {a:Fl} (h:cZ ι v a):xp ι v a:=
  cZ.rec (motive:=fun v a ω=>xp ι v a) rfl rfl rfl (fun h=>⟨_,rfl,h⟩) h
@[elab_as_elim] theorem cZ.pV {ι:Led} {v:Flow} {a:AV} {M:Flow→Prop} (h:cZ ι v (.ret a)) (k:∀ w,Rep ι w a→M (.ret w)):M v:=
  let ⟨w,e,q⟩:=h.inv; e▸k w q
@[elab_as_elim] theorem cZ.kZ {ι:Led} {v:Flow} {M:Flow→Prop} (h:cZ ι v .next) (k:M .next):M v:=h.inv▸k
@[elab_as_elim] theorem cZ.J4 {ι:Led} {v:Flow} {M:Flow→Prop} (h:cZ ι v .cont) (k:M .cont):M v:=h.inv▸k
@[elab_as_elim] theorem cZ.on {ι:Led} {v:Flow} {fl:Fl} {M:Flow→Fl→Prop} (h:cZ ι v fl) (hn:M .next .next) (hb:M .brk .brk) (hc:M .cont .cont) (hr:∀ w a,Rep ι w a→M (.ret w) (.ret a)):M v fl:=
  cZ.rec (motive:=fun v fl ω=>M v fl) hn hb hc (hr _ _) h
@[elab_as_elim] theorem cZ.loop {ι:Led} {v:Flow} {fl:Fl} {A B:Prop} {C:AV→Prop} {M:Flow→Prop} (hv:cZ ι v fl) (h:((fl=.next∨fl=.cont)∧A)∨(fl=.brk∧B)∨∃ a,fl=.ret a∧C a)
    (hn:A→M .next) (hc:A→M .cont) (hb:B→M .brk) (hr:∀ a w,Rep ι w a→C a→M (.ret w)):M v:=by
  revert h
  exact hv.on (M:=fun v fl=>(((fl=.next∨fl=.cont)∧A)∨(fl=.brk∧B)∨∃ a,fl=.ret a∧C a)→M v) (fun h=>by simp at h; exact hn h) (fun h=>by simp at h; exact hb h) (fun h=>by simp at h; exact hc h) (fun w a hw h=>by simp at h; exact hr a w hw h)
noncomputable abbrev Ex (g:Gx) (pl:Bool) (D:Nat) (sc:Scope) (E:ag) (σ:Led) (st:Stmt) (fl:Fl) (E':ag) (U:Led):Prop:=
  Comes g pl D sc E σ (fun c=>exec st (c.env sc)) cZ fl E' U
noncomputable abbrev ef (g:Gx) (pl:Bool) (D:Nat) (sc:Scope) (E:ag) (σ:Led) (st:List Stmt) (fl:Fl) (E':ag) (U:Led):Prop:=
  Comes g pl D sc E σ (fun c=>execs st (c.env sc)) cZ fl E' U
noncomputable def Fn (g:Gx) (pl:Bool) (D:Nat) (f:Value) (as:List AV) (σ:Led) (r:AV) (U:Led):Prop:=
  ∀ (c:Cx) (sc:Scope) (ι:Led) (m:Str→Option Value) (s:Shared) (vs:List Value) (Q:Value→Shared→Prop) (Er:Value→Shared→Prop),c.Ok g sc pl D→St g c (ι++σ) m s.heap→Ap c ι σ→0 < s.toks→aY ι vs as→
    (∀ v ae h' ao,St g c (ae++U) m h'→Ap c ae U→(∀ p∈ι,p∈ae)→Rep ae v r→Q v {s with heap:=h',toks:=ao})→
    wpAny g.M c.A (call f vs) Q Er s
section
variable {g:Gx} {pl:Bool} {D:Nat} {sc:Scope} {E E' E₁ aO:ag} {σ U σ₁ σ₂ aN:Led}
theorem nC {x:Str} {p:Pos} {a:AV} (hm:(x,some a)∈E) (hk:autoParam (sc.names.lookup x=some .local) aK) (hd:autoParam ((x==("__debug__":Str))=false) aK):Ev g pl D sc E σ (.Name x p) a σ:=by
  refine Comes.of fun c ι m s Q Er ok ⟨h₀,I⟩ R ap ht k=>?_
  obtain ⟨v,hv,hr⟩:=R.at_ x a hm
  exact nameX_L I.fr hv (k v ι m s.heap s.toks I.st R ap (fun ω h=>h) hr) ok.kind (by unfold Env.kindOf; exact hk) hd
theorem cH {x:Str} {p:Pos} {v:Value} (e:nsIn g.K mainGlobals x=some (some v)) (hk:autoParam (sc.names.lookup x=some .globalImplicit) aK) (hd:autoParam ((x==("__debug__":Str))=false) aK):Ev g pl D sc E σ (.Name x p) (.val v) σ:=by
  refine Comes.of fun c ι m s Q Er ok ⟨h₀,I⟩ R ap ht k=>?_
  exact nameX_K I.fr (ok.kx I) (topRead_of (ok.tp I)) e (k v ι m s.heap s.toks I.st R ap (fun ω h=>h) (.val v)) ok.kind (by unfold Env.kindOf; exact hk) hd
theorem gC {x:Str} {p:Pos} {v:Value} (e:nsIn g.K mainGlobals x=some none) (hv:bootBuiltins x=some v) (hn:x≠"__name__") (hk:autoParam (sc.names.lookup x=some .globalImplicit) aK) (hd:autoParam ((x==("__debug__":Str))=false) aK):Ev g pl D sc E σ (.Name x p) (.val v) σ:=by
  refine Comes.of fun c ι m s Q Er ok ⟨h₀,I⟩ R ap ht k=>?_
  exact nameX_B I.fr (ok.kx I) (topRead_of (ok.tp I)) e hv hn (k v ι m s.heap s.toks I.st R ap (fun ω h=>h) (.val v)) ok.kind (by unfold Env.kindOf; exact hk) hd
theorem eD {x:Str} {n:Nat} {p:Pos}:Ev g pl D sc E σ (.Constant (.str x) n p) (.str x) σ:=
  Comes.of fun ω ι m s ω ω ω S R ap ω k=>wpAny_Constant_str (k _ ι m s.heap (s.toks+1) S R ap (fun ω h=>h) (.str x _))
theorem nD {x:Int} {n:Nat} {p:Pos}:Ev g pl D sc E σ (.Constant (.int x) n p) (.int x) σ:=
  Comes.of fun ω ι m s ω ω ω S R ap ω k=>wpAny_Constant_int (k _ ι m s.heap (s.toks+1) S R ap (fun ω h=>h) (.int x _))
theorem xq {n:Nat} {p:Pos}:Ev g pl D sc E σ (.Constant .none n p) .none σ:=
  Comes.of fun ω ι m s ω ω ω S R ap ω k=>wpAny_Constant_none (k _ ι m s.heap s.toks S R ap (fun ω h=>h) .none)
theorem iJ {b:Bool} {n:Nat} {p:Pos}:Ev g pl D sc E σ (.Constant (.bool b) n p) (.bool b) σ:=
  Comes.of fun ω ι m s ω ω ω S R ap ω k=>wpAny_Constant_bool (k _ ι m s.heap s.toks S R ap (fun ω h=>h) (.bool b))
structure J5 {α β:Type} (g:Gx) (pl:Bool) (D:Nat) (sc:Scope) (E:ag) (σ:Led) (Pr:Led→Prop) (tr:Cx→Sem α) (R:Led→α→β→Prop) (b:β) (E':ag) (U:Led):Prop where
  on:∀ (c:Cx) (ι:Led) (m:Str→Option Value) (s:Shared) (Q:α→Shared→Prop) (Er:Value→Shared→Prop),c.Ok g sc pl D→St g c (ι++σ) m s.heap→bF ι E m→Ap c ι σ→0 < s.toks→Pr ι→
    (∀ v ae m' h' ao,St g c (ae++U) m' h'→bF ae E' m'→Ap c ae U→(∀ p∈ι,p∈ae)→R ae v b→Q v {s with heap:=h',toks:=ao})→
    wpAny g.M c.A (tr c) Q Er s
noncomputable abbrev bN (g:Gx) (pl:Bool) (D:Nat) (sc:Scope) (E:ag) (σ:Led) {α β:Type} (T:Value→Value→Sem α) (R:Led→α→β→Prop) (a b:AV) (z:β) (U:Led):Prop:=
  ∀ x y,J5 g pl D sc E σ (fun ι=>Rep ι x a∧Rep ι y b) (fun ω=>T x y) R z E U
theorem xr {l r:Expr} {a b:AV} {α β:Type} {T:Value→Value→Sem α} {R:Led→α→β→Prop} {z:β} {tr:Cx→Sem α}
    (hl:Ev g pl D sc E σ l a σ₁) (hr:Ev g pl D sc E σ₁ r b σ₂) (op:bN g pl D sc E σ₂ T R a b z aN)
    (nF:∀ (c:Cx) (s:Shared) (Q:α→Shared→Prop) (Er:Value→Shared→Prop),wpAny g.M c.A (eval l (c.env sc)) (fun a aH=>wpAny g.M c.A (eval r (c.env sc)) (fun b cw=>wpAny g.M c.A (T a b) Q Er cw) Er aH) Er s→wpAny g.M c.A (tr c) Q Er s):
    Comes g pl D sc E σ tr R z E aN:=by
  refine Comes.of fun c ι m s Q Er ok S R' ap ht k=>?_
  refine nF c s Q Er (hl.on c ι m s _ _ ok S R' ap ht fun v ar m₁ ah ax av ai aq aj ak hv=>?_)
  refine hr.on c ar m₁ _ _ _ ok ai aq aj av fun b7 aG m₂ aB a9 a8 aw aC ay aA bB=>?_
  exact (op v b7).on c aG m₂ _ _ _ ok aw aC ay a8 ⟨hv.mono aA,bB⟩ fun sD br cD bu bx bj cI bp bo b8=>
    k sD br cD bu bx bj cI bp (fun p h=>bo p (aA p (ak p h))) b8
theorem bP {l r:Expr} {o:Operator} {p:Pos} {a b z:AV} (hl:Ev g pl D sc E σ l a σ₁) (hr:Ev g pl D sc E σ₁ r b σ₂) (op:bN g pl D sc E σ₂ (binaryOp o) Rep a b z aN):Ev g pl D sc E σ (.BinOp l o r p) z aN:=
  xr hl hr op fun ω ω ω ω h=>wpAny_BinOp h
theorem nG {l r:Expr} {o:CmpOp} {p:Pos} {a b z:AV} (hl:Ev g pl D sc E σ l a σ₁) (hr:Ev g pl D sc E σ₁ r b σ₂) (op:bN g pl D sc E σ₂ (compareOp o) Rep a b z aN) (hm:autoParam (behindInMarks o r=false) aR):Ev g pl D sc E σ (.Compare l [o] [r] p) z aN:=
  xr hl hr op fun ω ω ω ω h=>wpAny_Compare1 h hm
theorem bw {l r:Expr} {o:CmpOp} {p:Pos} {a b:AV} {z:Bool} (hl:Ev g pl D sc E σ l a σ₁) (hr:Ev g pl D sc E σ₁ r b σ₂) (op:bN g pl D sc E σ₂ (compareOp o) Rep a b (.bool z) aN) (hm:autoParam (behindInMarks o r=false) aR):cv g pl D sc E σ (.Compare l [o] [r] p) z aN:=by
  refine Comes.of fun c ι m s Q Er ok S R' ap ht k=>?_
  refine wpAny_isTrue_Compare1 (hl.on c ι m s _ _ ok S R' ap ht fun v ar m₁ ah ax av ai aq aj ak hv=>?_) hm
  refine hr.on c ar m₁ _ _ _ ok ai aq aj av fun b7 aG m₂ aB a9 a8 aw aC ay aA bB=>?_
  refine (op v b7).on c aG m₂ _ _ _ ok aw aC ay a8 ⟨hv.mono aA,bB⟩ fun sD br cD bu bx bj cI bp bo b8=>b8.isBool ?_
  exact wpAny_truthy_bool (k z br cD bu bx bj cI bp (fun p h=>bo p (aA p (ak p h))) rfl)
theorem bN.flat {α β:Type} {T:Value→Value→Sem α} {R:Led→α→β→Prop} {a b:AV} {z:β}
    (H:∀ (ι:Led) (x y:Value) (A:Around) (s:Shared) (Q:α→Shared→Prop) (Er:Value→Shared→Prop),Rep ι x a→Rep ι y b→(∀ w tk,R ι w z→Q w {s with toks:=tk})→wpAny g.M A (T x y) Q Er s):bN g pl D sc E σ T R a b z σ:=
  fun x y=>.mk fun c ι m s Q Er ω S R ap ω pr k=>H ι x y c.A s Q Er pr.1 pr.2 fun w tk hw=>k w ι m s.heap tk S R ap (fun ω h=>h) hw
theorem bN.ss {α β:Type} {T:Value→Value→Sem α} {R:Led→α→β→Prop} {a b:Str} {z:β}
    (H:∀ (t u:Tok) (ι:Led) (A:Around) (s:Shared) (Q:α→Shared→Prop) (Er:Value→Shared→Prop),(∀ w tk,R ι w z→Q w {s with toks:=tk})→wpAny g.M A (T (.str a t) (.str b u)) Q Er s):bN g pl D sc E σ T R (.str a) (.str b) z σ:=
  .flat fun ι ω y A s Q Er h1 h2 k=>h1.isStr (M:=fun x=>wpAny g.M A (T x y) Q Er s) fun t=>h2.isStr (M:=fun y=>wpAny g.M A (T (.str a t) y) Q Er s) fun u=>H t u ι A s Q Er k
theorem bN.ii {α β:Type} {T:Value→Value→Sem α} {R:Led→α→β→Prop} {a b:Int} {z:β}
    (H:∀ (t u:Tok) (ι:Led) (A:Around) (s:Shared) (Q:α→Shared→Prop) (Er:Value→Shared→Prop),(∀ w tk,R ι w z→Q w {s with toks:=tk})→wpAny g.M A (T (.int a t) (.int b u)) Q Er s):bN g pl D sc E σ T R (.int a) (.int b) z σ:=
  .flat fun ι ω y A s Q Er h1 h2 k=>h1.isInt (M:=fun x=>wpAny g.M A (T x y) Q Er s) fun t=>h2.isInt (M:=fun y=>wpAny g.M A (T (.int a t) y) Q Er s) fun u=>H t u ι A s Q Er k
theorem mj {x y:Str} (hz:x.length+y.length≤sizeLine):bN g pl D sc E σ (binaryOp .Add) Rep (.str x) (.str y) (.str (x++y)) σ:=
  .ss fun ω ω ω ω ω ω ω k=>by with_reducible exact add_str (fun ω tk=>k _ tk (.str _ _)) hz
theorem xt {x y:Int}:bN g pl D sc E σ (binaryOp .Add) Rep (.int x) (.int y) (.int (x+y)) σ:=
  .ii fun ω ω ω ω ω ω ω k=>by with_reducible exact add_int (k _ _ (.int _ _))
theorem J6 {x y:Int} (hy:y≠0):bN g pl D sc E σ (binaryOp .Mod) Rep (.int x) (.int y) (.int (Int.fmod x y)) σ:=
  .ii fun ω ω ω ω ω ω ω k=>by with_reducible exact mod_int' hy (k _ _ (.int _ _))
theorem J7 {x y:Int} (hy:y≠0) (hb:Builtin.divisionGoesByPylong x y=false):bN g pl D sc E σ (binaryOp .FloorDiv) Rep (.int x) (.int y) (.int (Int.fdiv x y)) σ:=
  .ii fun ω ω ω ω ω ω ω k=>by with_reducible exact floordiv_int hy (k _ _ (.int _ _)) (.inl hb)
theorem J8 {x:Str} {n:Int} (hm:MulOk x n):bN g pl D sc E σ (binaryOp .Mult) Rep (.str x) (.int n) (.str (Txt.mul x n)) σ:=
  .flat fun ω ω v A s Q Er h1 h2 k=>h1.isStr (M:=fun u=>wpAny g.M A (binaryOp .Mult u v) Q Er s) fun t=>h2.isInt (M:=fun y=>wpAny g.M A (binaryOp .Mult (.str x t) y) Q Er s) fun ω=>SB.mul hm fun ω tk=>k _ tk (.str _ _)
theorem pU.cons {x:Option (Addr×Obj)} {ι σ:Led} {a:Addr} {o:Obj} (ap:pU x ι σ) (h:∀ q∈σ,a≠q.1):pU x ((a,o)::ι) σ:=
  ⟨List.forall_mem_cons.mpr ⟨h,ap.apart⟩,ap.once,fun p hp=>.tail _ (ap.hx p hp)⟩
theorem Inv.fresh {c:Cx} {news:Led} {m:Str→Option Value} {h₀ h:Heap} (I:Inv g c news m h₀ h):∀ q∈news,h.objs.size≠q.1:=fun q hq e=>
  absurd (Heap.lt_size (I.nw q hq).1) (by rw [e]; exact Nat.lt_irrefl _)
theorem pW {x y:List AV} (hz:x.length+y.length≤sizeLine):bN g pl D sc E σ (binaryOp .Add) Rep (.lst x) (.lst y) (.lst (x++y)) σ:=by
  intro v u; refine .mk fun c ι m s Q Er ok ⟨h₀,I⟩ R ap ht pr k=>?_
  refine pr.1.jf (M:=fun v=>wpAny g.M c.A (binaryOp .Add v u) Q Er s) fun r1 o1 v1 fk jg j4=>pr.2.jf (M:=fun u=>wpAny g.M c.A (binaryOp .Add (.ref r1) u) Q Er s) fun r2 o2 v2 jh j5 j6=>?_
  refine add_arrays I.fr I.nw ⟨_,(I.nw _ (List.mem_append_left _ fk)).1,jg.1,jg.2.2⟩ ⟨_,(I.nw _ (List.mem_append_left _ jh)).1,j5.1,j5.2.2⟩ (fun h' F N=>?_) (by rw [List.size_toArray,List.size_toArray,j4.length,j6.length]; exact hz)
  exact k _ ((s.heap.objs.size,_)::ι) m h' _ (I.to F N) (R.mono fun p hp=>.tail _ hp) (ap.cons fun q hq=>I.fresh q (List.mem_append_right _ hq)) (fun p hp=>.tail _ hp) (.lst (.head _) (pT _) ((j4.append j6).mono fun p hp=>.tail _ hp))
theorem xu {x y:Str}:bN g pl D sc E σ (compareOp .Eq) Rep (.str x) (.str y) (.bool (x==y)) σ:=
  .ss fun ω ω ω ω s ω ω k=>by with_reducible exact eq_str (k _ s.toks (.bool _))
theorem J9 {x y:Str}:bN g pl D sc E σ (compareOp .NotEq) Rep (.str x) (.str y) (.bool (x != y)) σ:=
  .ss fun ω ω ω ω s ω ω k=>by with_reducible exact ne_str (k _ s.toks (.bool _))
theorem sE {x y:Int}:bN g pl D sc E σ (compareOp .Eq) Rep (.int x) (.int y) (.bool (x==y)) σ:=
  .ii fun ω ω ω ω s ω ω k=>by with_reducible exact eq_int (k _ s.toks (.bool _))
theorem Ka {x y:Int}:bN g pl D sc E σ (compareOp .Lt) Rep (.int x) (.int y) (.bool (decide (x < y))) σ:=
  .ii fun ω ω ω ω s ω ω k=>by with_reducible exact lt_int (k _ s.toks (.bool _))
theorem Kb {x y:Int}:bN g pl D sc E σ (compareOp .Gt) Rep (.int x) (.int y) (.bool (decide (y < x))) σ:=
  .ii fun ω ω ω ω s ω ω k=>by with_reducible exact gt_int (k _ s.toks (.bool _))
theorem Kc {x y:Int}:bN g pl D sc E σ (compareOp .GtE) Rep (.int x) (.int y) (.bool (decide (y≤x))) σ:=
  .ii fun ω ω ω ω s ω ω k=>by with_reducible exact ge_int (k _ s.toks (.bool _))
theorem Kd {y:Str}:bN g pl D sc E σ (compareOp .Eq) Rep .none (.str y) (.bool false) σ:=
  .flat fun ω ω v A s Q Er h1 h2 k=>h1.isNone (M:=fun u=>wpAny g.M A (compareOp .Eq u v) Q Er s) (h2.isStr (M:=fun v=>wpAny g.M A (compareOp .Eq .none v) Q Er s) fun ω=>EqNone.eq_none_str (k _ s.toks (.bool _)))
theorem Ke {y x:Str}:bN g pl D sc E σ (compareOp .NotIn) Rep (.str y) (.str x) (.bool (Builtin.Str.occurrences x y 0 x.length 1).isEmpty) σ:=
  .ss fun ω ω ω ω s ω ω k=>by with_reducible exact notIn_str (k _ s.toks (Bool.not_not _▸.bool _))
theorem Kf {y:Str} {a:Addr} {eg:Str→Bool} (hS:(a,eg)∈g.sets):bN g pl D sc E σ (compareOp .In) Rep (.str y) (.val (.ref a)) (.bool (eg y)) σ:=by
  intro v u; refine .mk fun c ι m s Q Er ok ⟨h₀,I⟩ R ap ht pr k=>?_
  refine pr.1.isStr (M:=fun v=>wpAny g.M c.A (compareOp .In v u) Q Er s) fun t=>pr.2.isVal (M:=fun u=>wpAny g.M c.A (compareOp .In (.str y t) u) Q Er s) ?_
  have ⟨n,hn,F⟩:=ok.gd.st _ hS
  exact in_froz (knd:=PySem.strKind g.prog g.w) (k:=y) I.fr (F.imp fun ω F=>F.imp fun ω F=>F.imp fun ω F=>⟨I.bl.stays _ _ F.1,F.2⟩) (by simp [PySem.strKind,Value.isStrOf]) rfl hn (k _ ι m s.heap _ ⟨h₀,I⟩ R ap (fun p h=>h) (.bool _))
end
noncomputable def trunc (h:Heap) (n:Nat):Heap:=⟨h.objs.extract 0 n,h.life⟩
theorem xv (h:Heap) (n:Nat):(trunc h n).objs.size≤n:=by
  show (h.objs.extract 0 n).size≤n
  rw [Array.size_extract,Nat.sub_zero]
  exact Nat.min_le_left _ _
theorem xw {h:Heap} {n b:Nat} (hb:b < n) (hs:b < h.objs.size):(trunc h n).get? b=h.get? b:=by
  have q:(trunc h n).objs[b]?=h.objs[b]?:=by
    show (h.objs.extract 0 n)[b]?=_
    rw [Array.getElem?_extract,Nat.sub_zero,if_pos (Nat.lt_min.mpr ⟨hb,hs⟩),Nat.zero_add]
  unfold Heap.get?
  rw [q]
theorem nH {h:Heap} {n b:Nat} {o:Obj} (hb:b < n) (e:h.get? b=some o):(trunc h n).get? b=some o:=
  (xw hb (Heap.lt_size e)).trans e
theorem sF {h:Heap} {n b:Nat} {o:Obj} (e:(trunc h n).get? b=some o):h.get? b=some o:=by
  have hs:b < (h.objs.extract 0 n).size:=Heap.lt_size e
  rw [Array.size_extract,Nat.sub_zero] at hs
  exact (xw (Nat.lt_min.mp hs).1 (Nat.lt_min.mp hs).2).symm.trans e
theorem sG {h:Heap} {n b:Nat} (e:h.get? b=none):(trunc h n).get? b=none:=
  Option.eq_none_iff_forall_not_mem.mpr fun o q=>by cases (sF q).symm.trans e
theorem xx {h:Heap} {a:Addr} {m:Str→Option Value} {o:Obj} {sl:Array (Option Value)} (hn:h.Ns a m) (ho:h.get? a=some o) (h':Heap) (e:h'.get? a=some {o with slots:=sl}):h'.Ns a m:=
  let ⟨_,es,ep,h1,q⟩:=hn; ⟨_,es,ep,e,(Option.some.inj (ho.symm.trans h1))▸q⟩
theorem xy {base h k:Heap} {n:Nat} (hs:k.objs.size≤n) {l:List Env}:h.FunFrames base l→k.FunFrames base l→(trunc h n).FunFrames base l:=by
  induction l with
  | nil=>exact fun ω ω=>trivial
  | cons env l ih=>exact fun a b=>⟨a.1,a.2.1.imp fun L q=>q.imp fun o q=>⟨q.1,q.2.1,nH (by
      have ⟨Xj,Kg,e,_,sH,_⟩:=b.2.1
      exact Option.some.inj (e.symm.trans q.1)▸Nat.lt_of_lt_of_le (Heap.lt_size sH) hs) q.2.2.1,q.2.2.2⟩,ih a.2.2 b.2.2⟩
section
variable {g:Gx} {pl:Bool} {D:Nat}
noncomputable def Cx.into (c:Cx) (ji:Scope) (nm:Str) (f:Addr) (cd:Value) (sc:Scope) (L:Addr) (cl:List (Str×Addr)) (oL:Obj):Cx:=
  ⟨c.A.deeper (envX nm sc L f cd cl),c.A,nm,f,cd,L,c.env ji::c.outer,c.base,(c.L,oL)::c.fo,c.hx,cl⟩
theorem Cx.Ok.into {c:Cx} {ji sc:Scope} {nm:Str} {f L:Addr} {cd:Value} {cl:List (Str×Addr)} {oL:Obj} (ok:c.Ok g ji pl (D+1)) (hk:sc.kind=.function):(c.into ji nm f cd sc L cl oL).Ok g sc pl D:=
  ⟨ok.gd,Around.frames_deeper ok.fr,hk,by have:=ok.dp; show c.A.depth+1+D < 900; lia,by have:=ok.un; show c.A.units+3+20 * D < 9000; lia,ok.hd,ok.he,fun e=>⟨rfl,(ok.pl e).2⟩,ok.gs⟩
theorem sI {c:Cx} {sc:Scope} {news:Led} {m m':Str→Option Value} {h₀ h ah:Heap} {D:Nat} (ok:c.Ok g sc pl D) (I:Inv g c news m h₀ h) (nm:Str) (f:Addr) (cd:Value) (Kh:Scope) (cl:List (Str×Addr))
    (cN:ah.Ns h.objs.size m') (hk:∀ b o,h.get? b=some o→ah.get? b=some o):
    ∃ oL,h.get? c.L=some oL∧St g (c.into sc nm f cd Kh h.objs.size cl oL) news m' ah:=by
  have ⟨oL,_,_,hL,_⟩:=I.fr.ns
  have pX:∀ b o,h₀.get? b=some o→b∉news.map (·.1):=fun b o e q=>by
    have ⟨p,hp,q⟩:=List.mem_map.mp q
    cases ((q▸(I.nw p hp).2.2:h₀.get? b=none)).symm.trans e
  have st:∀ b o,h₀.get? b=some o→(hideAll h (news.map (·.1))).get? b=some o:=fun b o e=>hideAll_get _ (I.fr.keep b o e) (pX b o e)
  have nL:c.L∉news.map (·.1):=fun q=>
    have ⟨p,hp,e⟩:=List.mem_map.mp q
    (I.nw p hp).2.1 e
  refine ⟨oL,hL,hideAll h (news.map (·.1)),⟨cN,fun b o e=>hk b o (of_hideAll _ e),Nat.le_of_eq (hideAll_size _ _)⟩,fun p hp=>⟨hk _ _ (I.nw p hp).1,Nat.ne_of_lt (Heap.lt_size (I.nw p hp).1),hideAll_none _ (List.mem_map_of_mem hp)⟩,⟨ok.fr,fun b o e=>st b o (I.bl.stays b o e),?_⟩,List.forall_mem_cons.mpr ⟨⟨oL.slots,hideAll_get _ hL nL⟩,fun p hp=>(I.fo p hp).imp fun ω e=>st _ _ e⟩⟩
  refine funFrames_hideAll (pushX (env:=c.env sc) I.bl I.fr rfl ok.kind).frames (List.forall_mem_cons.mpr ⟨fun b hb hf=>nL ((Option.some.inj hf:c.L=b)▸hb),fun env he b hb hf=>?_⟩)
  have ⟨pY,hB,sJ,nI⟩:=funFrames_in I.bl.frames env he
  exact pX pY hB nI ((Option.some.inj (sJ.symm.trans hf):pY=b)▸hb)
theorem pZ {c:Cx} {news j3:Led} {m m':Str→Option Value} {h₀ h h':Heap} {oL:Obj} {ji sc:Scope} {nm:Str} {f L:Addr} {cd:Value} {cl:List (Str×Addr)} (I:Inv g c news m h₀ h) (hL:h.get? c.L=some oL)
    (S:St g (c.into ji nm f cd sc L cl oL) j3 m' h'):St g c j3 m h':=by
  have ⟨ah,J⟩:=S
  have ⟨sl,eL⟩:=J.fo (c.L,oL) (.head _)
  have lt:∀ {b:Addr} {o:Obj},h₀.get? b=some o→b < c.L:=fun e=>Nat.lt_of_lt_of_le (Heap.lt_size e) I.fr.above
  exact ⟨trunc ah c.L,⟨xx I.fr.ns hL h' (J.fr.keep _ _ eL),fun b o e=>J.fr.keep b o (sF e),xv _ _⟩,fun p hp=>⟨(J.nw p hp).1,fun q=>(by cases ((q▸(J.nw p hp).2.2:ah.get? c.L=none)).symm.trans eL),sG (J.nw p hp).2.2⟩,⟨I.bl.stack,fun b o e=>nH (lt (I.bl.stays b o e)) (J.bl.stays b o e),xy I.fr.above J.bl.frames.2.2 I.bl.frames⟩,fun p hp=>
    have ⟨_,hH⟩:=I.fo p hp
    have ⟨Ki,gk⟩:=J.fo p (.tail _ hp)
    ⟨Ki,nH (lt hH) gk⟩⟩
theorem lookup_mem {x:Str} {v:Value}:∀ {l:List (Str×Value)},(l.map (·.1)).Nodup→(x,v)∈l→l.lookup x=some v
  | (y,u)::r,hn,hm=>by
    rw [List.map_cons,List.nodup_cons] at hn
    rcases List.mem_cons.mp hm with e | e
    · cases e; simp [List.lookup]
    · have:x≠y:=fun q=>hn.1 (q▸List.mem_map_of_mem (f:=(·.1)) e)
      simp only [List.lookup,beq_eq_false_iff_ne.mpr this]
      exact lookup_mem hn.2 e
theorem xA {x:Str}:∀ {l:List (Str×Value)},x∉l.map (·.1)→l.lookup x=none
  | [],_=>rfl
  | (y,u)::r,hn=>by
    rw [List.map_cons,List.mem_cons,not_or] at hn
    simp only [List.lookup,beq_eq_false_iff_ne.mpr hn.1]
    exact xA hn.2
theorem aY.zip {ι:Led} {x:Str} {a:AV} {ps:List Str} {vs:List Value} {as:List AV} (h:aY ι vs as):(x,a)∈ps.zip as→∃ v,(x,v)∈ps.zip vs∧Rep ι v a:=
  h.ind (M:=fun vs as=>∀ ps:List Str,(x,a)∈ps.zip as→∃ v,(x,v)∈ps.zip vs∧Rep ι v a) (fun ps e=>by cases ps <;> cases e) (fun {v _ _ _} h _ m ps=>by
    cases ps with
    | nil=>exact fun e=>by cases e
    | cons p ps=>
      rw [List.zip_cons_cons,List.zip_cons_cons,List.mem_cons]
      rintro (e | e)
      · exact ⟨v,by injection e with e1 e2; rw [e1]; exact .head _,by injection e with e1 e2; rw [e2]; exact h⟩
      · exact (m ps e).imp fun ω q=>⟨.tail _ q.1,q.2⟩) ps
noncomputable abbrev fY (ps:List Str) (as:List AV) (rest:List Str):ag:=(ps.zip as).map (fun q=>(q.1,some q.2))++rest.map fun x=>(x,none)
theorem sL {ι:Led} {ps rest:List Str} {vs:List Value} {as:List AV} (hn:(ps++rest).Nodup) (hl:ps.length=as.length) (hr:aY ι vs as):bF ι (fY ps as rest) (fun y=>(ps.zip vs).reverse.lookup y):=by
  have Xk:ps.length=vs.length:=hl.trans hr.length.symm
  have k1:(ps.zip as).map (·.1)=ps:=List.map_fst_zip (by lia)
  have k2:(ps.zip vs).map (·.1)=ps:=List.map_fst_zip (by lia)
  have k3:((ps.zip vs).reverse.map (·.1)).Nodup:=by rw [List.map_reverse,k2]; exact (List.reverse_perm _).nodup_iff.mpr (List.nodup_append.mp hn).1
  refine ⟨?_,fun x a h=>?_,fun x h=>?_⟩
  · rw [List.map_append,List.map_map,List.map_map]
    show ((ps.zip as).map (·.1)++rest.map id).Nodup
    rw [k1,List.map_id]; exact hn
  · rcases List.mem_append.mp h with h | h
    · obtain ⟨q,hq,e⟩:=List.mem_map.mp h
      cases e
      obtain ⟨v,h1,h2⟩:=hr.zip (x:=q.1) (a:=q.2) hq
      exact ⟨v,lookup_mem k3 (List.mem_reverse.mpr h1),h2⟩
    · obtain ⟨q,_,e⟩:=List.mem_map.mp h; cases e
  · rcases List.mem_append.mp h with h | h
    · obtain ⟨q,_,e⟩:=List.mem_map.mp h; cases e
    · obtain ⟨q,hq,e⟩:=List.mem_map.mp h
      cases e
      refine xA ?_
      rw [List.map_reverse,List.mem_reverse,k2]
      exact fun hm=>(List.nodup_append.mp hn).2.2 x hm x hq rfl
end
structure CG {α β:Type} (g:Gx) (pl:Bool) (D:Nat) (sc:Scope) (E:ag) (σ:Led) (tr:Cx→Sem α) (R:Led→α→β→Prop) (P:β→ag→Led→Prop):Prop where
  on:∀ (c:Cx) (ι:Led) (m:Str→Option Value) (s:Shared) (Q:α→Shared→Prop) (Er:Value→Shared→Prop),c.Ok g sc pl D→St g c (ι++σ) m s.heap→bF ι E m→Ap c ι σ→0 < s.toks→
    (∀ v b E' U ae m' h' ao,0 < ao→St g c (ae++U) m' h'→bF ae E' m'→Ap c ae U→(∀ p∈ι,p∈ae)→R ae v b→P b E' U→Q v {s with heap:=h',toks:=ao})→
    wpAny g.M c.A (tr c) Q Er s
section
variable {g:Gx} {pl:Bool} {D:Nat} {sc:Scope} {E E' E₁ aO:ag} {σ U σ₁ σ₂ aN:Led} {α β:Type} {tr:Cx→Sem α} {R:Led→α→β→Prop} {b:β}
theorem CG.det {P:β→ag→Led→Prop} (h:CG g pl D sc E σ tr R P) (hp:∀ x y z,P x y z→x=b∧y=E'∧z=U):Comes g pl D sc E σ tr R b E' U:=
  .mk fun c ι m s Q Er ok S R' ap ht k=>h.on c ι m s Q Er ok S R' ap ht fun v b' ml bU ae m' h' ao aQ S' k6 aX hs hr hP=>by
    obtain ⟨rfl,rfl,rfl⟩:=hp _ _ _ hP
    exact k v ae m' h' ao aQ S' k6 aX hs hr
theorem Comes.toG {P:β→ag→Led→Prop} (h:Comes g pl D sc E σ tr R b E' U) (hp:P b E' U):CG g pl D sc E σ tr R P:=
  .mk fun c ι m s Q Er ok S R' ap ht k=>h.on c ι m s Q Er ok S R' ap ht fun v ae m' h' ao aQ S' k6 aX hs hr=>
    k v b E' U ae m' h' ao aQ S' k6 aX hs hr hp
theorem CG.mono {P P':β→ag→Led→Prop} (h:CG g pl D sc E σ tr R P) (hp:∀ x y z,P x y z→P' x y z):CG g pl D sc E σ tr R P':=
  .mk fun c ι m s Q Er ok S R' ap ht k=>h.on c ι m s Q Er ok S R' ap ht fun v b' ml bU ae m' h' ao aQ S' k6 aX hs hr hP=>k v b' ml bU ae m' h' ao aQ S' k6 aX hs hr (hp _ _ _ hP)
noncomputable abbrev sM (g:Gx) (pl:Bool) (D:Nat) (sc:Scope) (E:ag) (σ:Led) (e:Expr) (P:AV→ag→Led→Prop):Prop:=CG g pl D sc E σ (fun c=>eval e (c.env sc)) Rep P
noncomputable abbrev dg (g:Gx) (pl:Bool) (D:Nat) (sc:Scope) (E:ag) (σ:Led) (st:Stmt) (P:Fl→ag→Led→Prop):Prop:=CG g pl D sc E σ (fun c=>exec st (c.env sc)) cZ P
noncomputable abbrev b0 (g:Gx) (pl:Bool) (D:Nat) (sc:Scope) (E:ag) (σ:Led) (st:List Stmt) (P:Fl→ag→Led→Prop):Prop:=CG g pl D sc E σ (fun c=>execs st (c.env sc)) cZ P
theorem aU:ee g pl D sc E σ [] [] σ:=fun ω=>Comes.of fun ω ι m s ω ω ω S R ap ω k=>spliced_none (k [] ι m s.heap s.toks S R ap (fun ω h=>h) .nil)
theorem au {e:Expr} {es:List Expr} {a:AV} {as:List AV} (h:Ev g pl D sc E σ e a σ₁) (t:ee g pl D sc E σ₁ es as σ₂)
    (hs:autoParam (∀ env,starEach (e::es) env=(false,eval e env)::starEach es env) aI):ee g pl D sc E σ (e::es) (a::as) σ₂:=by
  refine fun pos=>Comes.of fun c ι m s Q Er ok S R' ap ht k=>?_
  refine spliced_more ?_ (hs _)
  refine h.on c ι m s _ _ ok S R' ap ht fun v ar m₁ ah ax av ai aq aj ak hv=>?_
  refine (t pos).on c ar m₁ _ _ _ ok ai aq aj av fun vs aG m₂ aB a9 a8 aw aC ay aA aM=>?_
  exact k (v::vs) aG m₂ aB a9 aw aC ay (fun p hp=>aA p (ak p hp)) (.cons (hv.mono aA) aM)
theorem cj {x:Str} {p pos:Pos} {e:Expr} {es:List Expr} {as:List AV} {f:Addr} {r:AV}
    (e0:nsIn g.K mainGlobals x=some (some (.ref f))) (hk:keepIn g.K (.ref f)=true) (dq:ee g pl D sc E σ (e::es) as σ₁) (cP:Fn g pl D (.ref f) as σ₁ r σ₂)
    (hn:autoParam (sc.names.lookup x=some .globalImplicit) aK) (hd:autoParam ((x==("__debug__":Str))=false) aK)
    (he:autoParam (∀ env,starEach (e::es) env=(false,eval e env)::starEach es env) aI) (cW:autoParam (∀ pos env,(backTo pos (starEach es env)).any (·.1)=false) aJ):
    Ev g pl D sc E σ (.Call (.Name x p) (e::es) [] pos) r σ₂:=by
  refine Comes.of fun c ι m s Q Er ok S R' ap ht k=>?_
  refine wpAny_Call_NameR ((cH e0 hn hd).on c ι m s _ _ ok S R' ap ht fun v ar m₁ ah ax av ai aq aj ak hv=>?_)
  refine hv.is ?_
  obtain ⟨h₀,dR⟩:=ai
  refine callWith_K (ok.kh dR) hk ((dq pos).on c ar m₁ _ _ _ ok ⟨h₀,dR⟩ aq aj av fun vs aG m₂ aB a9 a8 aw aC ay aA aM=>?_) (he _) (cW _ _)
  obtain ⟨e7,b9⟩:=aw
  refine ⟨ok.kh b9,cP c sc aG m₂ _ _ _ _ ok ⟨e7,b9⟩ ay a8 aM fun v br bu bx bj bp bo b8=>?_⟩
  exact k v br m₂ bu bx bj (aC.mono bo) bp (fun p hp=>bo p (aA p (ak p hp))) b8
theorem jj {x:Str} {p pos:Pos} {e:Expr} {es:List Expr} {as:List AV} {id:String} {r:AV}
    (e0:nsIn g.K mainGlobals x=some none) (hv:bootBuiltins x=some (.builtin id)) (hx:x≠"__name__") (dq:ee g pl D sc E σ (e::es) as σ₁) (cP:Fn g pl D (.builtin id) as σ₁ r σ₂)
    (hn:autoParam (sc.names.lookup x=some .globalImplicit) aK) (hd:autoParam ((x==("__debug__":Str))=false) aK)
    (he:autoParam (∀ env,starEach (e::es) env=(false,eval e env)::starEach es env) aI) (cW:autoParam (∀ pos env,(backTo pos (starEach es env)).any (·.1)=false) aJ):
    Ev g pl D sc E σ (.Call (.Name x p) (e::es) [] pos) r σ₂:=by
  refine Comes.of fun c ι m s Q Er ok S R' ap ht k=>?_
  refine wpAny_Call_NameR ((gC e0 hv hx hn hd).on c ι m s _ _ ok S R' ap ht fun v ar m₁ ah ax av ai aq aj ak hv=>?_)
  refine hv.is ?_
  refine PyProof.Rows.callWith_builtin1 ((dq pos).on c ar m₁ _ _ _ ok ai aq aj av fun vs aG m₂ aB a9 a8 aw aC ay aA aM=>?_) (he _) (cW _ _)
  refine cP c sc aG m₂ _ _ _ _ ok aw ay a8 aM fun v br bu bx bj bp bo b8=>?_
  exact k v br m₂ bu bx bj (aC.mono bo) bp (fun p hp=>bo p (aA p (ak p hp))) b8
theorem mq {x:Str} {p pos:Pos} {e:Expr} {es:List Expr} {as:List AV} {id:String} {r:AV}
    (e0:nsIn g.K mainGlobals x=some none) (hv:bootBuiltins x=some (.type id)) (hx:x≠"__name__") (dq:ee g pl D sc E σ (e::es) as σ₁) (cP:Fn g pl D (.type id) as σ₁ r σ₂)
    (hn:autoParam (sc.names.lookup x=some .globalImplicit) aK) (hd:autoParam ((x==("__debug__":Str))=false) aK)
    (he:autoParam (∀ env,starEach (e::es) env=(false,eval e env)::starEach es env) aI) (cW:autoParam (∀ pos env,(backTo pos (starEach es env)).any (·.1)=false) aJ):
    Ev g pl D sc E σ (.Call (.Name x p) (e::es) [] pos) r σ₂:=by
  refine Comes.of fun c ι m s Q Er ok S R' ap ht k=>?_
  refine wpAny_Call_NameR ((gC e0 hv hx hn hd).on c ι m s _ _ ok S R' ap ht fun v ar m₁ ah ax av ai aq aj ak hv=>?_)
  refine hv.is ?_
  refine PyProof.Rows.callWith_type1 ((dq pos).on c ar m₁ _ _ _ ok ai aq aj av fun vs aG m₂ aB a9 a8 aw aC ay aA aM=>?_) (he _) (cW _ _)
  refine cP c sc aG m₂ _ _ _ _ ok aw ay a8 aM fun v br bu bx bj bp bo b8=>?_
  exact k v br m₂ bu bx bj (aC.mono bo) bp (fun p hp=>bo p (aA p (ak p hp))) b8
structure Kj (p:Prop):Prop where
  on:p
noncomputable abbrev jl (g:Gx) (nm:Str) (id:String):Prop:=Kj (∀ (A:Around) (Er:Value→Shared→Prop) (s:Shared) (x:Str) (t:Tok) (pl:Sem Bool) (Q:Value×List Value→Shared→Prop),Q (.builtin id,[.str x t]) s→wpAny g.M A (getMethod (.str x t) nm pl) Q Er s)
set_option maxRecDepth 10000 in
theorem jm {o:Expr} {nm:Str} {id:String} {apos pos:Pos} {e:Expr} {es:List Expr} {x:Str} {as:List AV} {r:AV} (ho:Ev g pl D sc E σ o (.str x) σ₁) (hg:jl g nm id) (dq:ee g pl D sc E σ₁ (e::es) as σ₂)
    (cP:Fn g pl D (.builtin id) (.str x::as) σ₂ r aN)
    (he:autoParam (∀ env,starEach (e::es) env=(false,eval e env)::starEach es env) aI) (cW:autoParam (∀ pos env,(backTo pos (starEach es env)).any (·.1)=false) aJ)
    (hm:autoParam (∀ env,∃ pl,eval (.Call (.Attribute o nm apos) (e::es) [] pos) env=(do
      let ov ←eval o env
      standAt apos.atName
      let (f,first) ←holding [ov] (getMethod ov nm pl)
      callWith pos f first (backTo pos (starEach (e::es) env)) [])) aE):
    Ev g pl D sc E σ (.Call (.Attribute o nm apos) (e::es) [] pos) r aN:=by
  refine Comes.of fun c ι m s Q Er ok S R' ap ht k=>?_
  obtain ⟨dK,hm⟩:=hm (c.env sc)
  refine MethodCall_ (ho.on c ι m s _ _ ok S R' ap ht fun v ar m₁ ah ax av ai aq aj ak hv=>?_) hm
  refine hv.is fun tx=>?_
  with_reducible refine hg.on c.A Er _ x tx dK _ ?_
  show wpAny g.M c.A (callWith pos (.builtin id) [.str x tx] (backTo pos (starEach (e::es) (c.env sc))) []) Q Er _
  refine callWith_method1 ((dq pos).on c ar m₁ _ _ _ ok ai aq aj av fun vs aG m₂ aB a9 a8 aw aC ay aA aM=>?_) (he _) (cW _ _)
  refine cP c sc aG m₂ _ _ _ _ ok aw ay a8 (.cons (.str x tx) aM) fun v br bu bx bj bp bo b8=>?_
  exact k v br m₂ bu bx bj (aC.mono bo) bp (fun p hp=>bo p (aA p (ak p hp))) b8
theorem fm {es:List Expr} {as:List AV} {k:Nat} {p:Pos} (h:ee g pl D sc E σ es as σ₁) (hl:autoParam (as.length≤sizeLine) aS):Ev g pl D sc E σ (.Tuple es k p) (.tup as) σ₁:=by
  refine Comes.of fun c ι m s Q Er ok S R' ap ht kk=>?_
  refine wpAny_Tuple ((h p).on c ι m s _ _ ok S R' ap ht fun vs ar m₁ ah ax av ai aq aj ak hv=>?_)
  obtain ⟨h₀,I⟩:=ai
  refine ⟨by rw [hv.length]; exact hl,?_⟩
  exact kk _ ((ah.objs.size,cV vs)::ar) m₁ _ ax (I.to (I.fr.push _) (I.nw.push I.fr _)) (aq.mono fun p hp=>.tail _ hp) (aj.cons fun q hq=>I.fresh q (List.mem_append_right _ hq)) (fun p hp=>.tail _ (ak p hp)) (.tup (.head _) (hv.mono fun p hp=>.tail _ hp))
theorem j7 {es:List Expr} {as:List AV} {p:Pos} (h:ee g pl D sc E σ es as σ₁) (hl:autoParam (as.length≤sizeLine) aS):Ev g pl D sc E σ (.List es p) (.lst as) σ₁:=by
  refine Comes.of fun c ι m s Q Er ok S R' ap ht kk=>?_
  refine List_ ((h p).on c ι m s _ _ ok S R' ap ht fun vs ar m₁ ah ax av ai aq aj ak hv=>?_)
  obtain ⟨h₀,I⟩:=ai
  refine newList_N I.fr I.nw (fun h' F N=>?_) (by rw [hv.length]; exact hl)
  exact kk _ ((ah.objs.size,g9 vs)::ar) m₁ _ ax (I.to F N) (aq.mono fun p hp=>.tail _ hp) (aj.cons fun q hq=>I.fresh q (List.mem_append_right _ hq)) (fun p hp=>.tail _ (ak p hp)) (.lst (.head _) (pT _) (hv.mono fun p hp=>.tail _ hp))
theorem xB {v i:Expr} {p:Pos} {x:Str} {k:Int} (hv:Ev g pl D sc E σ v (.str x) σ₁) (hi:Ev g pl D sc E σ₁ i (.int k) σ₂) (hf:fitsSsize k=true) (h1:-(x.length:Int)≤k) (h2:k < x.length)
    (hs:autoParam (∀ t u,subscripted i false (.str x t) (.int k u)=operate [.str x t,.int k u] (getItem (.str x t) (.int k u))) aW)
    (hl:autoParam (∀ t r,letTemporaryGo v (.str x t) r=pure ()) aW):Ev g pl D sc E σ (.Subscript v i p) (.str (Txt.item x k)) σ₂:=by
  refine Comes.of fun c ι m s Q Er ok S R' ap ht kk=>?_
  refine Subscript_ (hv.on c ι m s _ _ ok S R' ap ht fun v ar m₁ ah ax av ai aq aj ak hv=>?_)
  refine hi.on c ar m₁ _ _ _ ok ai aq aj av fun b7 aG m₂ aB a9 a8 aw aC ay aA bB=>?_
  refine hv.isStr fun t=>bB.isInt fun u=>?_
  exact item_str hf h1 h2 (fun ω=>kk _ aG m₂ aB _ aw aC ay (fun p hp=>aA p (ak p hp)) (.str _ _)) (hs t u) (hl t)
theorem Kk {v lo:Expr} {p q:Pos} {x:Str} {i:Int} (hv:Ev g pl D sc E σ v (.str x) σ₁) (hi:Ev g pl D sc E σ₁ lo (.int i) σ₂) (hx:x.length≤sizeLine)
    (hs:autoParam (∀ t r,subscripted (.Slice (some lo) none none q) false (.str x t) (.ref r)=operate [.ref r,.str x t] (getItem (.str x t) (.ref r))) aW)
    (hl:autoParam (∀ t r,letTemporaryGo v (.str x t) r=pure ()) aW):Ev g pl D sc E σ (.Subscript v (.Slice (some lo) none none q) p) (.str (Txt.slice x (some i) none)) σ₂:=by
  refine Comes.of fun c ι m s Q Er ok S R' ap ht kk=>?_
  refine Subscript_ (hv.on c ι m s _ _ ok S R' ap ht fun v ar m₁ ah ax av ai aq aj ak hv=>?_)
  refine wpAny_Slice ?_
  rw [evalPart_some]
  refine hi.on c ar m₁ _ _ _ ok ai aq aj av fun b7 aG m₂ aB a9 a8 aw aC ay aA bB=>?_
  refine evalPart_none_step (evalPart_none_step ?_)
  refine hv.isStr fun t=>bB.isInt fun u=>?_
  obtain ⟨h₀,I⟩:=aw
  refine slice_strN_sn I.fr I.nw (fun h' t' k F N=>?_) (hs t _) (hl t) hx
  exact kk _ aG m₂ h' k (I.to F N) aC ay (fun p hp=>aA p (ak p hp)) (.str _ _)
theorem Kl {v dD:Expr} {p q:Pos} {x:Str} {j:Int} (hv:Ev g pl D sc E σ v (.str x) σ₁) (hi:Ev g pl D sc E σ₁ dD (.int j) σ₂) (hx:x.length≤sizeLine)
    (hs:autoParam (∀ t r,subscripted (.Slice none (some dD) none q) false (.str x t) (.ref r)=operate [.ref r,.str x t] (getItem (.str x t) (.ref r))) aW)
    (hl:autoParam (∀ t r,letTemporaryGo v (.str x t) r=pure ()) aW):Ev g pl D sc E σ (.Subscript v (.Slice none (some dD) none q) p) (.str (Txt.slice x none (some j))) σ₂:=by
  refine Comes.of fun c ι m s Q Er ok S R' ap ht kk=>?_
  refine Subscript_ (hv.on c ι m s _ _ ok S R' ap ht fun v ar m₁ ah ax av ai aq aj ak hv=>?_)
  refine wpAny_Slice (evalPart_none_step ?_)
  rw [evalPart_some]
  refine hi.on c ar m₁ _ _ _ ok ai aq aj av fun b7 aG m₂ aB a9 a8 aw aC ay aA bB=>?_
  refine evalPart_none_step ?_
  refine hv.isStr fun t=>bB.isInt fun u=>?_
  obtain ⟨h₀,I⟩:=aw
  refine slice_strN_ns I.fr I.nw (fun h' t' k F N=>?_) (hs t _) (hl t) hx
  exact kk _ aG m₂ h' k (I.to F N) aC ay (fun p hp=>aA p (ak p hp)) (.str _ _)
theorem Km {v lo dD:Expr} {p q:Pos} {x:Str} {i j:Int} (hv:Ev g pl D sc E σ v (.str x) σ₁) (j8:Ev g pl D sc E σ₁ lo (.int i) σ₂) (hi:Ev g pl D sc E σ₂ dD (.int j) aN) (hx:x.length≤sizeLine)
    (hs:autoParam (∀ t r,subscripted (.Slice (some lo) (some dD) none q) false (.str x t) (.ref r)=operate [.ref r,.str x t] (getItem (.str x t) (.ref r))) aW)
    (hl:autoParam (∀ t r,letTemporaryGo v (.str x t) r=pure ()) aW):Ev g pl D sc E σ (.Subscript v (.Slice (some lo) (some dD) none q) p) (.str (Txt.slice x (some i) (some j))) aN:=by
  refine Comes.of fun c ι m s Q Er ok S R' ap ht kk=>?_
  refine Subscript_ (hv.on c ι m s _ _ ok S R' ap ht fun v ar m₁ ah ax av ai aq aj ak hv=>?_)
  refine wpAny_Slice ?_
  rw [evalPart_some]
  refine j8.on c ar m₁ _ _ _ ok ai aq aj av fun b7 aG m₂ aB a9 a8 aw aC ay aA bB=>?_
  rw [evalPart_some]
  refine hi.on c aG m₂ _ _ _ ok aw aC ay a8 fun sD br cD bu bx ck bj cI bp bo b8=>?_
  refine evalPart_none_step ?_
  refine hv.isStr fun t=>bB.isInt fun u=>b8.isInt fun Kn=>?_
  obtain ⟨h₀,I⟩:=bj
  refine slice_strN_ss I.fr I.nw (fun h' t' k F N=>?_) (hs t _) (hl t) hx
  exact kk _ br cD h' k (I.to F N) cI bp (fun p hp=>bo p (aA p (ak p hp))) (.str _ _)
end
inductive Upd (x:Str) (a:AV):ag→ag→Prop
  | here {o:Option AV} {r:ag}:Upd x a ((x,o)::r) ((x,some a)::r)
  | there {p:Str×Option AV} {r r':ag}:Upd x a r r'→Upd x a (p::r) (p::r')
theorem Upd.names {x:Str} {a:AV} {E E':ag} (h:Upd x a E E'):E'.map (·.1)=E.map (·.1):=by
  induction h with
  | here=>rfl
  | there _ ih=>rw [List.map_cons,List.map_cons,ih]
theorem Upd.isIn {x:Str} {a:AV} {E E':ag} (h:Upd x a E E'):x∈E.map (·.1):=by
  induction h with
  | here=>exact List.mem_cons_self ..
  | there _ ih=>exact List.mem_cons_of_mem _ ih
theorem Upd.mem {x y:Str} {a:AV} {o:Option AV} {E E':ag} (h:Upd x a E E') (hn:(E.map (·.1)).Nodup) (hm:(y,o)∈E'):(y=x∧o=some a)∨(y≠x∧(y,o)∈E):=by
  induction h with
  | here=>
    rw [List.map_cons,List.nodup_cons] at hn
    rcases List.mem_cons.mp hm with e | e
    · cases e; exact .inl ⟨rfl,rfl⟩
    · exact .inr ⟨fun q=>hn.1 (q▸List.mem_map_of_mem (f:=(·.1)) e),.tail _ e⟩
  | @there p r r' hu ih=>
    rw [List.map_cons,List.nodup_cons] at hn
    rcases List.mem_cons.mp hm with e | e
    · cases e
      exact .inr ⟨fun q=>hn.1 (q▸hu.isIn),.head _⟩
    · rcases ih hn.2 e with r | r
      · exact .inl r
      · exact .inr ⟨r.1,.tail _ r.2⟩
theorem bF.upd {ι:Led} {E E':ag} {m:Str→Option Value} {x:Str} {a:AV} {v:Value} (R:bF ι E m) (hu:Upd x a E E') (hv:Rep ι v a):bF ι E' (fun y=>if y=x then some v else m y):=by
  refine ⟨by rw [hu.names]; exact R.nd,fun y b h=>?_,fun y h=>?_⟩
  · rcases hu.mem R.nd h with ⟨rfl,e⟩ | ⟨aT,h⟩
    · cases e; exact ⟨v,by simp,hv⟩
    · obtain ⟨u,h1,h2⟩:=R.at_ y b h
      exact ⟨u,by simp only [if_neg aT]; exact h1,h2⟩
  · rcases hu.mem R.nd h with ⟨rfl,e⟩ | ⟨aT,h⟩
    · cases e
    · simp only [if_neg aT]; exact R.off y h
section
variable {g:Gx} {pl:Bool} {D:Nat} {sc:Scope} {E E' E₁ aO:ag} {σ U σ₁ σ₂ aN:Led}
theorem fq {c:Cx} {ι:Led} {m:Str→Option Value} {s:Shared} {x:Str} {v:Value} {Q:Unit→Shared→Prop} {Er:Value→Shared→Prop} (ok:c.Ok g sc pl D) (S:St g c ι m s.heap) (hk:sc.names.lookup x=some .local)
    (k:∀ h',St g c ι (fun y=>if y=x then some v else m y) h'→Q () {s with heap:=h',toks:=s.toks+1}):wpAny g.M c.A (storeName (c.env sc) x v) Q Er s:=by
  obtain ⟨h₀,I⟩:=S
  exact storeX_L I.fr I.nw (fun h' F N=>k h' (I.to F N)) ok.kind (by unfold Env.kindOf; exact hk)
theorem Ko {x:Str} {p' pos:Pos} {e:Expr} {a:AV} (hv:Ev g pl D sc E σ e a σ₁) (hu:Upd x a E E') (hk:autoParam (sc.names.lookup x=some .local) aK)
    (hs:autoParam (∀ env,swapsWith e (some (.Name x p')) pos.line env=pure false) aI):Ex g pl D sc E σ (.Assign [.Name x p'] e pos) .next E' σ₁:=by
  refine Comes.of fun c ι m s Q Er ok S R ap ht k=>?_
  refine wpAny_Assign_Name (hv.on c ι m s _ _ ok S R ap ht fun v ar m₁ ah ax av ai aq aj ak hv=>?_) (hs _)
  exact fq ok ai hk fun h' S'=>k .next ar _ h' _ S' (aq.upd hu hv) aj ak .next
noncomputable abbrev k7 (g:Gx) (pl:Bool) (D:Nat) (sc:Scope) (E:ag) (σ:Led) (o:Operator) (a b z:AV) (U:Led):Prop:=bN g pl D sc E σ (inplaceOp o) Rep a b z U
theorem Kp {x:Str} {p' pos:Pos} {o:Operator} {e:Expr} {a b z:AV} (hm:(x,some a)∈E) (hv:Ev g pl D sc E σ e b σ₁) (ho:k7 g pl D sc E σ₁ o a b z σ₂) (hu:Upd x z E E') (hk:autoParam (sc.names.lookup x=some .local) aK):Ex g pl D sc E σ (.AugAssign (.Name x p') o e pos) .next E' σ₂:=by
  refine Comes.of fun c ι m s Q Er ok S R ap ht k=>?_
  refine wpAny_AugAssign_Name ?_
  obtain ⟨v,Kq,Kr⟩:=R.at_ x a hm
  obtain ⟨h₀,I⟩:=S
  refine wpAny_loadName_local (env:=c.env sc) ok.kind (by unfold Env.kindOf; exact hk) I.fr.ns Kq ?_
  refine hv.on c ι m s _ _ ok ⟨h₀,I⟩ R ap ht fun Ks ar m₁ ah ax av ai aq aj ak hX=>?_
  refine (ho v Ks).on c ar m₁ _ _ _ ok ai aq aj av ⟨Kr.mono ak,hX⟩ fun b7 aG m₂ aB a9 aw aC ay aA bB=>?_
  exact fq ok aw hk fun h' S'=>k .next aG _ h' _ S' (aC.upd hu bB) ay (fun p hp=>aA p (ak p hp)) .next
theorem Kt {x y:Str} (hz:x.length+y.length≤sizeLine):k7 g pl D sc E σ .Add (.str x) (.str y) (.str (x++y)) σ:=
  .ss fun ω ω ω ω ω ω ω k=>by with_reducible exact iadd_str (fun ω tk=>k _ tk (.str _ _)) hz
theorem Ku {x y:Int}:k7 g pl D sc E σ .Add (.int x) (.int y) (.int (x+y)) σ:=
  .ii fun ω ω ω ω ω ω ω k=>by with_reducible exact PyProof.Rows.iadd_int (k _ _ (.int _ _))
theorem cb {e:Expr} {pos:Pos} {a:AV} (h:Ev g pl D sc E σ e a σ₁):Ex g pl D sc E σ (.Return (some e) pos) (.ret a) E σ₁:=
  Comes.of fun c ι m s ω ω ok S R ap ht k=>wpAny_Return_some (h.on c ι m s _ _ ok S R ap ht fun v ar m₁ ah ax ω ai aq aj ak hv=>k _ ar m₁ ah ax ai aq aj ak (.ret hv))
theorem bh:ef g pl D sc E σ [] .next E σ:=
  Comes.of fun ω ι m s ω ω ω S R ap ω k=>wpAny_execs_nil (k _ ι m s.heap s.toks S R ap (fun ω h=>h) .next)
theorem p0 {st:Stmt} {rest:List Stmt} {fl:Fl} (h:Ex g pl D sc E σ st .next E₁ σ₁) (hr:ef g pl D sc E₁ σ₁ rest fl aO σ₂):ef g pl D sc E σ (st::rest) fl aO σ₂:=by
  refine Comes.of fun c ι m s Q Er ok S R ap ht k=>?_
  refine wpAny_execs_cons (h.on c ι m s _ _ ok S R ap ht fun v ar m₁ ah ax av ai aq aj ak hv=>hv.kZ ?_)
  exact hr.on c ar m₁ _ _ _ ok ai aq aj av fun b7 aG m₂ aB a9 ω aw aC ay aA bB=>k b7 aG m₂ aB a9 aw aC ay (fun p hp=>aA p (ak p hp)) bB
theorem bO {st:Stmt} {rest:List Stmt} {a:AV} (h:Ex g pl D sc E σ st (.ret a) E₁ σ₁):ef g pl D sc E σ (st::rest) (.ret a) E₁ σ₁:=
  Comes.of fun c ι m s ω ω ok S R ap ht k=>wpAny_execs_cons (h.on c ι m s _ _ ok S R ap ht fun ω ar m₁ ah ax ω ai aq aj ak hv=>hv.pV fun ω hv=>k _ ar m₁ ah ax ai aq aj ak (.ret hv))
theorem xC {st:Stmt} {rest:List Stmt} (h:Ex g pl D sc E σ st .cont E₁ σ₁):ef g pl D sc E σ (st::rest) .cont E₁ σ₁:=
  Comes.of fun c ι m s ω ω ok S R ap ht k=>wpAny_execs_cons (h.on c ι m s _ _ ok S R ap ht fun ω ar m₁ ah ax ω ai aq aj ak hv=>hv.J4 (k _ ar m₁ ah ax ai aq aj ak .cont))
theorem cJ {st:Stmt} {rest:List Stmt} {P₁ P:Fl→ag→Led→Prop} (h:dg g pl D sc E σ st P₁)
    (hr:∀ fl E₁ σ₁,P₁ fl E₁ σ₁→match fl with | .next=>b0 g pl D sc E₁ σ₁ rest P | fl=>P fl E₁ σ₁):b0 g pl D sc E σ (st::rest) P:=by
  refine .mk fun c ι m s Q Er ok S R ap ht k=>wpAny_execs_cons (h.on c ι m s _ _ ok S R ap ht fun v b E₁ σ₁ ar m₁ ah ax av ai aq aj ak hv hP=>?_)
  have out:=fun v b=>k v b E₁ σ₁ ar m₁ ah ax av ai aq aj ak
  have this:=hr b E₁ σ₁ hP
  revert this
  exact hv.on (fun this=>this.on c ar m₁ _ _ _ ok ai aq aj av fun b7 k8 aO σ₂ aG m₂ aB a9 a8 aw aC ay aA=>k b7 k8 aO σ₂ aG m₂ aB a9 a8 aw aC ay fun p hp=>aA p (ak p hp)) (out _ _ .brk) (out _ _ .cont) (fun ω ω hr=>out _ _ (.ret hr))
theorem nJ {st:Stmt} {rest:List Stmt} {P:Fl→ag→Led→Prop} (h:Ex g pl D sc E σ st .next E₁ σ₁) (hr:b0 g pl D sc E₁ σ₁ rest P):b0 g pl D sc E σ (st::rest) P:=
  .mk fun c ι m s ω ω ok S R ap ht k=>wpAny_execs_cons (h.on c ι m s _ _ ok S R ap ht fun ω ar m₁ ah ax av ai aq aj ak hv=>hv.kZ (hr.on c ar m₁ _ _ _ ok ai aq aj av fun b7 k8 aO σ₂ aG m₂ aB a9 a8 aw aC ay aA=>k b7 k8 aO σ₂ aG m₂ aB a9 a8 aw aC ay fun p hp=>aA p (ak p hp)))
inductive iK:AV→Bool→Prop
  | bool (b:Bool):iK (.bool b) b
  | str (x:Str) (h:(x.length:Int) < 9223372036854775808):iK (.str x) ((x.length:Int) != 0)
  | int (i:Int):iK (.int i) (i != 0)
  | none:iK .none false
  | tup (l:List AV) (h:(l.length:Int) < 2 ^ 63):iK (.tup l) (!l.isEmpty)
theorem sN {c:Cx} {ι:Led} {σ:Led} {m:Str→Option Value} {s:Shared} {v:Value} {a:AV} {b:Bool} {Q:Bool→Shared→Prop} {Er:Value→Shared→Prop} (S:St g c (ι++σ) m s.heap) (hr:Rep ι v a) (ht:iK a b)
    (k:∀ tk,Q b {s with toks:=tk}):wpAny g.M c.A (truthy v) Q Er s:=by
  cases ht with
  | bool=>exact hr.isBool (wpAny_truthy_bool (k s.toks))
  | str x h=>exact hr.isStr fun ω=>SBL.truthy h (k _)
  | int i=>exact hr.isInt fun ω=>PyProof.Rows.truthy_int (k s.toks)
  | none=>exact hr.isNone (truthy_none (k s.toks))
  | tup l h=>
    refine hr.isTup fun r vs hm hr=>?_
    have ⟨_,I⟩:=S
    refine truthy_tuple (items:=vs.toArray) ⟨_,(I.nw _ (List.mem_append_left _ hm)).1,rfl,_,rfl⟩ (by rw [List.size_toArray,hr.length]; exact h) ?_
    rw [show (!vs.toArray.isEmpty)=!decide (vs.length=0) from rfl,hr.length,show (!decide (l.length=0))=!l.isEmpty by cases l <;> rfl]
    exact k _
theorem dw {e:Expr} {a:AV} {b:Bool} (h:Ev g pl D sc E σ e a σ₁) (ht:iK a b)
    (he:autoParam (∀ (env:Env) (whole:Sem Value),PySem.isTrue e env whole=(do let v ←whole; standAt e.pos; holding [v] (truthy v))) aJ):cv g pl D sc E σ e b σ₁:=by
  refine Comes.of fun c ι m s Q Er ok S R ap aQ k=>?_
  refine isTrue_plain (h.on c ι m s _ _ ok S R ap aQ fun v ar m₁ ah ax av ai aq aj ak hv=>?_) (he _ _)
  exact sN ai hv ht fun tk=>k _ ar m₁ ah tk ai aq aj ak rfl
theorem jn {e:Expr} {p:Pos} {b:Bool} (h:cv g pl D sc E σ e b σ₁):cv g pl D sc E σ (.UnaryOp .Not e p) (!b) σ₁:=
  Comes.of fun c ι m s ω ω ok S R ap ht k=>wpAny_isTrue_Not (h.on c ι m s _ _ ok S R ap ht fun ω ar m₁ ah ax ω ai aq aj ak hv=>k _ ar m₁ ah ax ai aq aj ak (by rw [hv]))
noncomputable abbrev ft (g:Gx) (pl:Bool) (D:Nat) (sc:Scope) (E:ag) (σ:Led) (o:BoolOp) (es:List Expr) (b:Bool) (U:Led):Prop:=
  Comes g pl D sc E σ (fun c=>allTrue o es (c.env sc)) (fun ω v b=>v=b) b E U
theorem iL {o:BoolOp} {es:List Expr} {p:Pos} {b:Bool} (h:ft g pl D sc E σ o es b σ₁):cv g pl D sc E σ (.BoolOp o es p) b σ₁:=
  .mk fun c ι m s ω ω ok S R ap ht k=>wpAny_isTrue_BoolOp (h.on c ι m s _ _ ok S R ap ht k)
theorem and_nil:ft g pl D sc E σ .And [] true σ:=Comes.of fun ω ι m s ω ω ω S R ap ω k=>wpAny_allTrue_And_nil (k _ ι m s.heap s.toks S R ap (fun ω h=>h) rfl)
theorem or_nil:ft g pl D sc E σ .Or [] false σ:=Comes.of fun ω ι m s ω ω ω S R ap ω k=>wpAny_allTrue_Or_nil (k _ ι m s.heap s.toks S R ap (fun ω h=>h) rfl)
theorem xD {e:Expr} {es:List Expr} (h:cv g pl D sc E σ e false σ₁):ft g pl D sc E σ .And (e::es) false σ₁:=by
  refine Comes.of fun c ι m s Q Er ok S R ap ht k=>wpAny_allTrue_And_cons (h.on c ι m s _ _ ok S R ap ht fun v ar m₁ ah ax av ai aq aj ak hv=>?_)
  rw [hv]
  exact k _ ar m₁ ah ax ai aq aj ak rfl
theorem Kv {e:Expr} {es:List Expr} {b:Bool} (h:cv g pl D sc E σ e true σ₁) (t:ft g pl D sc E σ₁ .And es b σ₂):ft g pl D sc E σ .And (e::es) b σ₂:=by
  refine Comes.of fun c ι m s Q Er ok S R ap ht k=>wpAny_allTrue_And_cons (h.on c ι m s _ _ ok S R ap ht fun v ar m₁ ah ax av ai aq aj ak hv=>?_)
  rw [hv]
  exact t.on c ar m₁ _ _ _ ok ai aq aj av fun b7 aG m₂ aB a9 ω aw aC ay aA bB=>k b7 aG m₂ aB a9 aw aC ay (fun p hp=>aA p (ak p hp)) bB
theorem Kw {e:Expr} {es:List Expr} (h:cv g pl D sc E σ e true σ₁):ft g pl D sc E σ .Or (e::es) true σ₁:=by
  refine Comes.of fun c ι m s Q Er ok S R ap ht k=>wpAny_allTrue_Or_cons (h.on c ι m s _ _ ok S R ap ht fun v ar m₁ ah ax av ai aq aj ak hv=>?_)
  rw [hv]
  exact k _ ar m₁ ah ax ai aq aj ak rfl
theorem Kx {e:Expr} {es:List Expr} {b:Bool} (h:cv g pl D sc E σ e false σ₁) (t:ft g pl D sc E σ₁ .Or es b σ₂):ft g pl D sc E σ .Or (e::es) b σ₂:=by
  refine Comes.of fun c ι m s Q Er ok S R ap ht k=>wpAny_allTrue_Or_cons (h.on c ι m s _ _ ok S R ap ht fun v ar m₁ ah ax av ai aq aj ak hv=>?_)
  rw [hv]
  exact t.on c ar m₁ _ _ _ ok ai aq aj av fun b7 aG m₂ aB a9 ω aw aC ay aA bB=>k b7 aG m₂ aB a9 aw aC ay (fun p hp=>aA p (ak p hp)) bB
theorem and_cons {e:Expr} {es:List Expr} {b c:Bool} (h:cv g pl D sc E σ e b σ) (t:b=true→ft g pl D sc E σ .And es c σ):ft g pl D sc E σ .And (e::es) (b&&c) σ:=by
  cases b with
  | true=>exact Kv h (t rfl)
  | false=>exact xD h
theorem or_cons {e:Expr} {es:List Expr} {b c:Bool} (h:cv g pl D sc E σ e b σ) (t:b=false→ft g pl D sc E σ .Or es c σ):ft g pl D sc E σ .Or (e::es) (b||c) σ:=by
  cases b with
  | true=>exact Kw h
  | false=>exact Kx h (t rfl)
theorem cv.cast {e:Expr} {b b':Bool} (h:cv g pl D sc E σ e b σ₁) (q:b=b'):cv g pl D sc E σ e b' σ₁:=q▸h
theorem Ev.cast {e:Expr} {a a':AV} (h:Ev g pl D sc E σ e a σ₁) (q:a=a'):Ev g pl D sc E σ e a' σ₁:=q▸h
theorem sO {t:Expr} {body orelse:List Stmt} {pos:Pos} {b:Bool} {fl:Fl} (ht:cv g pl D sc E σ t b σ₁) (hy:b=true→ef g pl D sc E σ₁ body fl aO σ₂) (hn:b=false→ef g pl D sc E σ₁ orelse fl aO σ₂):
    Ex g pl D sc E σ (.If t body orelse pos) fl aO σ₂:=by
  refine Comes.of fun c ι m s Q Er ok S R ap aQ k=>wpAny_If (ht.on c ι m s _ _ ok S R ap aQ fun v ar m₁ ah ax av ai aq aj ak hv=>?_)
  subst hv
  cases v with
  | true=>exact (hy rfl).on c ar m₁ _ _ _ ok ai aq aj av fun b7 aG m₂ aB a9 ω aw aC ay aA bB=>k b7 aG m₂ aB a9 aw aC ay (fun p hp=>aA p (ak p hp)) bB
  | false=>exact (hn rfl).on c ar m₁ _ _ _ ok ai aq aj av fun b7 aG m₂ aB a9 ω aw aC ay aA bB=>k b7 aG m₂ aB a9 aw aC ay (fun p hp=>aA p (ak p hp)) bB
theorem sP {t:Expr} {body orelse:List Stmt} {pos:Pos} {fl:Fl} (ht:cv g pl D sc E σ t true σ₁) (hy:ef g pl D sc E σ₁ body fl aO σ₂):Ex g pl D sc E σ (.If t body orelse pos) fl aO σ₂:=
  sO ht (fun ω=>hy) fun e=>by cases e
theorem sQ {t:Expr} {body orelse:List Stmt} {pos:Pos} {fl:Fl} (ht:cv g pl D sc E σ t false σ₁) (hn:ef g pl D sc E σ₁ orelse fl aO σ₂):Ex g pl D sc E σ (.If t body orelse pos) fl aO σ₂:=
  sO ht (fun e=>by cases e) fun ω=>hn
theorem hY {t:Expr} {body orelse:List Stmt} {pos:Pos} {b:Bool} {P:Fl→ag→Led→Prop} (ht:cv g pl D sc E σ t b σ₁) (hy:b=true→b0 g pl D sc E σ₁ body P) (hn:b=false→b0 g pl D sc E σ₁ orelse P):
    dg g pl D sc E σ (.If t body orelse pos) P:=by
  refine .mk fun c ι m s Q Er ok S R ap aQ k=>wpAny_If (ht.on c ι m s _ _ ok S R ap aQ fun v ar m₁ ah ax av ai aq aj ak hv=>?_)
  subst hv
  cases v with
  | true=>exact (hy rfl).on c ar m₁ _ _ _ ok ai aq aj av fun b7 k8 aO σ₂ aG m₂ aB a9 a8 aw aC ay aA bB=>k b7 k8 aO σ₂ aG m₂ aB a9 a8 aw aC ay (fun p hp=>aA p (ak p hp)) bB
  | false=>exact (hn rfl).on c ar m₁ _ _ _ ok ai aq aj av fun b7 k8 aO σ₂ aG m₂ aB a9 a8 aw aC ay aA bB=>k b7 k8 aO σ₂ aG m₂ aB a9 a8 aw aC ay (fun p hp=>aA p (ak p hp)) bB
theorem xE {t x y:Expr} {pos:Pos} {b:Bool} {a:AV} (ht:cv g pl D sc E σ t b σ₁) (hy:b=true→Ev g pl D sc E σ₁ x a σ₂) (hn:b=false→Ev g pl D sc E σ₁ y a σ₂):
    Ev g pl D sc E σ (.IfExp t x y pos) a σ₂:=by
  refine Comes.of fun c ι m s Q Er ok S R ap aQ k=>wpAny_IfExp (ht.on c ι m s _ _ ok S R ap aQ fun v ar m₁ ah ax av ai aq aj ak hv=>?_)
  subst hv
  cases v with
  | true=>exact (hy rfl).on c ar m₁ _ _ _ ok ai aq aj av fun b7 aG m₂ aB a9 ω aw aC ay aA bB=>k b7 aG m₂ aB a9 aw aC ay (fun p hp=>aA p (ak p hp)) bB
  | false=>exact (hn rfl).on c ar m₁ _ _ _ ok ai aq aj av fun b7 aG m₂ aB a9 ω aw aC ay aA bB=>k b7 aG m₂ aB a9 aw aC ay (fun p hp=>aA p (ak p hp)) bB
theorem xF {x y:Expr} {p:Pos} {a z:AV} {t:Bool} (hx:Ev g pl D sc E σ x a σ₁) (ht:iK a t) (h1:t=true→z=a∧σ₂=σ₁) (h2:t=false→Ev g pl D sc E σ₁ y z σ₂):Ev g pl D sc E σ (.BoolOp .Or [x,y] p) z σ₂:=by
  refine Comes.of fun c ι m s Q Er ok S R ap aQ k=>wpAny_Or2 (hx.on c ι m s _ _ ok S R ap aQ fun v ar m₁ ah ax av ai aq aj ak hv=>?_)
  refine wpAny_with_toks (n:=1) av (sN ai hv ht fun tk a8=>?_)
  cases t with
  | true=>obtain ⟨rfl,rfl⟩:=h1 rfl; exact k v ar m₁ ah tk ai aq aj ak hv
  | false=>exact (h2 rfl).on c ar m₁ _ _ _ ok ai aq aj a8 fun b7 aG m₂ aB a9 ω aw aC ay aA bB=>k b7 aG m₂ aB a9 aw aC ay (fun p hp=>aA p (ak p hp)) bB
inductive WhileInv (g:Gx) (c:Cx) (ι:Led) (s:Shared) (J:Nat→ag→Led→Prop) (n:Nat) (s':Shared):Prop
  | mk (E':ag) (U ae:Led) (m':Str→Option Value) (h':Heap) (ao:Nat):s'={s with heap:=h',toks:=ao}→0 < ao→St g c (ae++U) m' h'→bF ae E' m'→Ap c ae U→(∀ p∈ι,p∈ae)→J n E' U→WhileInv g c ι s J n s'
theorem xG {t:Expr} {body:List Stmt} {pos:Pos} {P:Fl→ag→Led→Prop} (J:Nat→ag→Led→Prop)
    (step:∀ n E₁ σ₁,J n E₁ σ₁→(∃ σ₂,cv g pl D sc E₁ σ₁ t false σ₂∧P .next E₁ σ₂)∨
      (∃ σ₂,cv g pl D sc E₁ σ₁ t true σ₂∧b0 g pl D sc E₁ σ₂ body fun fl E' U=>((fl=.next∨fl=.cont)∧∃ m,m < n∧J m E' U)∨(fl=.brk∧P .next E' U)∨∃ a,fl=.ret a∧P (.ret a) E' U))
    {n:Nat} (h0:J n E σ):dg g pl D sc E σ (.While t body [] pos) P:=by
  refine .mk fun c ι m s Q Er ok S R ap ht k=>?_
  refine wpAny_While ?_
  refine codeAny_whileLoop (WhileInv g c ι s J) ?_ n ⟨E,σ,ι,m,s.heap,s.toks,rfl,ht,S,R,ap,fun ω h=>h,h0⟩
  rintro n s' ⟨E₁,σ₁,ar,m₁,ah,ax,rfl,av,ai,aq,aj,ak,hJ⟩
  rcases step n E₁ σ₁ hJ with ⟨σ₂,h1,h2⟩ | ⟨σ₂,h1,h2⟩
  · refine h1.on c ar m₁ _ _ _ ok ai aq aj av fun v aG m₂ aB a9 a8 aw aC ay aA hv=>?_
    subst hv
    exact wpAny_execs_nil (k _ _ _ _ aG m₂ aB a9 a8 aw aC ay (fun p hp=>aA p (ak p hp)) .next h2)
  · refine h1.on c ar m₁ _ _ _ ok ai aq aj av fun v aG m₂ aB a9 a8 aw aC ay aA hv=>?_
    subst hv
    refine h2.on c aG m₂ _ _ _ ok aw aC ay a8 fun v b gD aN br cD bu bx ck bj cI bp bo hv hP=>?_
    have bk:∀ p∈ι,p∈br:=fun p hp=>bo p (aA p (ak p hp))
    have go:=fun q:∃ m,m < n∧J m gD aN=>q.imp fun ω q=>And.intro q.1 (WhileInv.mk (c:=c) (s:=s) gD aN br cD bu bx rfl ck bj cI bp bk q.2)
    have out:=fun v b=>k v b gD aN br cD bu bx ck bj cI bp bk
    exact hv.loop hP go go (out _ _ .next) fun ω ω hw=>out _ _ (.ret hw)
end
noncomputable def k9 (o:Obj):Prop:=o.cls≠.type "tuple"∧o.cls≠.type "list"
noncomputable def off (ι:Led) (I:Addr):Led:=ι.filter (fun p=>p.1 != I)
theorem iM {ι:Led} {I:Addr} {p:Addr×Obj}:p∈off ι I↔p∈ι∧p.1≠I:=by
  unfold off; rw [List.mem_filter]; simp
theorem Rep.off {ι:Led} {I:Addr} (hI:∀ p∈ι,p.1=I→k9 p.2) {v:Value} {a:AV} (h:Rep ι v a):Rep (off ι I) v a:=
  Rep.rec (motive_1:=fun v a ω=>Rep (Mine.off ι I) v a) (motive_2:=fun vs l ω=>aY (Mine.off ι I) vs l) .none .bool .int .str .val (fun ω h=>.at h) (fun m ω h=>.tup (iM.mpr ⟨m,fun e=>(hI _ m e).1 rfl⟩) h) (fun m o ω h=>.lst (iM.mpr ⟨m,fun e=>(hI _ m e).2 o.1⟩) o h) .nil (fun ω ω h t=>.cons h t) h
theorem bF.Ky {ι:Led} {I:Addr} {E:ag} {m:Str→Option Value} (R:bF ι E m) (hI:∀ p∈ι,p.1=I→k9 p.2):bF (Mine.off ι I) E m:=
  ⟨R.nd,fun x a h=>let ⟨v,h1,h2⟩:=R.at_ x a h; ⟨v,h1,h2.off hI⟩,R.off⟩
section
variable {g:Gx} {pl:Bool} {D:Nat} {sc:Scope} {E E' E₁ aO:ag} {σ U σ₁ σ₂ aN:Led}
noncomputable abbrev lg (g:Gx) (pl:Bool) (D:Nat) (sc:Scope) (x:Str) (body:List Stmt) (xs:List AV) (P:Fl→ag→Led→Prop) (J:Nat→ag→Led→Prop):Prop:=
  ∀ i a E₁ σ₁,xs[i]?=some a→J i E₁ σ₁→∃ aO,Upd x a E₁ aO∧b0 g pl D sc aO σ₁ body fun fl E' U=>
    ((fl=.next∨fl=.cont)∧J (i+1) E' U)∨(fl=.brk∧P .next E' U)∨∃ b,fl=.ret b∧P (.ret b) E' U
structure Src (g:Gx) (c:Cx) (ι:Led) (xs:List AV) (I:Addr) (fp:List Addr) (V:Nat→Value→Prop) (cq:Nat→Heap→Prop) (J:Nat→ag→Led→Prop):Prop where
  W:Walks g.prog g.w c.A I fp [I] xs.length V cq
  hI:∀ i h,cq i h→∃ o,h.get? I=some o∧k9 o
  hP:∀ i v,i < xs.length→V i v→∃ a,xs[i]?=some a∧Rep ι v a
  nK:∀ b∈fp,b=I∨(∃ o,(b,o)∈ι)∨(∃ o,c.base.get? b=some o)∨∃ o,∀ i E σ,J i E σ→(b,o)∈σ
inductive sR (g:Gx) (c:Cx) (ι:Led) (s:Shared) (xs:List AV) (I:Addr) (cq:Nat→Heap→Prop) (J:Nat→ag→Led→Prop) (n:Nat) (s':Shared):Prop
  | mk (i:Nat) (h':Heap) (ao:Nat) (E':ag) (U ae:Led) (m':Str→Option Value) (eE:Heap):n=xs.length - i→i≤xs.length→s'={s with heap:=h',toks:=ao}→0 < ao→cq i h'→Inv g c (ae++U) m' eE h'→eE.get? I=none→(∀ p∈ae++U,p.1≠I)→bF ae E' m'→Ap c ae U→(∀ p∈ι,p∈ae)→J i E' U→sR g c ι s xs I cq J n s'
theorem sS {c:Cx} {ι:Led} {m:Str→Option Value} {s:Shared} {x:Str} {px:Pos} {body:List Stmt} {xs:List AV} {I:Addr} {fp:List Addr} {V:Nat→Value→Prop} {cq:Nat→Heap→Prop} {h₀:Heap} {Rz:Result→Shared→Prop}
    {P:Fl→ag→Led→Prop} (J:Nat→ag→Led→Prop) (ok:c.Ok g sc pl D) (hh:c.hx=none) (W:Src g c ι xs I fp V cq J) (fu:Inv g c (ι++σ) m h₀ s.heap) (nM:h₀.get? I=none) (lh:I≠c.L) (hIn:∀ p∈ι++σ,p.1≠I)
    (st:cq 0 s.heap) (R:bF ι E m) (ap:Ap c ι σ) (ht:0 < s.toks) (hk:sc.names.lookup x=some .local) (h0:J 0 E σ) (fv:lg g pl D sc x body xs P J) (gm:∀ E' U,J xs.length E' U→P .next E' U)
    (k:∀ f b E' U ae m' h' ao,0 < ao→St g c (ae++U) m' h'→bF ae E' m'→Ap c ae U→(∀ p∈ι,p∈ae)→cZ ae f b→P b E' U→Rz (.ok f) {s with heap:=h',toks:=ao}):
    codeAny g.M c.A (.forLoop (.Name x px) (.ref I) body [] (c.env sc)) Rz s:=by
  refine codeAny_forLoop_any (sR g c ι s xs I cq J)
    ?_ xs.length ⟨0,s.heap,s.toks,E,σ,ι,m,h₀,rfl,Nat.zero_le _,rfl,ht,st,fu,nM,hIn,R,ap,fun ω h=>h,h0⟩
  rintro n s' ⟨i,h',ao,E',U,ae,m',eE,rfl,hi,rfl,aQ,nN,V',nO,mu,R',aX,bk,hJ⟩
  have next:∀ ah:Heap,(∀ b o,b∉[I]→h'.get? b=some o→ah.get? b=some o)→Inv g c (ae++U) m' eE ah:=fun ah cx=>
    have cx:=fun b o hb=>cx b o (mt List.mem_singleton.mp hb)
    V'.next ⟨V'.fr.ns.at' fun o=>cx _ o lh.symm,fun b o e=>cx b o (fun q=>by cases (q▸nO).symm.trans e) (V'.fr.keep b o e),V'.fr.above⟩ fun p hp=>⟨cx _ _ (mu p hp) (V'.nw p hp).1,(V'.nw p hp).2⟩
  rcases Nat.lt_or_eq_of_le hi with bq | rfl
  · refine wpAny_with_toks (n:=1) aQ (W.W.item i _ _ _ bq nN fun v ah ax hV j9 cx av=>?_)
    have eM:=next ah cx
    have ⟨a,ha,hv⟩:=W.hP i v bq hV
    have ⟨o,ho,eh⟩:=W.hI _ _ j9
    refine wpAny_pure ?_
    have ⟨aO,hu,hb⟩:=fv i a E' U ha hJ
    refine PySem.wpAny_assign_Name ?_
    have sT:Inv g c (((I,o)::ae)++U) m' eE ah:=eM.next eM.fr (List.forall_mem_cons.mpr ⟨⟨ho,lh,nO⟩,eM.nw⟩)
    refine fq ok sT.st hk fun aB aw=>?_
    refine hb.on c ((I,o)::ae) _ _ _ _ ok aw ((R'.mono fun p hp=>.tail _ hp).upd hu (hv.mono fun p hp=>.tail _ (bk p hp))) (aX.cons fun q hq e=>mu q (List.mem_append_right _ hq) e.symm) (Nat.succ_pos _) fun f b gD aN br cD bu bx ck bj cI bp bo hf hP=>?_
    have hs:∀ p∈ι,p∈br:=fun p hp=>bo p (.tail _ (bk p hp))
    have turn:J (i+1) gD aN→∃ n',n' < xs.length - i∧sR g c ι s xs I cq J n' {s with heap:=bu,toks:=bx}:=fun xH=>by
      have ⟨nP,jo⟩:=bj
      have lj:=jo.nw _ (List.mem_append_left _ (bo _ (.head _)))
      have nl:=fun p hp=>(jo.nw p (List.mem_append_left _ hp)).1
      refine ⟨xs.length - (i+1),Nat.sub_lt_sub_left bq (Nat.lt_succ_self _),i+1,bu,bx,gD,aN,off br I,cD,nP,rfl,bq,rfl,ck,W.W.frame _ _ _ j9 fun b hb o' e=>?_,jo.next jo.fr (List.forall_mem_append.mpr ⟨fun p hp=>jo.nw p (List.mem_append_left _ (iM.mp hp).1),fun p hp=>jo.nw p (List.mem_append_right _ hp)⟩),lj.2.2,List.forall_mem_append.mpr ⟨fun p hp=>(iM.mp hp).2,fun p hp e=>bp.apart _ (bo _ (.head _)) p hp e.symm⟩,
        cI.Ky fun p hp e=>Option.some.inj (lj.1.symm.trans (e▸nl p hp))▸eh,⟨fun p hp=>bp.apart p (iM.mp hp).1,bp.once,fun p e=>by cases hh.symm.trans e⟩,fun p hp=>iM.mpr ⟨hs p hp,hIn p (List.mem_append_left _ hp)⟩,xH⟩
      rcases W.nK b hb with rfl | ⟨hB,hm⟩ | ⟨hB,hm⟩ | ⟨hB,hm⟩
      · exact lj.1.trans (ho.symm.trans e)
      · exact (nl _ (hs _ hm)).trans ((eM.nw _ (List.mem_append_left _ (bk _ hm))).1.symm.trans e)
      · exact (jo.fr.keep _ _ (jo.bl.stays _ _ hm)).trans ((eM.fr.keep _ _ (eM.bl.stays _ _ hm)).symm.trans e)
      · exact (jo.nw _ (List.mem_append_right _ (hm _ _ _ xH))).1.trans ((eM.nw _ (List.mem_append_right _ (hm _ _ _ hJ))).1.symm.trans e)
    have out:=fun v b=>k v b gD aN br cD bu bx ck bj cI bp hs
    exact hf.loop hP turn turn (out _ _ .next) fun ω ω hw=>out _ _ (.ret hw)
  · refine wpAny_with_toks (n:=1) aQ (W.W.done _ _ _ nN fun ah ax cx av=>wpAny_execs_nil ?_)
    exact k _ _ E' U ae m' ah ax av (next ah cx).st R' aX bk .next (gm _ _ hJ)
theorem Walks.xI {prog:Program} {w:World} {A:Around} (hh:A.handled=none) (I:Addr) (x:Str) (t:Tok):Walks prog w A I [I] [I] x.cps.size (SignAt x) (fun i h=>h.IsStrIter I (strIterType x) x t i):=by
  unfold strIterType
  split <;> first | exact Walks.strAscii hh I x t | exact Walks.strWide hh I x t
theorem mw {o:Obj} (h1:o.cls≠.type "tuple") (h2:o.cls≠.type "list"):k9 o:=⟨h1,h2⟩
noncomputable def signsOf (x:Str):List AV:=(signs x).map .str
theorem Cx.Ok.nQ {c:Cx} (ok:c.Ok g sc true D):c.hx=none:=(ok.pl rfl).2
theorem Cx.Ok.hn {c:Cx} (ok:c.Ok g sc true D):c.A.handled=none:=by rw [ok.hd,ok.nQ]; rfl
theorem sU {c:Cx} {ar ι:Led} {m:Str→Option Value} {s:Shared} {h h₀:Heap} {tk:Nat} {x:Str} {px:Pos} {body:List Stmt} {xs:List AV} {fp:List Addr} {V:Nat→Value→Prop} {cq:Nat→Heap→Prop} {Q:Flow→Shared→Prop} {Rz:Result→Shared→Prop} {it:Obj}
    {P:Fl→ag→Led→Prop} (J:Nat→ag→Led→Prop) (ok:c.Ok g sc true D) (I:Inv g c (ι++σ) m h₀ h) (W:Src g c ι xs h.objs.size fp V cq J) (st:cq 0 (h.push it)) (R:bF ι E m) (ap:Ap c ι σ) (ht:0 < tk) (hk:sc.names.lookup x=some .local) (h0:J 0 E σ) (fv:lg g true D sc x body xs P J) (gm:∀ E' U,J xs.length E' U→P .next E' U) (hs:∀ p∈ar,p∈ι)
    (k:∀ f b E' U ae m' h' ao,0 < ao→St g c (ae++U) m' h'→bF ae E' m'→Ap c ae U→(∀ p∈ar,p∈ae)→cZ ae f b→P b E' U→Q f {s with heap:=h',toks:=ao}) (hR:∀ f s,Q f s→Rz (.ok f) s):
    codeAny g.M c.A (.forLoop (.Name x px) (.ref h.objs.size) body [] (c.env sc)) Rz {s with heap:=h.push it,toks:=tk}:=
  sS (P:=P) J ok ok.nQ W (I.next (I.fr.push _) fun p hp=>⟨Heap.get?_push_of_some _ (I.nw p hp).1,(I.nw p hp).2⟩) (next_is_new I.fr) (fun e=>absurd I.fr.ns.lt (by rw [←e]; exact Nat.lt_irrefl _)) (fun p hp e=>I.fresh p hp e.symm) st R ap ht hk h0 fv gm
    fun f b E' U ae m' h' ao aQ S' R' aX bk hf hP=>hR _ _ (k f b E' U ae m' h' ao aQ S' R' aX (fun p hp=>bk p (hs p hp)) hf hP)
theorem Src.seq {c:Cx} {ι:Led} {l:List AV} {vs:List Value} {r I:Addr} {o:Obj} {cq:Nat→Heap→Prop} {J:Nat→ag→Led→Prop} (hr:aY ι vs l) (hm:(r,o)∈ι) (W:Walks g.prog g.w c.A I [I,r] [I] vs.toArray.size (fun i v=>vs.toArray[i]?=some v) cq)
    (hI:∀ i h,cq i h→∃ o,h.get? I=some o∧k9 o):Src g c ι l I [I,r] (fun i v=>vs.toArray[i]?=some v) cq J:=
  ⟨by rw [←hr.length,←List.size_toArray]; exact W,hI,fun i v ω hV=>hr.get' (by rw [←List.getElem?_toArray]; exact hV),List.forall_mem_cons.mpr ⟨.inl rfl,List.forall_mem_cons.mpr ⟨.inr (.inl ⟨_,hm⟩),fun ω q=>nomatch q⟩⟩⟩
section
variable {e:Expr} {x:Str} {px pos:Pos} {body:List Stmt} {P:Fl→ag→Led→Prop} (J:Nat→ag→Led→Prop)
theorem Kz {y:Str} (he:Ev g true D sc E σ e (.str y) σ₁) (h0:J 0 E σ₁) (fv:lg g true D sc x body (signsOf y) P J) (gm:∀ E' U,J y.length E' U→P .next E' U)
    (hk:autoParam (sc.names.lookup x=some .local) aK) (hs:autoParam (∀ env v,foldedSetIterable e env v=pure v) aJ):dg g true D sc E σ (.For (.Name x px) e body [] pos) P:=by
  refine .mk fun c ι m s Q Er ok S R ap ht k=>?_
  have hlen:(signsOf y).length=y.length:=by unfold signsOf; rw [List.length_map,signs_length]
  refine wpAny_For (he.on c ι m s _ _ ok S R ap ht fun v ar m₁ ah ax av ai aq aj ak hv=>?_) (hs _)
  refine hv.isStr fun t=>?_
  have ⟨h₀,V⟩:=ai
  have aT:∀ {T},(T="tuple"∨T="list")→Value.type (strIterType y)≠.type T:=by
    intro T hT e; injection e with e; revert e; unfold strIterType; split <;> rcases hT with rfl | rfl <;> decide
  refine wpAny_pyIter_strU (sU (P:=P) J ok V (xs:=signsOf y) (fp:=[ah.objs.size]) (V:=SignAt y) (cq:=fun i h=>h.IsStrIter ah.objs.size (strIterType y) y t i) ⟨?_,fun i h st=>st.imp fun o q=>⟨q.1,mw (by rw [q.2.1]; exact aT (.inl rfl)) (by rw [q.2.1]; exact aT (.inr rfl))⟩,fun i v hi hV=>?_,fun b hb=>.inl (List.mem_singleton.mp hb)⟩ ⟨_,Heap.get?_push_size _ rfl,rfl,rfl⟩ aq aj av hk h0 fv (hlen▸gm) ak k fun ω ω h=>h)
  · rw [hlen]; exact Walks.xI ok.hn _ y t
  · obtain ⟨cp,u,hc,rfl⟩:=hV
    exact ⟨.str ⟨#[cp]⟩,by unfold signsOf; rw [List.getElem?_map,signs_get hc]; rfl,.str _ _⟩
theorem xJ {l:List AV} (he:Ev g true D sc E σ e (.lst l) σ₁) (h0:J 0 E σ₁) (fv:lg g true D sc x body l P J) (gm:∀ E' U,J l.length E' U→P .next E' U)
    (hk:autoParam (sc.names.lookup x=some .local) aK) (hs:autoParam (∀ env v,foldedSetIterable e env v=pure v) aJ):dg g true D sc E σ (.For (.Name x px) e body [] pos) P:=by
  refine .mk fun c ι m s Q Er ok S R ap ht k=>?_
  refine wpAny_For (he.on c ι m s _ _ ok S R ap ht fun v ar m₁ ah ax av ai aq aj ak hv=>?_) (hs _)
  refine hv.jf fun r o vs hm ho hr=>?_
  have ⟨h₀,V⟩:=ai
  have hg:=(V.nw _ (List.mem_append_left _ hm)).1
  have hl:ah.IsList r vs.toArray:=⟨_,hg,ho.1,ho.2.2⟩
  exact wpAny_pyIter_list hl (sU (P:=P) J ok V (.seq hr hm (Walks.list ok.hn ah.objs.size r (Nat.ne_of_lt (Heap.lt_size hg)) vs.toArray) fun i h st=>st.1.imp fun o q=>⟨q.1,mw (by rw [q.2.1]; decide) (by rw [q.2.1]; decide)⟩)
    ⟨⟨_,Heap.get?_push_size _ rfl,rfl,rfl⟩,hl.at fun o e=>Heap.get?_push_of_some _ e⟩ aq aj av hk h0 fv gm ak k fun ω ω h=>h)
theorem p7 {l:List AV} (he:Ev g true D sc E σ e (.tup l) σ₁) (h0:J 0 E σ₁) (fv:lg g true D sc x body l P J) (gm:∀ E' U,J l.length E' U→P .next E' U)
    (hk:autoParam (sc.names.lookup x=some .local) aK) (hs:autoParam (∀ env v,foldedSetIterable e env v=pure v) aJ):dg g true D sc E σ (.For (.Name x px) e body [] pos) P:=by
  refine .mk fun c ι m s Q Er ok S R ap ht k=>?_
  refine wpAny_For (he.on c ι m s _ _ ok S R ap ht fun v ar m₁ ah ax av ai aq aj ak hv=>?_) (hs _)
  refine hv.isTup fun r vs hm hr=>?_
  have ⟨h₀,V⟩:=ai
  have hg:=(V.nw _ (List.mem_append_left _ hm)).1
  have hl:ah.IsTuple r vs.toArray:=⟨_,hg,rfl,_,rfl⟩
  exact wpAny_pyIter_tuple hl (sU (P:=P) J ok V (.seq hr hm (Walks.tuple ok.hn ah.objs.size r (Nat.ne_of_lt (Heap.lt_size hg)) vs.toArray) fun i h st=>st.1.imp fun o q=>⟨q.1,mw (by rw [q.2.1]; decide) (by rw [q.2.1]; decide)⟩)
    ⟨⟨_,Heap.get?_push_size _ rfl,rfl,rfl⟩,hl.at fun o e=>Heap.get?_push_of_some _ e⟩ aq aj av hk h0 fv gm ak k fun ω ω h=>h)
end
end
theorem aY.none_ {ι:Led} {vs:List Value} (h:aY ι vs []):vs=[]:=List.length_eq_zero_iff.mp h.length
section
variable {ι:Led} {vs:List Value} {a b c d:AV} {l:List AV} {M:List Value→Prop}
@[elab_as_elim] theorem aY.on (h:aY ι vs (a::l)) (k:∀ v vs,Rep ι v a→aY ι vs l→M (v::vs)):M vs:=let ⟨v,r,e,h1,t⟩:=h.J3; e▸k v r h1 t
@[elab_as_elim] theorem aY.dS (h:aY ι vs [a]) (k:∀ v,Rep ι v a→M [v]):M vs:=h.on fun v ω h1 t=>t.none_▸k v h1
@[elab_as_elim] theorem aY.eN (h:aY ι vs [a,b]) (k:∀ v u,Rep ι v a→Rep ι u b→M [v,u]):M vs:=h.on fun v ω h1 t=>t.dS fun u h2=>k v u h1 h2
@[elab_as_elim] theorem aY.ll (h:aY ι vs [a,b,c]) (k:∀ v u w,Rep ι v a→Rep ι u b→Rep ι w c→M [v,u,w]):M vs:=h.on fun v ω h1 t=>t.eN fun u w h2 h3=>k v u w h1 h2 h3
@[elab_as_elim] theorem aY.xK (h:aY ι vs [a,b,c,d]) (k:∀ v u w x,Rep ι v a→Rep ι u b→Rep ι w c→Rep ι x d→M [v,u,w,x]):M vs:=h.on fun v ω h1 t=>t.ll fun u w x h2 h3 h4=>k v u w x h1 h2 h3 h4
theorem aY.one (h:aY ι vs [a]):∃ v,vs=[v]∧Rep ι v a:=h.dS fun v h1=>⟨v,rfl,h1⟩
theorem aY.two (h:aY ι vs [a,b]):∃ v u,vs=[v,u]∧Rep ι v a∧Rep ι u b:=h.eN fun v u h1 h2=>⟨v,u,rfl,h1,h2⟩
theorem aY.three (h:aY ι vs [a,b,c]):∃ v u w,vs=[v,u,w]∧Rep ι v a∧Rep ι u b∧Rep ι w c:=h.ll fun v u w h1 h2 h3=>⟨v,u,w,rfl,h1,h2,h3⟩
end
section
variable {prog:Program} {w:World} {A:Around} {Er:Value→Shared→Prop}
theorem sub_str_str:isSubtype (.type "str") (.type "str")=pure true:=by rw [isSubtype_type]; kernel_rfl
theorem sub_str_bytes:isSubtype (.type "str") (.type "bytes")=pure false:=by rw [isSubtype_type]; kernel_rfl
theorem KA {dep:Int} {tk:Tok} {s:Shared} {Q:Fin→Shared→Prop} (hq:Q (.done (.ret (.bool true))) s):
    wpAny (model prog w) A (Builtin.«issubclass.nested» ⟨[.type "str",.type "str",.int dep tk],[]⟩) Q Er s:=by
  have hs:=sub_str_str
  repeat (any_goals (first | assumption | (rw [hs]) | wp_step))
theorem KD {dep:Int} {cs:List Value} {s:Shared} {Q:Option Fin×Unit→Shared→Prop} (hq:Q (some (.done (.ret (.bool true))),()) s):
    wpAny (model prog w) A (forIn (Value.type "str"::cs) ((none:Option Fin),()) fun c ω=>do
      if ←truthy (←call (.builtin "issubclass.nested") [.type "str",c,rawInt (dep+1)]) then
        let r ←ret (.bool true)
        pure (ForInStep.done (some r,()))
      else pure (ForInStep.yield (none,()))) Q Er s:=by
  rw [List.forIn_cons]
  refine wpAny_bind (wpAny_bind (call_function_meets (S:=fun ω R s=>R (.ok (.ret (.bool true))) s) (by decide+kernel) (by decide+kernel) F.entry_issubclass_nested (by unfold argsOk; kernel_rfl) ?_ ?_))
  · intro prog w A R s hs
    exact KA hs
  · show wpAny _ _ (truthy (.bool true) >>= _) _ _ _
    refine wpAny_bind (m:=truthy (.bool true)) (wpAny_pure ?_)
    exact wpAny_bind (wpAny_pure (wpAny_pure (wpAny_pure hq)))
theorem KG {tp:Addr} {us cs:List Value} {tk:Tok} {s:Shared} {Q:Fin→Shared→Prop} (mx:us=.type "str"::cs) (sV:s.heap.get? tp=some (cV us))
    (hq:Q (.done (.ret (.bool true))) s):wpAny (model prog w) A (Builtin.«issubclass.nested» ⟨[.type "str",.ref tp,.int 0 tk],[]⟩) Q Er s:=by
  have p8:s.TypeIs (.ref tp) "tuple":=⟨_,sV,rfl⟩
  have f1:=F.isi_sub_tuple
  repeat (any_goals (first | assumption | wp_step))
  refine wpAny_arrayLoop ?_
  simp only [Option.getD_some,List.toList_toArray]
  subst mx
  refine KD (dep:=0) ?_
  repeat (any_goals (first | assumption | wp_step))
theorem KH {tp:Addr} {cs:List Value} {s:Shared} {Q:Value→Shared→Prop} (sV:s.heap.get? tp=some (cV (.type "str"::cs))) (hq:Q (.bool true) s):
    wpAny (model prog w) A (call (.builtin "issubclass") [.type "str",.ref tp]) Q Er s:=
  call_issubclass (S:=fun ω R s=>s.heap.get? tp=some (cV (.type "str"::cs))∧R (.ok (.ret (.bool true))) s) (fun ω ω ω ω ω hs=>issubclass_outer (KG rfl hs.1 hs.2)) ⟨sV,hq⟩
end
section
variable {g:Gx} {pl:Bool} {D:Nat} {σ:Led}
theorem Fn.xM {f:Value} {a r:AV} (H:∀ (ι:Led) (v:Value) (A:Around) (s:Shared) (Q:Value→Shared→Prop) (Er:Value→Shared→Prop),Rep ι v a→(∀ w tk,Rep ι w r→Q w {s with toks:=tk})→wpAny g.M A (call f [v]) Q Er s):Fn g pl D f [a] σ r σ:=
  fun c ω ι ω s ω Q Er ω S ap ω aM k=>aM.dS fun v h1=>H ι v c.A s Q Er h1 fun w tk hw=>k w ι s.heap tk S ap (fun ω h=>h) hw
theorem Fn.nR {f:Value} {a b r:AV} (H:∀ (ι:Led) (v u:Value) (A:Around) (s:Shared) (Q:Value→Shared→Prop) (Er:Value→Shared→Prop),Rep ι v a→Rep ι u b→(∀ w tk,Rep ι w r→Q w {s with toks:=tk})→wpAny g.M A (call f [v,u]) Q Er s):Fn g pl D f [a,b] σ r σ:=
  fun c ω ι ω s ω Q Er ω S ap ω aM k=>aM.eN fun v u h1 h2=>H ι v u c.A s Q Er h1 h2 fun w tk hw=>k w ι s.heap tk S ap (fun ω h=>h) hw
theorem Fn.KI {f:Value} {a b d r:AV} (H:∀ (ι:Led) (v u x:Value) (A:Around) (s:Shared) (Q:Value→Shared→Prop) (Er:Value→Shared→Prop),Rep ι v a→Rep ι u b→Rep ι x d→(∀ w tk,Rep ι w r→Q w {s with toks:=tk})→wpAny g.M A (call f [v,u,x]) Q Er s):Fn g pl D f [a,b,d] σ r σ:=
  fun c ω ι ω s ω Q Er ω S ap ω aM k=>aM.ll fun v u x h1 h2 h3=>H ι v u x c.A s Q Er h1 h2 h3 fun w tk hw=>k w ι s.heap tk S ap (fun ω h=>h) hw
theorem KJ {x:Str}:Fn g pl D (.builtin "isinstance") [.str x,.val (.type "bytes")] σ (.bool false) σ:=
  .nR fun ω ω ω ω ω ω ω h1 h2 k=>h1.is fun ω=>h2.is (call_isinstance (isinstance_false_str (by decide) (by rfl) sub_str_bytes) (k _ _ (.bool _)))
theorem KL {x:Str}:Fn g pl D (.type "type") [.str x] σ (.val (.type "str")) σ:=
  .xM fun ω ω ω s ω ω h1 k=>h1.is fun ω=>call_type_of (Tx:="str") rfl (by decide) (k _ s.toks (.val _))
theorem KN {l:List AV}:Fn g pl D (.builtin "issubclass") [.val (.type "str"),.tup (.val (.type "str")::l)] σ (.bool true) σ:=by
  intro c sc ι m s vs Q Er ok S ap ht aM k
  refine aM.eN fun v u h1 h2=>h1.is (h2.isTup fun r vs hm hr=>?_)
  have ⟨h₀,I⟩:=S
  have e:=(I.nw _ (List.mem_append_left _ hm)).1
  revert e
  exact hr.on fun v vs h3 ω=>h3.is fun e=>KH e (k _ ι s.heap s.toks I.st ap (fun ω h=>h) (.bool _))
theorem KP:jl g "rfind" "str.rfind":=.mk fun ω ω ω ω ω ω ω h=>by with_reducible exact GM.rfind h
theorem KQ:jl g "rstrip" "str.rstrip":=.mk fun ω ω ω ω ω ω ω h=>by with_reducible exact GM.rstrip h
theorem sW:jl g "startswith" "str.startswith":=.mk fun ω ω ω ω ω ω ω h=>by with_reducible exact GM.startswith h
theorem KR:jl g "endswith" "str.endswith":=.mk fun ω ω ω ω ω ω ω h=>by with_reducible exact GM.endswith h
theorem KU:jl g "index" "str.index":=.mk fun ω ω ω ω ω ω ω h=>by with_reducible exact GM.index h
theorem KV {x y:Str}:Fn g pl D (.builtin "str.rfind") [.str x,.str y] σ (.int (Txt.rfind x y)) σ:=
  .nR fun ω ω ω ω ω ω ω h1 h2 k=>h1.is fun ω=>h2.is fun ω=>SC.rfind (k _ _ (.int _ _))
theorem KW {x y:Str} (hx:x.length≤sizeLine):Fn g pl D (.builtin "str.rstrip") [.str x,.str y] σ (.str (Txt.rstripChars x y)) σ:=
  .nR fun ω ω ω ω ω ω ω h1 h2 k=>h1.is fun ω=>h2.is fun ω=>SC.rstripChars (fun ω tk=>k _ tk (.str _ _)) hx
theorem xN {x y:Str}:Fn g pl D (.builtin "str.startswith") [.str x,.str y] σ (.bool (Txt.startswith x y)) σ:=
  .nR fun ω ω ω ω s ω ω h1 h2 k=>h1.is fun ω=>h2.is fun ω=>SC.startswith (k _ s.toks (.bool _))
theorem KX {x y:Str} {i:Int}:Fn g pl D (.builtin "str.startswith") [.str x,.str y,.int i] σ (.bool (Txt.startswith3 x y i)) σ:=
  .KI fun ω ω ω ω ω s ω ω h1 h2 h3 k=>h1.is fun ω=>h2.is fun ω=>h3.is fun ω=>SC.startswith3 (k _ s.toks (.bool _))
theorem KY {x y:Str}:Fn g pl D (.builtin "str.endswith") [.str x,.str y] σ (.bool (Txt.endswith x y)) σ:=
  .nR fun ω ω ω ω s ω ω h1 h2 k=>h1.is fun ω=>h2.is fun ω=>SC.endswith (k _ s.toks (.bool _))
theorem KZ {x:Str} (h:(x.length:Int) < 2 ^ 63):Fn g pl D (.builtin "len") [.str x] σ (.int x.length) σ:=
  .xM fun ω ω ω ω ω ω h1 k=>h1.is fun ω=>PyProof.Rows.len_str (by lia) (k _ _ (.int _ _))
theorem K0 {l:List AV} (h:(l.length:Int) < 2 ^ 63):Fn g pl D (.builtin "len") [.tup l] σ (.int l.length) σ:=by
  intro c sc ι m s vs Q Er ok S ap ht aM k
  refine aM.dS fun v h1=>h1.isTup fun r us hm hr=>?_
  have ⟨h₀,I⟩:=S
  have e:us.toArray.size=l.length:=by rw [List.size_toArray,hr.length]
  exact PyProof.Rows.len_tuple (items:=us.toArray) ⟨_,(I.nw _ (List.mem_append_left _ hm)).1,rfl,_,rfl⟩ (e▸h) (k _ ι s.heap _ I.st ap (fun ω h=>h) (e▸.int _ _))
end
noncomputable def lp (A:Around) (h:Heap):Prop:=A.handled=none∨∃ a o vs,A.handled=some (.ref a)∧h.get? a=some o∧o.data=.fields vs∧vs[2]?=some .none
section
variable {prog:Program} {w:World} {A:Around} {Er:Value→Shared→Prop} {s:Shared}
theorem K3 {M:Model} {a:Addr} {o:Obj} {vs:Array Value} {i:Nat} {v:Value} {Q:Unit→Shared→Prop} (ho:s.heap.get? a=some o) (hd:o.data=.fields vs) (hi:i < vs.size)
    (h:Q () {s with heap:=s.heap.update a (Obj.mapFields (·.setIfInBounds i v))}):wpAny M A (updateField a i v) Q Er s:=by
  unfold updateField
  refine wpAny_bind (wpAny_load ho ?_)
  rw [hd]
  exact wpAny_ite_true (decide_eq_true hi) (wpAny_update ho h)
theorem K4:entryFor table "proto.unchain"=some Builtin.«proto.unchain»:=entryFor_of_fast (by kernel_rfl)
theorem K5 {α:Type} {a:Addr} {oa:Obj} {us:Array Value} {Q:α→Shared→Prop} (H:lp A s.heap) (ho:s.heap.get? a=some oa) (hd:oa.data=.fields us) (hu:2 < us.size)
    (h:∀ h',(∀ b o,b≠a→s.heap.get? b=some o→h'.get? b=some o)→(∃ o',h'.get? a=some o'∧o'.cls=oa.cls)→Er (.ref a) {s with heap:=h'}):wpAny (model prog w) A (raiseNew (.ref a):Sem α) Q Er s:=by
  delta raiseNew; dsimp only
  refine wpAny_bind (wpAny_handled ?_)
  rcases H with H | ⟨b,o,vs,H,hb,K6,hv⟩
  · rw [H]
    exact wpAny_bind (wpAny_pure (wpAny_throw (h s.heap (fun ω ω ω e=>e) ⟨oa,ho,rfl⟩)))
  · rw [H]
    dsimp only
    split
    · refine wpAny_bind (wpAny_holding (wpAny_runValue (codeAny_builtin K4 ?_)))
      show wpAny _ _ (field (.ref b) 2 >>= _) _ _ s
      refine wpAny_bind (wpAny_field hb K6 hv ?_)
      show wpAny _ _ (ret .none) _ _ s
      refine wpAny_pure ?_
      refine wpAny_bind (K3 ho hd hu (wpAny_throw (h _ (fun b' o' hn e=>?_) ⟨_,Heap.get?_update_self _ ho (Obj.isFreed_of_fields (Obj.data_mapFields hd _)),Obj.cls_mapFields ..⟩)))
      exact (Heap.SameBut.update ..).extBut b' o' hn e
    · exact wpAny_bind (wpAny_pure (wpAny_throw (h s.heap (fun ω ω ω e=>e) ⟨oa,ho,rfl⟩)))
theorem lp.keep {h h':Heap} (H:lp A h) (k:∀ b o,A.handled=some (.ref b)→h.get? b=some o→h'.get? b=some o):lp A h':=by
  rcases H with H | ⟨b,o,vs,H,hb,r⟩
  · exact .inl H
  · exact .inr ⟨b,o,vs,H,k b o H hb,r⟩
theorem K7 {it t:Addr} {i:Nat} {items:Array Value} {Q:Option Value→Shared→Prop} (H:lp A s.heap) (aT:A.handled≠some (.ref it))
    (hit:s.heap.IsTupleIter it t i) (ht:s.heap.IsTuple t items) (hx:items[i]?=none)
    (hQ:∀ h',Heap.ExtBut it s.heap h'→Q none {s with heap:=h'}):wpAny (model prog w) A (pyNext (.ref it)) Q Er s:=by
  obtain ⟨o,ho,hc,hd⟩:=id hit
  obtain ⟨ol,sX,_,nl,lq⟩:=ht
  unfold pyNext
  refine wpAny_bind (wpAny_attempt (wpAny_callSpecial?_slot (name:=Str.ofString "__next__") hit.typeIs F.slot_tuple_iterator_next
    (wpAny_call_entry F.slot_tuple_iterator_next hit.typeIs F.entry_tuple_iterator_next ?_ (F.args_tuple_iterator_next_1 _))))
  show wpAny _ _ (field (.ref it) 0 >>= _) _ _ s
  refine wpAny_bind (wpAny_field ho hd (x:=.ref t) rfl ?_)
  show wpAny _ _ (if (Value.ref t==Value.none)=true then _ else _) _ _ s
  refine wpAny_ite_false (decide_eq_false Bool.false_ne_true) ?_
  show wpAny _ _ (field (.ref it) 1 >>= _) _ _ s
  refine wpAny_bind (wpAny_field ho hd (x:=.int i 0) rfl ?_)
  show wpAny _ _ (seqItems? (.ref t) >>= _) _ _ s
  refine wpAny_bind (wpAny_seqItems sX lq ?_)
  simp only [Int.toNat_natCast,hx]
  refine wpAny_bind (wpAny_rule (wpAny_bind (wpAny_setField ho hd (by simp) ?_)))
  show wpAny _ _ (newExc (.type "StopIteration") [] >>= _) _ _ _
  refine wpAny_bind ?_
  simp only [newExc,newTuple]
  refine wpAny_bind (wpAny_newObj_type ?_ (by size_fits))
  refine wpAny_bind (m:=firstArgMember _ _) (wpAny_of_eq (a:=Value.none) (by first | rfl | (simp only [firstArgMember]; rfl)) ?_)
  refine wpAny_newObj_type ?_ (by size_fits)
  refine K5 ?_ (Heap.get?_push_size _ rfl) rfl (by simp; lia) fun h' hk bW=>?_
  · refine H.keep fun b o' e hb=>?_
    refine Heap.get?_push_of_some _ (Heap.get?_push_of_some _ ((Heap.SameBut.update ..).extBut b o' (fun q=>aT (q▸e)) hb))
  · obtain ⟨o',bW,sY⟩:=bW
    refine wpAny_bind (wpAny_isInstance (T:="StopIteration") (b:=true) ⟨_,bW,by rw [sY]⟩ isSubtype_stop ?_)
    refine wpAny_pure (hQ _ fun b xO hb e=>?_)
    have p9:=Heap.get?_push_of_some {cls:=.type "tuple",data:=.seq #[]} ((Heap.SameBut.update (f:=Obj.mapFields fun x=>x.setIfInBounds 0 .none) ..).extBut b xO hb e)
    exact hk b xO (fun q=>absurd (Heap.lt_size p9) (by rw [q]; exact Nat.lt_irrefl _)) (Heap.get?_push_of_some _ p9)
theorem K8 {t:Addr} {items:Array Value} {Q:List Value→Shared→Prop} (H:lp A s.heap) (ht:s.heap.IsTuple t items)
    (hQ:∀ h',Heap.ExtBut s.heap.objs.size s.heap h'→Q items.toList {s with heap:=h'}):wpAny (model prog w) A (unpackItems (.ref t) items.size none) Q Er s:=by
  have bq:t≠s.heap.objs.size:=by obtain ⟨o,ho,_⟩:=ht; exact Nat.ne_of_lt (Heap.lt_size ho)
  have aT:A.handled≠some (.ref s.heap.objs.size):=by
    rcases H with H | ⟨b,o,vs,H,hb,r⟩
    · rw [H]; exact fun e=>nomatch e
    · rw [H]; intro e; cases e; exact absurd (Heap.lt_size hb) (Nat.lt_irrefl _)
  unfold unpackItems
  refine wpAny_bind ?_
  · unfold notIterableAtAll
    refine wpAny_bind (wpAny_specialOf ht.typeIs F.slot_tuple_iter.lookup ?_)
    refine wpAny_pure (wpAny_ite_false rfl ?_)
    refine wpAny_bind (wpAny_holding (wpAny_pyIter_tuple ht ?_))
    refine wpAny_bind (wpAny_holding (wpAny_draw_tuple bq items.size 0 _ _ ⟨_,Heap.get?_push_size _ rfl,rfl,rfl⟩ (ht.push _) (by lia) fun ah K9 ak=>?_))
    have jq:List.take items.size (List.drop 0 items.toList)=items.toList:=by
      rw [List.drop_zero]; exact List.take_of_length_le (by simp)
    rw [jq]
    refine wpAny_ite_false (decide_eq_false (by simp)) ?_
    have av:ah.IsTuple t items:=(ht.push _).extBut ak.extBut bq
    refine wpAny_bind (wpAny_holding (K7 ?_ aT K9 av (by simp) fun aB La=>?_))
    · refine H.keep fun b o e hb=>ak.extBut b o (fun q=>aT (q▸e)) (Heap.get?_push_of_some _ hb)
    refine wpAny_ite_false rfl ?_
    refine wpAny_pure (hQ aB fun b o hb e=>La b o hb (ak.extBut b o hb (Heap.get?_push_of_some _ e)))
end
section
variable {g:Gx} {pl:Bool} {D:Nat} {sc:Scope} {E E' E₁ aO:ag} {σ U σ₁ σ₂ aN:Led}
theorem Cx.Ok.held {c:Cx} {ι σ:Led} {m:Str→Option Value} {h:Heap} (ok:c.Ok g sc pl D) (S:St g c (ι++σ) m h) (ap:Ap c ι σ):lp c.A h:=by
  cases e:c.hx with
  | none=>exact .inl (by rw [ok.hd,e]; rfl)
  | some p=>
    obtain ⟨vs,h1,h2⟩:=ok.he p e
    obtain ⟨h₀,I⟩:=S
    exact .inr ⟨p.1,p.2,vs,by rw [ok.hd,e]; rfl,(I.nw _ (List.mem_append_left _ (ap.hx p e))).1,h1,h2⟩
theorem sZ {c:Cx} {ι σ:Led} {m:Str→Option Value} {s:Shared} {r:Addr} {vs:List Value} {Q:List Value→Shared→Prop} {Er:Value→Shared→Prop} (ok:c.Ok g sc pl D) (S:St g c (ι++σ) m s.heap) (ap:Ap c ι σ) (hm:(r,cV vs)∈ι)
    (k:∀ h',St g c (ι++σ) m h'→Q vs {s with heap:=h'}):wpAny g.M c.A (unpackItems (.ref r) vs.length none) Q Er s:=by
  have H:=ok.held S ap
  obtain ⟨h₀,I⟩:=S
  have hg:=(I.nw _ (List.mem_append_left _ hm)).1
  have:=K8 (prog:=g.prog) (w:=g.w) (Q:=Q) (Er:=Er) (items:=vs.toArray) (t:=r) H ⟨_,hg,rfl,_,rfl⟩ fun h' he=>k h' (I.to
    ⟨I.fr.ns.at' fun o e=>he _ o (Nat.ne_of_lt (Heap.lt_size e)) e,fun b o e=>he b o (Nat.ne_of_lt (Heap.lt_size (I.fr.keep b o e))) (I.fr.keep b o e),I.fr.above⟩
    fun p hp=>⟨he _ _ (Nat.ne_of_lt (Heap.lt_size (I.nw p hp).1)) (I.nw p hp).1,(I.nw p hp).2⟩)
  simpa only [List.size_toArray] using this
theorem Lb {x y:Str} {p1 p2 tp pos:Pos} {k:Nat} {e:Expr} {a b:AV} (hv:Ev g pl D sc E σ e (.tup [a,b]) σ₁) (hu:Upd x a E E₁) (gn:Upd y b E₁ aO) (hk:autoParam (sc.names.lookup x=some .local) aK) (jr:sc.names.lookup y=some .local:=by kernel_rfl)
    (hs:autoParam (∀ env,swapsWithSole [.Tuple [.Name x p1,.Name y p2] k tp] e pos.line env=pure false) aI) (hw:autoParam (∀ env,swappedStores [.Tuple [.Name x p1,.Name y p2] k tp] e env=pure none) aI):
    Ex g pl D sc E σ (.Assign [.Tuple [.Name x p1,.Name y p2] k tp] e pos) .next aO σ₁:=by
  refine Comes.of fun c ι m s Q Er ok S R ap ht kk=>?_
  refine Assign_Tuple ?_ (hs _) (hw _)
  refine hv.on c ι m s _ _ ok S R ap ht fun v ar m₁ ah ax av ai aq aj ak hv=>?_
  refine hv.isTup fun ω ω hm hr=>?_
  obtain ⟨u,v,rfl,nS,ki⟩:=hr.two
  rw [PyProof.Rows.assign_Tuple]
  refine wpAny_bind (wpAny_standAt ?_)
  unfold unpack
  refine wpAny_bind (wpAny_holding ?_)
  show wpAny g.M c.A (unpackItems (.ref _) [u,v].length none) _ _ _
  refine sZ (vs:=[u,v]) (s:={s with heap:=ah,toks:=ax}) ok ai aj hm fun aB aw=>?_
  show wpAny g.M c.A (assignInOrder [assign (.Name x p1) (c.env sc),assign (.Name y p2) (c.env sc)] [u,v]) _ _ _
  refine wpAny_bind (wpAny_holding (PySem.wpAny_assign_Name (fq ok aw hk fun bu bj=>?_)))
  refine wpAny_bind (wpAny_holding (PySem.wpAny_assign_Name (fq ok bj jr fun eO dM=>?_)))
  exact wpAny_pure (kk .next ar _ eO _ dM ((aq.upd hu nS).upd gn ki) aj ak .next)
theorem xP {x y:Str} {p1 p2 tp pos:Pos} {k:Nat} {e:Expr} {a b:AV} (hv:Ev g pl D sc E σ e (.tup [a,b]) σ₁) (hu:Upd y b E E₁) (gn:Upd x a E₁ aO) (hk:autoParam (sc.names.lookup x=some .local) aK) (jr:sc.names.lookup y=some .local:=by kernel_rfl)
    (hs:autoParam (∀ env,swapsWithSole [.Tuple [.Name x p1,.Name y p2] k tp] e pos.line env=pure false) aI) (hw:autoParam (∀ (c:Cx),swappedStores [.Tuple [.Name x p1,.Name y p2] k tp] e (c.env sc)=pure (some [x,y])) aL):
    Ex g pl D sc E σ (.Assign [.Tuple [.Name x p1,.Name y p2] k tp] e pos) .next aO σ₁:=by
  refine Comes.of fun c ι m s Q Er ok S R ap ht kk=>?_
  refine Assign_Tuple_swapped (names:=[x,y]) ?_ (hs _) (hw _)
  refine hv.on c ι m s _ _ ok S R ap ht fun v ar m₁ ah ax av ai aq aj ak hv=>?_
  refine hv.isTup fun ω ω hm hr=>?_
  obtain ⟨u,v,rfl,nS,ki⟩:=hr.two
  show wpAny g.M c.A (unpackItems (.ref _) [u,v].length none) _ _ _
  refine sZ (vs:=[u,v]) (s:={s with heap:=ah,toks:=ax}) ok ai aj hm fun aB aw=>?_
  show wpAny g.M c.A (assignInOrder [bindName (c.env sc) y,bindName (c.env sc) x] [v,u]) _ _ _
  refine wpAny_bind (wpAny_holding (PySem.wpAny_bindName (fq ok aw jr fun bu bj=>?_)))
  refine wpAny_bind (wpAny_holding (PySem.wpAny_bindName (fq ok bj hk fun eO dM=>?_)))
  exact wpAny_pure (kk .next ar _ eO _ dM ((aq.upd hu ki).upd gn nS) aj ak .next)
end
noncomputable abbrev S (l:List Nat):Str:=⟨l.toArray⟩
theorem Lc (x:Str):S x.cps.toList=x:=by cases x; rfl
theorem bD (l:List Nat):(S l).length=l.length:=by show l.toArray.size=_; rw [List.size_toArray]
theorem Ld {a b:List Nat} (h:S a=S b):a=b:=by injection h with h; simpa using congrArg Array.toList h
theorem xQ (a b:List Nat):S a++S b=S (a++b):=by
  show (⟨a.toArray++b.toArray⟩:Str)=⟨(a++b).toArray⟩
  rw [List.append_toArray]
theorem qa (a b:List Nat):(S a==S b)=(a==b):=by
  rw [Bool.eq_iff_iff,beq_iff_eq,beq_iff_eq]
  exact ⟨Ld,fun h=>by rw [h]⟩
theorem Le (a b:List Nat):(S a != S b)=(a != b):=by show (!(S a==S b))=!(a==b); rw [qa]
theorem xR (l:List Nat):(S l).cps.toList=l:=by simp
theorem Lf {l:List Nat} {i:Nat} (h:i≤l.length):Txt.slice (S l) none (some (i:Int))=S (l.take i):=by
  have:=slice_closes_toL (x:=S l) (j:=(i:Int)) (by lia) (by rw [bD]; lia)
  rw [beq_iff_eq] at this
  rw [this]; simp
theorem Lg {l:List Nat} {i:Nat} (h:i≤l.length):Txt.slice (S l) (some (i:Int)) none=S (l.drop i):=by
  rw [slice_from_eq (x:=S l) (i:=(i:Int)) (by lia) (by rw [bD]; lia) rfl,bD]
  congr 2
  simp only [Int.toNat_natCast]
  rw [List.take_of_length_le (by simp)]
theorem Lh {l:List Nat} {i j:Nat} (h:i≤j) (h2:j≤l.length):Txt.slice (S l) (some (i:Int)) (some (j:Int))=S ((l.drop i).take (j - i)):=by
  have:=slice_closesL (x:=S l) (i:=(i:Int)) (j:=(j:Int)) (by lia) (by lia) (by rw [bD]; lia)
  rw [beq_iff_eq] at this
  rw [this]
  congr 3
  · lia
theorem item_at {l:List Nat} {k c:Nat} (h:l[k]?=some c):Txt.item (S l) (k:Int)=S [c]:=by
  rw [PyProof.Rows.item_meets (n:=c) (by lia) (by simpa using h)]
theorem item_last {l:List Nat} {c:Nat} (h:l.getLast?=some c):Txt.item (S l) (-1)=S [c]:=by
  have aT:l≠[]:=by rintro rfl; simp at h
  have hl:0 < l.length:=List.length_pos_iff.mpr aT
  have:=item_closes_neg (x:=S l) (i:=-1) (j:=((l.length - 1:Nat):Int)) (by lia) (by rw [bD]; lia) (by rw [bD]; lia)
  rw [beq_iff_eq] at this
  rw [this]
  rw [List.getLast?_eq_getElem?] at h
  simp [h]
theorem s6 {l:List Nat} {c i:Nat}:StrLaws.At (S l) (S [c]) (S l).length i↔l[i]?=some c:=by
  unfold StrLaws.At Builtin.Str.subAt
  rw [bD,bD]
  constructor
  · rintro ⟨h1,h2⟩
    rw [beq_iff_eq] at h2
    have Li:i < l.length:=by simp at h1; lia
    have:=congrArg (fun a:Array Nat=>a[0]?) h2
    simpa [Array.getElem?_extract,Li] using this
  · intro h
    have hi:i < l.length:=(List.getElem?_eq_some_iff.mp h).1
    refine ⟨by simp; lia,?_⟩
    rw [beq_iff_eq]
    apply Array.ext
    · simp; lia
    · intro j h1 h2
      have:j=0:=by simpa using h2
      subst this
      have:=(List.getElem?_eq_some_iff.mp h).2
      simp [this]
noncomputable def cU (c:Nat) (l:List Nat):List Nat:=(l.reverse.dropWhile (· != c)).reverse
noncomputable def behind (c:Nat) (l:List Nat):List Nat:=(l.reverse.takeWhile (· != c)).reverse
theorem my (c:Nat) (l:List Nat):cU c l++behind c l=l:=by
  unfold cU behind
  rw [←List.reverse_append,List.takeWhile_append_dropWhile,List.reverse_reverse]
theorem xS {c:Nat}:∀ l:List Nat,c∉l.takeWhile (· != c)
  | []=>by simp
  | d::l=>by
    rw [List.takeWhile_cons]
    split
    · rename_i h
      intro hm
      rcases List.mem_cons.mp hm with rfl | hm
      · simp at h
      · exact xS l hm
    · simp
theorem xT (c:Nat) (l:List Nat):c∉behind c l:=by
  unfold behind
  rw [List.mem_reverse]
  intro h
  exact xS _ h
theorem xU (c:Nat) (l:List Nat):cU c l=[]∨∃ k,cU c l=k++[c]:=by
  unfold cU
  cases h:l.reverse.dropWhile (· != c) with
  | nil=>exact .inl rfl
  | cons d r=>
    right
    have:=List.head?_dropWhile_not (· != c) l.reverse
    rw [h] at this
    simp at this
    subst this
    exact ⟨r.reverse,by simp⟩
theorem Lj (l:List Nat) (c:Nat):Txt.rfind (S l) (S [c])+1=((cU c l).length:Int):=by
  have nT:=my c l
  rcases rfind_whole (S l) (S [c]) with ⟨h1,h2⟩ | ⟨i,h1,h2,h3⟩
  · rw [h1]
    rcases xU c l with e | ⟨k,e⟩
    · rw [e]; rfl
    · exfalso
      refine h2 k.length (s6.mpr ?_)
      rw [←nT,e]
      simp
  · rw [h1]
    have qb:=s6.mp h2
    have hi:i < l.length:=(List.getElem?_eq_some_iff.mp qb).1
    rcases xU c l with e | ⟨k,e⟩
    · exfalso
      rw [e,List.nil_append] at nT
      have:=xT c l
      rw [nT] at this
      exact this (List.mem_of_getElem? qb)
    · have hk:l[k.length]?=some c:=by rw [←nT,e]; simp
      have h4:¬ i < k.length:=fun bq=>h3 k.length bq (s6.mpr hk)
      have h5:¬ k.length < i:=fun bq=>by
        have hb:=xT c l
        have hm:l[i]?=(behind c l)[i - (k.length+1)]?:=by
          conv=>lhs; rw [←nT,e]
          rw [List.getElem?_append_right (by simp; lia)]
          simp
        rw [hm] at qb
        exact hb (List.mem_of_getElem? qb)
      rw [e,List.length_append]
      have:i=k.length:=by lia
      simp [this]
theorem Lk {l:List Nat} {i j:Nat}:Builtin.Str.strSub (S l) i j=S ((l.take j).drop i):=by
  unfold Builtin.Str.strSub
  congr 1
  apply Array.ext'
  simp [List.drop_take]
noncomputable def mz (c:Nat) (l:List Nat):List Nat:=(l.reverse.dropWhile (·==c)).reverse
theorem xV (c:Nat) (l:List Nat):mz c l=l.take (l.length - (l.reverse.takeWhile (·==c)).length):=by
  unfold mz
  have h:∀ k:List Nat,k.dropWhile (·==c)=k.drop (k.takeWhile (·==c)).length:=by
    intro k
    induction k with
    | nil=>rfl
    | cons d k ih=>
      rw [List.dropWhile_cons,List.takeWhile_cons]
      split
      · rw [List.length_cons,List.drop_succ_cons,ih]
      · rfl
  rw [h l.reverse,List.drop_reverse,List.reverse_reverse]
theorem Ll (l:List Nat) (c:Nat):Txt.rstripChars (S l) (S [c])=S (mz c l):=by
  unfold Txt.rstripChars
  rw [PyProof.Rows.stripBy_eq]
  have e:(S [c]).cps.contains=fun d=>d==c:=by
    funext d; simp; rfl
  rw [e]
  unfold stripLo stripHi
  simp only [Bool.false_eq_true,if_false,if_true,List.drop_zero]
  rw [Lk,xV,bD,List.drop_zero]
theorem Lm (c:Nat) (l:List Nat):(mz c l).length≤l.length:=by rw [xV,List.length_take]; lia
theorem xW (c:Nat):∀ (n:Nat) (a:Array Nat),((List.replicate n #[c]).foldl (·++·) a)=a++(List.replicate n c).toArray
  | 0,a=>by simp
  | n+1,a=>by
    rw [List.replicate_succ,List.foldl_cons,xW c n]
    apply Array.ext'
    simp [List.replicate_succ]
theorem mul_one (c n:Nat):Txt.mul (S [c]) (n:Int)=S (List.replicate n c):=by
  unfold Txt.mul
  split
  · have:n=0:=by lia
    subst this; rfl
  · split
    · rename_i h
      have:n=1:=by
        simp [Str.length] at h; lia
      subst this; rfl
    · have:=xW c n #[]
      simp only [Int.toNat_natCast]
      congr 1
      simpa using this
theorem Ln (c n:Nat) (h:n≤100000):MulOk (S [c]) (n:Int):=by
  refine ⟨?_,fun h1 ω=>?_,fun h1 ω=>?_⟩
  · simp; lia
  · rw [bD]
    have:((1:Nat):Int)≤(2 ^ 63 - 1) / (n:Int):=by
      apply Int.le_ediv_of_mul_le <;> lia
    simp only [List.length_cons,List.length_nil] at *
    lia
  · rw [bD]
    unfold Builtin.Str.tooLong sizeLine
    simp; lia
theorem Lo (l:List Nat) (c:Nat):Txt.startswith (S l) (S [c])=(l.head?==some c):=by
  unfold Txt.startswith Builtin.Str.subAt
  cases l with
  | nil=>simp [bD]
  | cons d l=>
    simp only [bD,List.length_cons,List.length_nil,List.head?_cons]
    have e:(S (d::l)).cps.extract 0 (0+(0+1))=#[d]:=by
      apply Array.ext'; simp
    rw [e]
    have:decide (0+(0+1)≤l.length+1)=true:=by simp
    rw [this,Bool.true_and]
    rw [Bool.eq_iff_iff]; simp
theorem Lp (l:List Nat) (c:Nat):Txt.endswith (S l) (S [c])=(l.getLast?==some c):=by
  unfold Txt.endswith Builtin.Str.subAt
  rw [bD,bD]
  rcases List.eq_nil_or_concat l with rfl | ⟨k,d,rfl⟩
  · simp
  · rw [List.concat_eq_append]
    have e:(S (k++[d])).cps.extract ((k++[d]).length - [c].length) ((k++[d]).length - [c].length+[c].length)=#[d]:=by
      apply Array.ext'; simp
    rw [e]
    rw [Bool.eq_iff_iff]; simp
theorem notIn_one (l:List Nat) (c:Nat):(Builtin.Str.occurrences (S l) (S [c]) 0 (S l).length 1).isEmpty=!l.contains c:=by
  have:=StrLaws.found_one (S l) c
  rw [xR] at this
  rw [←Bool.not_not (List.isEmpty _),this]
  congr 1
  rw [Bool.eq_iff_iff]; simp
noncomputable abbrev pg:Program:=PySem.Challenge.pw_in0144_01
noncomputable def af (n:Nat):Stmt:=pg.main.body.getD n (.Pass ⟨0,0,0,0⟩)
noncomputable def bZ (s:Stmt):List Stmt:=if h:s.ctorIdx=0 then Stmt.FunctionDef.elim s h fun ω ω b ω ω ω ω ω ω ω=>b else if h:s.ctorIdx=2 then Stmt.ClassDef.elim s h fun ω ω ω b ω ω ω ω ω ω ω=>b else []
noncomputable def bz (s:Stmt):Scope:=if h:s.ctorIdx=0 then Stmt.FunctionDef.elim s h fun ω ω ω ω ω ω c ω ω ω=>c else default
noncomputable def dr (s:Stmt):Arguments:=if h:s.ctorIdx=0 then Stmt.FunctionDef.elim s h fun ω a ω ω ω ω ω ω ω ω=>a else default
inductive fw (K:Frag) (a:Addr) (nm qual:Str) (st:Stmt) (dV kV:Value):Prop
  | mk (oc:Value) (od:Option Addr) (ia:Array (Option Value)) (doc pm:Value) (an:Option Addr) (bb ct:Value):K.lookup a=some ⟨oc,od,.func (fnOf nm qual (dr st) (bZ st) (bz st) dV kV doc pm an bb ct),ia⟩→codeIn K bb qual=true→fw K a nm qual st dV kV
noncomputable abbrev FnAt (K:Frag) (a:Addr) (nm:Str) (st:Stmt) (dV kV:Value):Prop:=fw K a nm nm st dV kV
structure KF (g:Gx):Prop where
  xX:FnAt g.K 782 "fspath" (af 85) .none .none
  qc:keepIn g.K (.ref 782)=true
  xY:FnAt g.K 796 "_get_sep" (af 89) .none .none
  s7:keepIn g.K (.ref 796)=true
  xZ:FnAt g.K 803 "join" (af 90) .none .none
  x4:keepIn g.K (.ref 803)=true
  x5:FnAt g.K 810 "split" (af 91) .none .none
  x6:keepIn g.K (.ref 810)=true
  x7:FnAt g.K 817 "_law_names" (af 93) .none .none
  qd:keepIn g.K (.ref 817)=true
  x8:FnAt g.K 824 "_law_tidy" (af 94) .none .none
  x9:keepIn g.K (.ref 824)=true
  ya:FnAt g.K 831 "_law_written" (af 95) .none .none
  yb:keepIn g.K (.ref 831)=true
  yc:FnAt g.K 836 "_law_key" (af 96) .none .none
  yd:keepIn g.K (.ref 836)=true
  ye:FnAt g.K 843 "_law_ends" (af 97) .none .none
  s8:keepIn g.K (.ref 843)=true
  yf:FnAt g.K 848 "law" (af 98) .none .none
  Lq:keepIn g.K (.ref 848)=true
  yg:FnAt g.K 709 "reduce" (af 76) (.ref 702) .none
  s9:keepIn g.K (.ref 709)=true
  yh:FnAt g.K 375 "loads" (af 47) .none (.ref 368)
  ta:keepIn g.K (.ref 375)=true
  tc:FnAt g.K 545 "skip_chars" (af 51) .none .none
  ib:keepIn g.K (.ref 545)=true
  yi:FnAt g.K 552 "skip_until" (af 52) .none .none
  yj:keepIn g.K (.ref 552)=true
  te:FnAt g.K 559 "skip_comment" (af 53) .none .none
  th:keepIn g.K (.ref 559)=true
  ti:FnAt g.K 573 "create_dict_rule" (af 55) .none .none
  tj:keepIn g.K (.ref 573)=true
  yk:FnAt g.K 601 "parse_key" (af 59) .none .none
  qe:keepIn g.K (.ref 601)=true
  yl:FnAt g.K 608 "parse_key_part" (af 60) .none .none
  tm:keepIn g.K (.ref 608)=true
  ym:FnAt g.K 615 "parse_one_line_basic_str" (af 61) .none .none
  yn:keepIn g.K (.ref 615)=true
  yo:FnAt g.K 637 "parse_basic_str_escape" (af 64) .none (.ref 630)
  yp:keepIn g.K (.ref 637)=true
  yq:FnAt g.K 658 "parse_literal_str" (af 67) .none .none
  yr:keepIn g.K (.ref 658)=true
  yt:FnAt g.K 672 "parse_basic_str" (af 69) .none .none
  yu:keepIn g.K (.ref 672)=true
  Lr:FnAt g.K 686 "suffixed_err" (af 71) .none .none
  yv:keepIn g.K (.ref 686)=true
  yw:FnAt g.K 700 "make_safe_parse_float" (af 73) .none .none
  yx:keepIn g.K (.ref 700)=true
  yy:∃ o n,g.K.lookup 702=some o∧o.data=.seq #[.ref 701] n
  yz:∃ o hs t ep,g.K.lookup 368=some o∧o.data=.dict #[⟨hs,.str "parse_float" t,.type "float"⟩] ep
  yA:∃ sl,g.K.lookup 354=some ⟨.type "mappingproxy",none,.fields #[.ref 353],sl⟩
  yB:∃ o hs t ep,g.K.lookup 630=some o∧o.data=.dict #[⟨hs,.str "multiline" t,.bool false⟩] ep
  qf:nsIn g.K mainGlobals "fspath"=some (some (.ref 782))
  tn:nsIn g.K mainGlobals "_get_sep"=some (some (.ref 796))
  tu:nsIn g.K mainGlobals "join"=some (some (.ref 803))
  g_split:nsIn g.K mainGlobals "split"=some (some (.ref 810))
  qg:nsIn g.K mainGlobals "_law_names"=some (some (.ref 817))
  yC:nsIn g.K mainGlobals "_law_tidy"=some (some (.ref 824))
  yD:nsIn g.K mainGlobals "_law_written"=some (some (.ref 831))
  yE:nsIn g.K mainGlobals "_law_key"=some (some (.ref 836))
  tv:nsIn g.K mainGlobals "_law_ends"=some (some (.ref 843))
  Ls:nsIn g.K mainGlobals "law"=some (some (.ref 848))
  tw:nsIn g.K mainGlobals "reduce"=some (some (.ref 709))
  tA:nsIn g.K mainGlobals "loads"=some (some (.ref 375))
  ie:nsIn g.K mainGlobals "skip_chars"=some (some (.ref 545))
  yF:nsIn g.K mainGlobals "skip_until"=some (some (.ref 552))
  tB:nsIn g.K mainGlobals "skip_comment"=some (some (.ref 559))
  tC:nsIn g.K mainGlobals "create_dict_rule"=some (some (.ref 573))
  qh:nsIn g.K mainGlobals "parse_key"=some (some (.ref 601))
  tD:nsIn g.K mainGlobals "parse_key_part"=some (some (.ref 608))
  yG:nsIn g.K mainGlobals "parse_one_line_basic_str"=some (some (.ref 615))
  yH:nsIn g.K mainGlobals "parse_basic_str_escape"=some (some (.ref 637))
  yI:nsIn g.K mainGlobals "parse_literal_str"=some (some (.ref 658))
  yJ:nsIn g.K mainGlobals "parse_basic_str"=some (some (.ref 672))
  yL:nsIn g.K mainGlobals "suffixed_err"=some (some (.ref 686))
  yM:nsIn g.K mainGlobals "make_safe_parse_float"=some (some (.ref 700))
  yN:nsIn g.K mainGlobals "ILLEGAL_BASIC_STR_CHARS"=some (some (.ref 324))
  iN:nsIn g.K mainGlobals "TOML_WS"=some (some (.ref 330))
  nU:nsIn g.K mainGlobals "BARE_KEY_CHARS"=some (some (.ref 339))
  tF:nsIn g.K mainGlobals "KEY_INITIAL_CHARS"=some (some (.ref 347))
  yO:nsIn g.K mainGlobals "ILLEGAL_LITERAL_STR_CHARS"=some (some (.ref 324))
  Lu:nsIn g.K mainGlobals "ILLEGAL_COMMENT_CHARS"=some (some (.ref 324))
  yP:nsIn g.K mainGlobals "BASIC_STR_ESCAPE_REPLACEMENTS"=some (some (.ref 354))
  yQ:nsIn g.K mainGlobals "_initial_missing"=some (some (.ref 701))
  mA:nsIn g.K mainGlobals "TOMLDecodeError"=some (some (.ref 364))
  tG:nsIn g.K mainGlobals "Flags"=some (some (.ref 427))
  yS:nsIn g.K mainGlobals "NestedDict"=some (some (.ref 463))
  yU:nsIn g.K mainGlobals "Output"=some (some (.ref 535))
  yV:∃ t,nsIn g.K mainGlobals "MAX_KEY_PARTS"=some (some (.int 1000 t))
  qi:nsIn g.K mainGlobals "isinstance"=some none
  tH:nsIn g.K mainGlobals "bytes"=some none
  tI:nsIn g.K mainGlobals "type"=some none
  nV:nsIn g.K mainGlobals "str"=some none
  tJ:nsIn g.K mainGlobals "issubclass"=some none
  js:nsIn g.K mainGlobals "len"=some none
  yW:nsIn g.K mainGlobals "range"=some none
  mB:nsIn g.K mainGlobals "tuple"=some none
  yX:nsIn g.K mainGlobals "iter"=some none
  yY:nsIn g.K mainGlobals "next"=some none
  qj:nsIn g.K mainGlobals "IndexError"=some none
  Lv:nsIn g.K mainGlobals "ValueError"=some none
  Lw:nsIn g.K mainGlobals "TypeError"=some none
  tK:nsIn g.K mainGlobals "float"=some none
  yZ:nsIn g.K mainGlobals "set"=some none
  y0:nsIn g.K mainGlobals "list"=some none
  y1:nsIn g.K mainGlobals "dict"=some none
  Lx:nsIn g.K mainGlobals "KeyError"=some none
inductive fA (x:Str) (a:AV):ag→Prop
  | here {r:ag}:fA x a ((x,some a)::r)
  | there {p:Str×Option AV} {r:ag}:fA x a r→fA x a (p::r)
theorem fA.mem {x:Str} {a:AV} {E:ag} (h:fA x a E):(x,some a)∈E:=by
  induction h with
  | here=>exact List.mem_cons_self ..
  | there _ ih=>exact List.mem_cons_of_mem _ ih
noncomputable abbrev T (l:List Nat):AV:=.str (S l)
section
variable {g:Gx} {pl:Bool} {D:Nat} {sc:Scope} {E E' E₁ aO:ag} {σ U σ₁ σ₂ aN:Led}
theorem jt {α:Type} {vs:List α} (h:vs.length=1):∃ a,vs=[a]:=List.length_eq_one_iff.mp h
theorem ig {α:Type} {vs:List α} (h:vs.length=2):∃ a b,vs=[a,b]:=match vs,h with | [a,b],_=>⟨a,b,rfl⟩
theorem nW {α:Type} {vs:List α} (h:vs.length=3):∃ a b c,vs=[a,b,c]:=match vs,h with | [a,b,c],_=>⟨a,b,c,rfl⟩
theorem aa {x:Str} {p:Pos} {a:AV}
    (hm:fA x a E:=by repeat (first | with_reducible exact fA.here | with_reducible apply fA.there))
    (hk:autoParam (sc.names.lookup x=some .local) aK) (hd:autoParam ((x==("__debug__":Str))=false) aK):Ev g pl D sc E σ (.Name x p) a σ:=nC hm.mem hk hd
theorem ba {x:Str} {p' pos:Pos} {e:Expr} {a:AV} (hv:Ev g pl D sc E σ e a σ₁)
    (hu:Upd x a E E':=by repeat (first | with_reducible exact Upd.here | with_reducible apply Upd.there))
    (hk:autoParam (sc.names.lookup x=some .local) aK)
    (hs:autoParam (∀ env,swapsWith e (some (.Name x p')) pos.line env=pure false) aI):Ex g pl D sc E σ (.Assign [.Name x p'] e pos) .next E' σ₁:=Ko hv hu hk hs
theorem mC {x y:Str} {p1 p2 tp pos:Pos} {k:Nat} {e:Expr} {a b:AV} (hv:Ev g pl D sc E σ e (.tup [a,b]) σ₁)
    (hu:Upd x a E E₁:=by repeat (first | with_reducible exact Upd.here | with_reducible apply Upd.there))
    (gn:Upd y b E₁ aO:=by repeat (first | with_reducible exact Upd.here | with_reducible apply Upd.there))
    (hk:autoParam (sc.names.lookup x=some .local) aK) (jr:sc.names.lookup y=some .local:=by kernel_rfl)
    (hs:autoParam (∀ env,swapsWithSole [.Tuple [.Name x p1,.Name y p2] k tp] e pos.line env=pure false) aI) (hw:autoParam (∀ env,swappedStores [.Tuple [.Name x p1,.Name y p2] k tp] e env=pure none) aI):
    Ex g pl D sc E σ (.Assign [.Tuple [.Name x p1,.Name y p2] k tp] e pos) .next aO σ₁:=Lb hv hu gn hk jr hs hw
theorem Ly {x y:Str} {p1 p2 tp pos:Pos} {k:Nat} {e:Expr} {a b:AV} (hv:Ev g pl D sc E σ e (.tup [a,b]) σ₁)
    (hu:Upd y b E E₁:=by repeat (first | with_reducible exact Upd.here | with_reducible apply Upd.there))
    (gn:Upd x a E₁ aO:=by repeat (first | with_reducible exact Upd.here | with_reducible apply Upd.there))
    (hk:autoParam (sc.names.lookup x=some .local) aK) (jr:sc.names.lookup y=some .local:=by kernel_rfl)
    (hs:autoParam (∀ env,swapsWithSole [.Tuple [.Name x p1,.Name y p2] k tp] e pos.line env=pure false) aI) (hw:autoParam (∀ (c:Cx),swappedStores [.Tuple [.Name x p1,.Name y p2] k tp] e (c.env sc)=pure (some [x,y])) aL):
    Ex g pl D sc E σ (.Assign [.Tuple [.Name x p1,.Name y p2] k tp] e pos) .next aO σ₁:=xP hv hu gn hk jr hs hw
theorem fB {x:Str} {p' pos:Pos} {o:Operator} {e:Expr} {a b z:AV} (hv:Ev g pl D sc E σ e b σ₁) (ho:k7 g pl D sc E σ₁ o a b z σ₂)
    (hm:fA x a E:=by repeat (first | with_reducible exact fA.here | with_reducible apply fA.there))
    (hu:Upd x z E E':=by repeat (first | with_reducible exact Upd.here | with_reducible apply Upd.there))
    (hk:autoParam (sc.names.lookup x=some .local) aK):Ex g pl D sc E σ (.AugAssign (.Name x p') o e pos) .next E' σ₂:=Kp hm.mem hv ho hu hk
theorem lr {x:Str} {n:Nat} {p pos:Pos} (hi:autoParam (∀ (c:Cx),interactive (c.env sc)=false) aI) (hs:autoParam (∀ env,swapsWith (.Constant (.str x) n p) none pos.line env=pure false) aI):Ex g pl D sc E σ (.Expr (.Constant (.str x) n p) pos) .next E σ:=
  Comes.of fun c ι m s ω ω ok S R ap ht k=>wpAny_Expr (eD.on c ι m s _ _ ok S R ap ht fun v ar m₁ ah ax ω ai aq aj ak hv=>by
    refine hv.is fun ω=>?_
    exact k _ ar m₁ ah ax ai aq aj ak .next) (hi c) (hs _)
theorem bK {x:Str} {n:Nat} {p:Pos} {l:List Nat} (h:autoParam (x=S l) aR):Ev g pl D sc E σ (.Constant (.str x) n p) (T l) σ:=h▸eD
theorem e8 {x y:List Nat} (hz:x.length+y.length≤16777216):bN g pl D sc E σ (binaryOp .Add) Rep (T x) (T y) (T (x++y)) σ:=by
  have:=mj (g:=g) (pl:=pl) (D:=D) (sc:=sc) (E:=E) (σ:=σ) (x:=S x) (y:=S y) (by rw [bD,bD]; exact hz)
  rwa [xQ] at this
theorem qk {x y:List Nat} (hz:x.length+y.length≤16777216):k7 g pl D sc E σ .Add (T x) (T y) (T (x++y)) σ:=by
  have:=Kt (g:=g) (pl:=pl) (D:=D) (sc:=sc) (E:=E) (σ:=σ) (x:=S x) (y:=S y) (by rw [bD,bD]; exact hz)
  rwa [xQ] at this
theorem Lz {c n:Nat} (h:n≤100000):bN g pl D sc E σ (binaryOp .Mult) Rep (T [c]) (.int n) (T (List.replicate n c)) σ:=by
  have:=J8 (g:=g) (pl:=pl) (D:=D) (sc:=sc) (E:=E) (σ:=σ) (Ln c n h)
  rwa [mul_one] at this
theorem dH {x y:List Nat}:bN g pl D sc E σ (compareOp .Eq) Rep (T x) (T y) (.bool (x==y)) σ:=by
  have:=xu (g:=g) (pl:=pl) (D:=D) (sc:=sc) (E:=E) (σ:=σ) (x:=S x) (y:=S y)
  rwa [qa] at this
theorem ju {x y:List Nat}:bN g pl D sc E σ (compareOp .NotEq) Rep (T x) (T y) (.bool (x != y)) σ:=by
  have:=J9 (g:=g) (pl:=pl) (D:=D) (sc:=sc) (E:=E) (σ:=σ) (x:=S x) (y:=S y)
  rwa [Le] at this
theorem y2 {x:List Nat} (h:x.length≤16777216):iK (T x) (x != []):=by
  have h1:=iK.str (S x) (by rw [bD]; lia)
  have:(((S x).length:Int) != 0)=(x != []):=by
    rw [bD,Bool.eq_iff_iff]
    cases x <;> simp
    lia
  rwa [this] at h1
theorem LB {v e:Expr} {p q:Pos} {x:List Nat} {j:Nat} (hv:Ev g pl D sc E σ v (T x) σ₁) (hi:Ev g pl D sc E σ₁ e (.int j) σ₂) (hj:j≤x.length) (hx:x.length≤16777216)
    (hs:autoParam (∀ t r,subscripted (.Slice none (some e) none q) false (.str (S x) t) (.ref r)=operate [.ref r,.str (S x) t] (getItem (.str (S x) t) (.ref r))) aW)
    (hl:autoParam (∀ t r,letTemporaryGo v (.str (S x) t) r=pure ()) aW):Ev g pl D sc E σ (.Subscript v (.Slice none (some e) none q) p) (T (x.take j)) σ₂:=
  (Kl hv hi (by rw [bD]; exact hx) hs hl).cast (by rw [Lf hj])
theorem LC {v e:Expr} {p q:Pos} {x:List Nat} {j:Nat} (hv:Ev g pl D sc E σ v (T x) σ₁) (hi:Ev g pl D sc E σ₁ e (.int j) σ₂) (hj:j≤x.length) (hx:x.length≤16777216)
    (hs:autoParam (∀ t r,subscripted (.Slice (some e) none none q) false (.str (S x) t) (.ref r)=operate [.ref r,.str (S x) t] (getItem (.str (S x) t) (.ref r))) aW)
    (hl:autoParam (∀ t r,letTemporaryGo v (.str (S x) t) r=pure ()) aW):Ev g pl D sc E σ (.Subscript v (.Slice (some e) none none q) p) (T (x.drop j)) σ₂:=
  (Kk hv hi (by rw [bD]; exact hx) hs hl).cast (by rw [Lg hj])
theorem mD {v e e':Expr} {p q:Pos} {x:List Nat} {i j:Nat} (hv:Ev g pl D sc E σ v (T x) σ₁) (hi:Ev g pl D sc E σ₁ e (.int i) σ₂) (hj:Ev g pl D sc E σ₂ e' (.int j) aN) (tL:i≤j) (tM:j≤x.length) (hx:x.length≤16777216)
    (hs:autoParam (∀ t r,subscripted (.Slice (some e) (some e') none q) false (.str (S x) t) (.ref r)=operate [.ref r,.str (S x) t] (getItem (.str (S x) t) (.ref r))) aW)
    (hl:autoParam (∀ t r,letTemporaryGo v (.str (S x) t) r=pure ()) aW):Ev g pl D sc E σ (.Subscript v (.Slice (some e) (some e') none q) p) (T ((x.drop i).take (j - i))) aN:=
  (Km hv hi hj (by rw [bD]; exact hx) hs hl).cast (by rw [Lh tL tM])
theorem dU {v i:Expr} {p:Pos} {x:List Nat} {k c:Nat} (hv:Ev g pl D sc E σ v (T x) σ₁) (hi:Ev g pl D sc E σ₁ i (.int k) σ₂) (hc:x[k]?=some c) (hx:x.length≤16777216)
    (hs:autoParam (∀ t u,subscripted i false (.str (S x) t) (.int k u)=operate [.str (S x) t,.int k u] (getItem (.str (S x) t) (.int k u))) aW)
    (hl:autoParam (∀ t r,letTemporaryGo v (.str (S x) t) r=pure ()) aW):Ev g pl D sc E σ (.Subscript v i p) (T [c]) σ₂:=by
  have hk:k < x.length:=(List.getElem?_eq_some_iff.mp hc).1
  exact (xB hv hi (by unfold fitsSsize; simp; lia) (by rw [bD]; lia) (by rw [bD]; lia) hs hl).cast (by rw [item_at hc])
theorem LD {v i:Expr} {p:Pos} {x:List Nat} {c:Nat} (hv:Ev g pl D sc E σ v (T x) σ₁) (hi:Ev g pl D sc E σ₁ i (.int (-1)) σ₂) (hc:x.getLast?=some c)
    (hs:autoParam (∀ t u,subscripted i false (.str (S x) t) (.int (-1) u)=operate [.str (S x) t,.int (-1) u] (getItem (.str (S x) t) (.int (-1) u))) aW)
    (hl:autoParam (∀ t r,letTemporaryGo v (.str (S x) t) r=pure ()) aW):Ev g pl D sc E σ (.Subscript v i p) (T [c]) σ₂:=by
  have hk:x≠[]:=by rintro rfl; simp at hc
  have hk:0 < x.length:=List.length_pos_iff.mpr hk
  exact (xB hv hi (by decide) (by rw [bD]; lia) (by rw [bD]; lia) hs hl).cast (by rw [item_last hc])
theorem bI {st:Stmt} {rest:List Stmt} {fl:Fl} (h:Ex g pl D sc E σ st .next E₁ σ) (hr:ef g pl D sc E₁ σ rest fl aO σ₂):ef g pl D sc E σ (st::rest) fl aO σ₂:=p0 h hr
theorem nX {t:Expr} {body orelse:List Stmt} {pos:Pos} {b:Bool} {fl:Fl} (ht:cv g pl D sc E σ t b σ) (hy:b=true→ef g pl D sc E σ body fl aO σ₂) (hn:b=false→ef g pl D sc E σ orelse fl aO σ₂):Ex g pl D sc E σ (.If t body orelse pos) fl aO σ₂:=sO ht hy hn
theorem kj {t:Expr} {body orelse:List Stmt} {pos:Pos} {fl:Fl} (ht:cv g pl D sc E σ t true σ) (hy:ef g pl D sc E σ body fl aO σ₂):Ex g pl D sc E σ (.If t body orelse pos) fl aO σ₂:=sP ht hy
theorem cE {t:Expr} {body orelse:List Stmt} {pos:Pos} {fl:Fl} (ht:cv g pl D sc E σ t false σ) (hn:ef g pl D sc E σ orelse fl aO σ₂):Ex g pl D sc E σ (.If t body orelse pos) fl aO σ₂:=sQ ht hn
theorem ql {e:Expr} {b:Bool} (h:cv g pl D sc E σ e b σ):ft g pl D sc E σ .And [e] b σ:=by
  have:=and_cons h (c:=true) fun ω=>and_nil
  rwa [Bool.and_true] at this
theorem qm {e:Expr} {b:Bool} (h:cv g pl D sc E σ e b σ):ft g pl D sc E σ .Or [e] b σ:=by
  have:=or_cons h (c:=false) fun ω=>or_nil
  rwa [Bool.or_false] at this
theorem qn {x:List Nat} {e:Expr} {p pos:Pos} (e0:nsIn g.K mainGlobals "len"=some none) (h:Ev g pl D sc E σ e (T x) σ₁) (hx:x.length≤16777216)
    (hn:autoParam (sc.names.lookup ("len":Str)=some .globalImplicit) aK) (he:autoParam (∀ env,starEach [e] env=(false,eval e env)::starEach [] env) aI):Ev g pl D sc E σ (.Call (.Name "len" p) [e] [] pos) (.int x.length) σ₁:=
  (jj e0 (by decide+kernel) (by decide+kernel) (au h aU he) (KZ (by rw [bD]; lia)) hn (by kernel_rfl) he).cast (by rw [bD])
end
noncomputable def dW (g:Gx) (pl:Bool) (D:Nat) (f:Value) (as:List AV) (σ:Led) (P:AV→Led→Prop):Prop:=
  ∀ (c:Cx) (sc:Scope) (ι:Led) (m:Str→Option Value) (s:Shared) (vs:List Value) (Q:Value→Shared→Prop) (Er:Value→Shared→Prop),c.Ok g sc pl D→St g c (ι++σ) m s.heap→Ap c ι σ→0 < s.toks→aY ι vs as→
    (∀ v r ae U h' ao,St g c (ae++U) m h'→Ap c ae U→(∀ p∈ι,p∈ae)→Rep ae v r→P r U→Q v {s with heap:=h',toks:=ao})→
    wpAny g.M c.A (call f vs) Q Er s
section
variable {g:Gx} {pl:Bool} {D:Nat} {sc:Scope} {E E' E₁ aO:ag} {σ U σ₁ σ₂ aN:Led}
theorem dW.det {f:Value} {as:List AV} {P:AV→Led→Prop} {r:AV} (h:dW g pl D f as σ P) (hp:∀ x y,P x y→x=r∧y=U):Fn g pl D f as σ r U:=
  fun c sc ι m s vs Q Er ok S ap ht aM k=>h c sc ι m s vs Q Er ok S ap ht aM fun v r' ae bU h' ao S' aX hs hr hP=>by
    obtain ⟨rfl,rfl⟩:=hp _ _ hP
    exact k v ae h' ao S' aX hs hr
theorem Fn.toG {f:Value} {as:List AV} {P:AV→Led→Prop} {r:AV} (h:Fn g pl D f as σ r U) (hp:P r U):dW g pl D f as σ P:=
  fun c sc ι m s vs Q Er ok S ap ht aM k=>h c sc ι m s vs Q Er ok S ap ht aM fun v ae h' ao S' aX hs hr=>k v r ae U h' ao S' aX hs hr hp
theorem dX {st:Stmt} {P:Fl→ag→Led→Prop} (h:dg g pl D sc E σ st P):b0 g pl D sc E σ [st] P:=
  cJ h fun fl E₁ σ₁ hp=>by
    cases fl with
    | next=>exact bh.toG hp
    | _=>exact hp
theorem bC {st:List Stmt} {P:Fl→ag→Led→Prop} {fl:Fl} (h:ef g pl D sc E σ st fl E₁ σ₁) (hp:P fl E₁ σ₁):b0 g pl D sc E σ st P:=h.toG hp
theorem aZ {st:Stmt} {rest:List Stmt} {P:Fl→ag→Led→Prop} (h:Ex g pl D sc E σ st .next E₁ σ) (hr:b0 g pl D sc E₁ σ rest P):b0 g pl D sc E σ (st::rest) P:=nJ h hr
theorem tN {n:Nat} {p:Pos} {body:List Stmt} {pos:Pos} {P:Fl→ag→Led→Prop} (J:Nat→ag→Led→Prop)
    (step:∀ n E₁ σ₁,J n E₁ σ₁→b0 g pl D sc E₁ σ₁ body fun fl E' U=>((fl=.next∨fl=.cont)∧∃ m,m < n∧J m E' U)∨(fl=.brk∧P .next E' U)∨∃ a,fl=.ret a∧P (.ret a) E' U)
    {k:Nat} (h0:J k E σ):dg g pl D sc E σ (.While (.Constant (.bool true) n p) body [] pos) P:=
  xG J (fun n E₁ σ₁ hJ=>.inr ⟨σ₁,dw iJ (.bool true),step n E₁ σ₁ hJ⟩) h0
end
section
variable {prog:Program} {w:World} {A:Around} {s:Shared}
theorem LF {R:Result→Shared→Prop} {a:Addr} {o:Obj} {fd:FuncData} {body:List Stmt} {args:Args}
    (y3:A.depth < recursionLimit) (ho:s.heap.get? a=some o) (LG:o.data=.func fd) (cy:s.heap.CodeRec fd.code fd.qualname)
    (fv:fd.body=.stmts body)
    (jv:∀ x∈fd.scope.names,x.2≠.cell)
    (h:∀ (A':Around) (Er:Value→Shared→Prop) (Q:List (Str×Value)→Shared→Prop),(∀ binds ah,ah.NoLimit→(∀ x∈binds,fd.scope.names.lookup x.1=some .local)→(∀ h₀,h₀.Ns ah.objs.size (fun x=>binds.reverse.lookup x)→(∀ b o,ah.get? b=some o→h₀.get? b=some o)→
      wpAny (model prog w) (A.deeper (callEnv fd ah.objs.size a)) (execs body (callEnv fd ah.objs.size a)) (fun f s'=>R (.ok (.ret (match f with | .ret v=>v | _=>.none))) s')
        (fun e s'=>wpAny (model prog w) (A.deeper (callEnv fd ah.objs.size a)) (leaving (callEnv fd ah.objs.size a) e) (fun ω gE=>R (.error e) gE) (fun e' gE=>R (.error e') gE) s')
        {s with heap:=h₀,toks:=s.toks+binds.length})→Q binds {s with heap:=ah})→wpAny (model prog w) A' (bindArgs fd args) Q Er s)
    (tP:autoParam (fd.scope.isCoroutine=false) aR) (tQ:autoParam (fd.scope.isGenerator=false) aR) (hk:autoParam (fd.scope.kind=.function) aR):
    codeAny (model prog w) A (.call (.ref a) args) R s:=by
  refine codeAny_call_function y3 ho LG tP tQ fv cy (h _ _ _ fun binds ah LJ LL hw=>?_)
  refine wpAny_newFunctionEnv jv LL (fun h₀ LM y4=>⟨LJ.fresh _ y4,codeAny_func (hw h₀ LM fun b o e=>?_)⟩) hk
  exact y4.extBut b o (Nat.ne_of_lt (Heap.lt_size e)) (Heap.get?_push_of_some _ e)
end
noncomputable def nY (fd:FuncData) (args:Args) (d:Addr) (nm:Str) (x:Value) (b:List (Str×Value)):Prop:=
  ∃ K,bindArgs fd args=.load d (some (.str nm 0)) K∧∀ cl dc hs t ep sl,K ⟨cl,dc,.dict #[⟨hs,.str nm t,x⟩] ep,sl⟩=.pure b
theorem nY.to {fd:FuncData} {args:Args} {d:Addr} {nm:Str} {x:Value} {b:List (Str×Value)} {K:Frag} {s:Shared} (q:nY fd args d nm x b) (X:K.In s.heap) (hd:∃ o hs t ep,K.lookup d=some o∧o.data=.dict #[⟨hs,.str nm t,x⟩] ep):BindsTo s fd args b:=by
  obtain ⟨k,e,ek⟩:=q
  obtain ⟨o,hs,t,ep,ho,LN⟩:=hd
  intro M A E Q h
  rw [e]
  exact fun Γ p ω=>⟨o,X _ _ ho,by cases o; cases LN; rw [ek]; exact h⟩
noncomputable def ei (g:Gx) (pl:Bool) (D:Nat) (f:Value) (as:List AV) (kn:List Str) (ks:List AV) (σ:Led) (P:AV→Led→Prop):Prop:=
  ∀ (c:Cx) (sc:Scope) (ι:Led) (m:Str→Option Value) (s:Shared) (vs ws:List Value) (Q:Value→Shared→Prop) (Er:Value→Shared→Prop),c.Ok g sc pl D→St g c (ι++σ) m s.heap→Ap c ι σ→0 < s.toks→aY ι vs as→aY ι ws ks→
    (∀ v r ae U h' ao,St g c (ae++U) m h'→Ap c ae U→(∀ p∈ι,p∈ae)→Rep ae v r→P r U→Q v {s with heap:=h',toks:=ao})→
    wpAny g.M c.A (call f vs (kn.zip ws)) Q Er s
noncomputable def Binds (g:Gx) (fd:FuncData) (as:List AV) (kn:List Str) (ks:List AV) (σ:Led) (ps:List Str) (bs:List AV):Prop:=
  ∀ (c:Cx) (ι:Led) (m:Str→Option Value) (s:Shared) (vs ws:List Value) (A:Around) (Q:List (Str×Value)→Shared→Prop) (Er:Value→Shared→Prop),g.K.In s.heap→St g c (ι++σ) m s.heap→Ap c ι σ→aY ι vs as→aY ι ws ks→
    (∀ us ae h',St g c (ae++σ) m h'→Ap c ae σ→(∀ p∈ι,p∈ae)→aY ae us bs→Q (ps.zip us) {s with heap:=h'})→wpAny g.M A (bindArgs fd ⟨vs,kn.zip ws⟩) Q Er s
theorem Binds.plain {g:Gx} {fd:FuncData} {as ks bs:List AV} {kn ps:List Str} {σ:Led} (h:∀ (ι:Led) (vs ws:List Value),aY ι vs as→aY ι ws ks→∃ us,aY ι us bs∧bindArgs fd ⟨vs,kn.zip ws⟩=pure (ps.zip us)):Binds g fd as kn ks σ ps bs:=
  fun c ι m s vs ws A Q Er ω S ap hv hw k=>by
    obtain ⟨us,hu,e⟩:=h ι vs ws hv hw
    rw [e]
    exact wpAny_pure (k us ι s.heap S ap (fun ω h=>h) hu)
section
variable {g:Gx} {pl:Bool} {D:Nat} {sc:Scope} {E E' E₁ aO:ag} {σ U σ₁ σ₂ aN:Led}
theorem Binds.eq {fd:FuncData} {as:List AV} {ps:List Str} (h:∀ vs:List Value,vs.length=as.length→bindArgs fd ⟨vs,[]⟩=pure (ps.zip vs)):Binds g fd as [] [] σ ps as:=
  .plain fun ω vs ω hv ω=>⟨vs,hv,h vs hv.length⟩
theorem Binds.to {fd:FuncData} {as bs:List AV} {ps:List Str} (h:∀ (s:Shared) (ι:Led) (vs:List Value),g.K.In s.heap→aY ι vs as→∃ us,aY ι us bs∧BindsTo s fd ⟨vs,[]⟩ (ps.zip us)):Binds g fd as [] [] σ ps bs:=
  fun ω ι ω s vs ω ω ω ω kx S ap hv ω k=>let ⟨us,hu,b⟩:=h s ι vs kx hv; b _ _ _ _ (k us ι s.heap S ap (fun ω h=>h) hu)
theorem ei.toG {f:Value} {as:List AV} {P:AV→Led→Prop} (h:ei g pl D f as [] [] σ P):dW g pl D f as σ P:=
  fun c sc ι m s vs Q Er ok S ap ht aM k=>h c sc ι m s vs [] Q Er ok S ap ht aM .nil k
theorem nZ {n:Nat} {p q:Pos} {i:Int}:Ev g pl D sc E σ (.UnaryOp .USub (.Constant (.int i) n p) q) (.int (-i)) σ:=
  Comes.of fun c ι m s ω ω ok S R ap ht k=>wpAny_UnaryOp (nD.on c ι m s _ _ ok S R ap ht fun v ar m₁ ah ax ω ai aq aj ak hv=>by
    refine hv.is fun ω=>?_
    exact PyProof.Rows.neg_int (k _ ar m₁ ah _ ai aq aj ak (.int _ _)))
theorem qo {body:List Stmt} {h₀:ExceptHandler} {hs:List ExceptHandler} {pos:Pos} {P:Fl→ag→Led→Prop} (hb:b0 g pl D sc E σ body P):dg g pl D sc E σ (.Try body (h₀::hs) [] [] pos) P:=by
  refine .mk fun c ι m s Q Er ok S R ap ht k=>?_
  refine wpAny_Try_except (hb.on c ι m s _ _ ok S R ap ht fun v b E' U ae m' h' ao aQ S' R' aX bk hv hP=>?_)
  have out:=fun v b=>k v b E' U ae m' h' ao aQ S' R' aX bk
  revert hP
  exact hv.on (fun hP=>wpAny_execs_nil (out _ _ .next hP)) (out _ _ .brk) (out _ _ .cont) fun ω ω hr=>out _ _ (.ret hr)
theorem eQ {body:List Stmt} {h₀:ExceptHandler} {hs:List ExceptHandler} {pos:Pos} {fl:Fl} (hb:ef g pl D sc E σ body fl E₁ σ₁):Ex g pl D sc E σ (.Try body (h₀::hs) [] [] pos) fl E₁ σ₁:=
  (qo (P:=fun x y z=>x=fl∧y=E₁∧z=σ₁) (hb.toG ⟨rfl,rfl,rfl⟩)).det fun ω ω ω h=>h
end
end Mine
end
section
open PySem PySem.W PyProof.Rows PySem.Calls
namespace Mine
noncomputable def putL (σ:Led) (d:Addr) (o':Obj):Led:=σ.map fun p=>if p.1=d then (d,o') else p
theorem n0 (σ:Led) (d:Addr) (o':Obj):(putL σ d o').map (·.1)=σ.map (·.1):=by
  unfold putL
  rw [List.map_map]
  refine List.map_congr_left fun p ω=>?_
  show (if p.1=d then (d,o') else p).1=p.1
  split
  · exact (‹p.1=d›).symm
  · rfl
theorem LO {σ:Led} {d:Addr} {o':Obj} (h:∀ p∈σ,p.1≠d):putL σ d o'=σ:=
  (List.map_congr_left fun p hp=>if_neg (h p hp)).trans (List.map_id σ)
theorem lu {σ:Led} {d:Addr} {o o':Obj} (h:(((d,o)::σ).map (·.1)).Nodup):putL ((d,o)::σ) d o'=(d,o')::σ:=by
  rw [List.map_cons,List.nodup_cons] at h
  show (if d=d then (d,o') else _)::putL σ d o'=_
  rw [LO (σ:=σ) (d:=d) fun p hp e=>h.1 (show d∈_ from e▸List.mem_map_of_mem (f:=(·.1)) hp),if_pos rfl]
section
variable {g:Gx} {pl:Bool} {D:Nat} {sc:Scope} {E E' E₁ aO:ag} {σ U σ₁ σ₂ aN:Led}
theorem Ap.put {c:Cx} {ι:Led} {d:Addr} {o':Obj} (ap:Ap c ι σ):Ap c ι (putL σ d o'):=
  ⟨fun p hp q hq=>by
    have this:q.1∈(putL σ d o').map (·.1):=List.mem_map_of_mem (f:=(·.1)) hq
    rw [n0] at this
    have ⟨q',h1,h2⟩:=List.mem_map.mp this
    exact h2▸ap.apart p hp q' h1,by rw [n0]; exact ap.once,ap.hx⟩
theorem St.put {c:Cx} {ι:Led} {m:Str→Option Value} {h h':Heap} {d:Addr} {o o':Obj} (S:St g c (ι++σ) m h) (ap:Ap c ι σ) (hm:(d,o)∈σ) (hs:Heap.SameBut d h h') (ho:h'.get? d=some o'):St g c (ι++putL σ d o') m h':=by
  have ⟨h₀,I⟩:=S
  have hd:=I.nw _ (List.mem_append_right _ hm)
  refine I.to (I.fr.change hs hd.2.1 hd.2.2) (List.forall_mem_append.mpr ⟨fun p hp=>?_,List.forall_mem_map.mpr fun q hq=>?_⟩)
  · have:=I.nw p (List.mem_append_left _ hp)
    exact ⟨(hs.2 p.1 (ap.apart p hp _ hm)).trans this.1,this.2⟩
  · have:=I.nw q (List.mem_append_right _ hq)
    split
    · exact ⟨ho,hd.2⟩
    · exact ⟨(hs.2 q.1 ‹_›).trans this.1,this.2⟩
theorem St.opened {c:Cx} {ι:Led} {m:Str→Option Value} {h:Heap} (S:St g c (ι++σ) m h) (ap:Ap c ι σ) (o:Obj) (hf:autoParam (o.isFreed=false) aR):St g c (ι++(h.objs.size,o)::σ) m (h.push o)∧Ap c ι ((h.objs.size,o)::σ):=by
  have ⟨h₀,I⟩:=S
  have N:=I.nw.push I.fr o hf
  refine ⟨I.to (I.fr.push _) (List.forall_mem_append.mpr ⟨fun p hp=>N p (.tail _ (List.mem_append_left _ hp)),List.forall_mem_cons.mpr ⟨N _ (.head _),fun p hp=>N p (.tail _ (List.mem_append_right _ hp))⟩⟩),
    ⟨fun p hp=>List.forall_mem_cons.mpr ⟨fun e=>I.fresh p (List.mem_append_left _ hp) e.symm,ap.apart p hp⟩,List.nodup_cons.mpr ⟨fun hm=>?_,ap.once⟩,ap.hx⟩⟩
  have ⟨q,hq,e⟩:=List.mem_map.mp hm
  exact I.fresh q (List.mem_append_right _ hq) e.symm
theorem St.dropped {c:Cx} {ι:Led} {m:Str→Option Value} {h:Heap} {p:Addr×Obj} (S:St g c (ι++p::σ) m h):St g c (ι++σ) m h:=
  have ⟨_,I⟩:=S
  I.to I.fr (List.forall_mem_append.mpr ⟨fun q hq=>I.nw q (List.mem_append_left _ hq),fun q hq=>I.nw q (List.mem_append_right _ (.tail _ hq))⟩)
theorem Ap.dropped {c:Cx} {ι:Led} {p:Addr×Obj} (ap:Ap c ι (p::σ)):Ap c ι σ:=
  ⟨fun a ha b hb=>ap.apart a ha b (.tail _ hb),(List.nodup_cons.mp ap.once).2,ap.hx⟩
theorem aY.laid {ι:Led} {as₁ as₂ l:List AV} {vs:List Value} (aM:aY ι vs (as₁++.lst l::as₂)):∃ r,aY ι vs (as₁++.at r (.lst l)::as₂):=by
  induction as₁ generalizing vs with
  | nil=>exact aM.on fun v ω h t=>h.jf fun r o us hm ho hr=>⟨r,.cons (.at (.lst hm ho hr)) t⟩
  | cons a as₁ ih=>exact aM.on fun v ω h t=>(ih t).imp fun r q=>.cons h q
theorem ei.at {f:Value} {as₁ as₂ l:List AV} {kn:List Str} {ks:List AV} {P:AV→Led→Prop} (h:∀ r,ei g pl D f (as₁++.at r (.lst l)::as₂) kn ks σ P):ei g pl D f (as₁++.lst l::as₂) kn ks σ P:=by
  intro c sc ι m s vs ws Q Er ok S ap ht aM jw k
  have:=aM.laid
  obtain ⟨r,hr⟩:=this
  exact h r c sc ι m s vs ws Q Er ok S ap ht hr jw k
noncomputable abbrev fC (r:Addr) (i:Nat):Obj:={cls:=.type "list_iterator",data:=.fields #[.ref r,.int i 0]}
section
variable {prog:Program} {w:World} {A:Around} {Er:Value→Shared→Prop} {s:Shared}
theorem LP {l:Addr} {items:Array Value} {Q:Value→Shared→Prop} (hl:s.heap.IsList l items) (h:Q (.ref s.heap.objs.size) {s with heap:=s.heap.push (fC l 0)}):
    wpAny (model prog w) A (call (.builtin "iter") [.ref l]) Q Er s:=by
  refine call_function_entry (by decide+kernel) (by decide+kernel) kdk_entry_iter (kdk_args_iter _) ?_
  unfold Builtin.«iter»
  refine wpAny_bind (m:=someArgs "iter" 1 2 _) (wpAny_of_eq (a:=[Value.ref l]) (by first | rfl | kernel_rfl!) ?_)
  show wpAny _ _ (pyIter (.ref l) >>= _) _ _ _
  refine wpAny_bind (wpAny_pyIter_list hl ?_)
  exact wpAny_pure ⟨_,rfl,h⟩
theorem LQ {it l:Addr} {i:Nat} {items:Array Value} {x:Value} {Q:Value→Shared→Prop} (ho:s.heap.get? it=some (fC l i)) (hl:s.heap.IsList l items) (hx:items[i]?=some x)
    (h:∀ h',h'.get? it=some (fC l (i+1))→Heap.SameBut it s.heap h'→Q x {s with heap:=h'}):wpAny (model prog w) A (call (.builtin "next") [.ref it]) Q Er s:=by
  have hit:s.heap.IsListIter it l i:=⟨_,ho,rfl,rfl⟩
  have hd:(fC l i).data=.fields #[.ref l,.int i 0]:=rfl
  obtain ⟨ol,sX,_,nl,lq⟩:=hl
  refine call_function_entry (by decide+kernel) (by decide+kernel) kdk_entry_next (kdk_args_next _) ?_
  unfold Builtin.«next»
  refine wpAny_bind (m:=someArgs "next" 1 2 _) (wpAny_of_eq (a:=[Value.ref it]) (by first | rfl | kernel_rfl!) ?_)
  dsimp only
  refine wpAny_bind (wpAny_specialOf (name:=Str.ofString "__next__") hit.typeIs slot_listiter_next.lookup ?_)
  refine wpAny_ite_split (fun e9=>absurd e9 (by decide)) (fun ω=>?_)
  refine wpAny_bind (wpAny_callSpecial?_slot (name:=Str.ofString "__next__") hit.typeIs slot_listiter_next
    (wpAny_call_entry slot_listiter_next hit.typeIs entry_listiter_next ?_ (args_listiter_next _)))
  show wpAny _ _ (field (.ref it) 0 >>= _) _ _ s
  refine wpAny_bind (wpAny_field ho hd (x:=.ref l) rfl ?_)
  show wpAny _ _ (if (Value.ref l==Value.none)=true then _ else _) _ _ s
  rw [if_neg (show ¬ ((Value.ref l==Value.none)=true) from Bool.false_ne_true)]
  show wpAny _ _ (field (.ref it) 1 >>= _) _ _ s
  refine wpAny_bind (wpAny_field ho hd (x:=.int i 0) rfl ?_)
  show wpAny _ _ (seqItems? (.ref l) >>= _) _ _ s
  refine wpAny_bind (wpAny_seqItems sX lq ?_)
  simp only [Int.toNat_natCast,hx]
  refine wpAny_bind (wpAny_setField ho hd (by simp) (wpAny_pure ⟨x,rfl,wpAny_pure ⟨_,rfl,h _ ?_ (Heap.SameBut.update ..)⟩⟩))
  rw [Heap.get?_update_self _ ho (Obj.isFreed_of_fields (Obj.data_mapFields hd _))]
  simp [Obj.mapFields,fC,rawInt]
end
end
end Mine
end
section
open PySem PySem.W PyProof.Rows
namespace Mine
section
variable {g:Gx} {pl:Bool} {D:Nat} {sc:Scope} {E E' E₁ aO:ag} {σ U σ₁ σ₂ aN:Led}
theorem n5 {x:Str} {p' pos:Pos} {e:Expr} {P:AV→ag→Led→Prop} {P':Fl→ag→Led→Prop} (hv:sM g pl D sc E σ e P) (hP:∀ a E₁ σ₁,P a E₁ σ₁→∃ E',Upd x a E₁ E'∧P' .next E' σ₁) (hk:autoParam (sc.names.lookup x=some .local) aK)
    (hs:autoParam (∀ env,swapsWith e (some (.Name x p')) pos.line env=pure false) aI):dg g pl D sc E σ (.Assign [.Name x p'] e pos) P':=by
  refine .mk fun c ι m s Q Er ok S R ap ht k=>?_
  refine wpAny_Assign_Name (hv.on c ι m s _ _ ok S R ap ht fun v a E₁ σ₁ ar m₁ ah ax av ai aq aj ak hv hp=>?_) (hs _)
  obtain ⟨E',hu,tR⟩:=hP _ _ _ hp
  exact fq ok ai hk fun h' S'=>k .next _ E' σ₁ ar _ h' _ (Nat.succ_pos _) S' (aq.upd hu hv) aj ak .next tR
theorem LR {e:Expr} {p pos:Pos} {r:Addr} {l:List AV} (e0:nsIn g.K mainGlobals "iter"=some none) (h:Ev g pl D sc E σ e (.at r (.lst l)) σ₁) (hn:autoParam (sc.names.lookup ("iter":Str)=some .globalImplicit) aK)
    (he:autoParam (∀ env,starEach [e] env=(false,eval e env)::starEach [] env) aI):sM g pl D sc E σ (.Call (.Name "iter" p) [e] [] pos) fun b E' U=>∃ I,b=.val (.ref I)∧E'=E∧U=(I,fC r 0)::σ₁:=by
  refine .mk fun c ι m s Q Er ok S R' ap ht k=>?_
  refine wpAny_Call_NameR ((gC (v:=.builtin "iter") e0 (by decide+kernel) (by decide+kernel) hn (by kernel_rfl)).on c ι m s _ _ ok S R' ap ht fun v ar m₁ ah ax av ai aq aj ak hv=>?_)
  refine hv.is ?_
  refine PyProof.Rows.callWith_builtin1 ((au h aU he pos).on c ar m₁ _ _ _ ok ai aq aj av fun vs aG m₂ aB a9 a8 aw aC ay aA aM=>?_) (he _) rfl
  refine aM.dS fun v hv=>hv.sC fun o us hm ho hr=>?_
  have hg:aB.get? r=some o:=by obtain ⟨h₀,I⟩:=aw; exact (I.nw _ (List.mem_append_left _ hm)).1
  refine LP (items:=us.toArray) ⟨_,hg,ho.1,ho.2.2⟩ ?_
  obtain ⟨bj,bp⟩:=aw.opened ay (fC r 0)
  exact k _ _ E _ aG m₂ _ _ a8 bj aC bp (fun p hp=>aA p (ak p hp)) (.val _) ⟨_,rfl,rfl,rfl⟩
theorem LS {e:Expr} {p pos:Pos} {y:Str} {r I:Addr} {i:Nat} {l:List AV} {a:AV} (e0:nsIn g.K mainGlobals "next"=some none) (hy:fA y (.at r (.lst l)) E) (h:Ev g pl D sc E σ e (.val (.ref I)) ((I,fC r i)::σ₁)) (ha:l[i]?=some a) (hn:autoParam (sc.names.lookup ("next":Str)=some .globalImplicit) aK)
    (he:autoParam (∀ env,starEach [e] env=(false,eval e env)::starEach [] env) aI):Ev g pl D sc E σ (.Call (.Name "next" p) [e] [] pos) a ((I,fC r (i+1))::σ₁):=by
  refine Comes.of fun c ι m s Q Er ok S R' ap ht k=>?_
  refine wpAny_Call_NameR ((gC (v:=.builtin "next") e0 (by decide+kernel) (by decide+kernel) hn (by kernel_rfl)).on c ι m s _ _ ok S R' ap ht fun v ar m₁ ah ax av ai aq aj ak hv=>?_)
  refine hv.is ?_
  refine PyProof.Rows.callWith_builtin1 ((au h aU he pos).on c ar m₁ _ _ _ ok ai aq aj av fun vs aG m₂ aB a9 a8 aw aC ay aA aM=>?_) (he _) rfl
  refine aM.dS fun v hv=>?_
  refine hv.is ?_
  have ⟨w,hw,tS⟩:=aC.at_ _ _ hy.mem
  refine tS.sC (M:=fun ω=>_) fun o us hm ho hr=>?_
  have hg:aB.get? r=some o:=by obtain ⟨h₀,I⟩:=aw; exact (I.nw _ (List.mem_append_left _ hm)).1
  have hI:aB.get? I=some (fC r i):=by obtain ⟨h₀,V⟩:=aw; exact (V.nw _ (List.mem_append_right _ (.head _))).1
  obtain ⟨u,hu,LU⟩:=hr.get ha
  refine LQ (items:=us.toArray) hI ⟨_,hg,ho.1,ho.2.2⟩ (x:=u) (by simpa using hu) fun h' bW bk=>?_
  have bj:=aw.put ay (.head _) bk bW
  have bp:Ap c aG (putL ((I,fC r i)::σ₁) I (fC r (i+1))):=ay.put
  rw [lu ay.once] at bj bp
  exact k u aG m₂ h' _ bj aC bp (fun p hp=>aA p (ak p hp)) LU
theorem LV {r:Addr}:bN g pl D sc E σ (compareOp .Is) Rep (.val (.ref r)) (.val (.ref r)) (.bool true) σ:=by
  intro v u; refine .mk fun c ι m s Q Er ok S R ap ht pr k=>?_
  obtain ⟨h1,h2⟩:=pr
  refine h1.is ?_; refine h2.is ?_
  exact wpAny_is_ref_self (k _ ι m s.heap s.toks S R ap (fun p h=>h) (.bool _))
theorem LW {e:Expr} {x y:Str} {px pos:Pos} {body:List Stmt} {l:List AV} {r I:Addr} {i:Nat} {P:Fl→ag→Led→Prop} (J:Nat→ag→Led→Prop) (hy:fA y (.at r (.lst l)) E) (hi:i≤l.length) (he:Ev g true D sc E σ e (.val (.ref I)) ((I,fC r i)::σ₁)) (h0:J 0 E σ₁) (fv:lg g true D sc x body (l.drop i) P J) (gm:∀ E' U,J (l.length - i) E' U→P .next E' U)
    (hk:autoParam (sc.names.lookup x=some .local) aK) (hs:autoParam (∀ env v,foldedSetIterable e env v=pure v) aJ):dg g true D sc E σ (.For (.Name x px) e body [] pos) P:=by
  refine .mk fun c ι m s Q Er ok S R ap ht k=>?_
  refine wpAny_For (he.on c ι m s _ _ ok S R ap ht fun v ar m₁ ah ax av ai aq aj ak hv=>?_) (hs _)
  refine hv.is ?_
  have ⟨w,hw,tS⟩:=aq.at_ _ _ hy.mem
  refine tS.sC (M:=fun ω=>_) fun o us hm ho hr=>?_
  have aw:=ai.dropped
  obtain ⟨h₀,V⟩:=ai
  obtain ⟨eE,V'⟩:=aw
  have hg:=(V.nw _ (List.mem_append_left _ hm)).1
  have hI:=V.nw _ (List.mem_append_right _ (.head _))
  have hl:ah.IsList r us.toArray:=⟨_,hg,ho.1,ho.2.2⟩
  have hit:ah.IsListIter I r i:=⟨_,hI.1,rfl,rfl⟩
  refine wpAny_pyIter_listiter hit ?_
  have aT:r≠I:=fun q=>aj.apart _ hm _ (.head _) q
  have hW:=kun_shift (Walks.list (prog:=g.prog) (w:=g.w) (A:=c.A) ok.hn I r aT us.toArray) (k:=i) (by rw [List.size_toArray,hr.length]; exact hi)
  have LX:Inv g c (ar++σ₁) m₁ h₀ ah:=V.next V.fr fun p hp=>V.nw p (by
    rcases List.mem_append.mp hp with hp | hp
    · exact List.mem_append_left _ hp
    · exact List.mem_append_right _ (.tail _ hp))
  refine sS (P:=P) (σ:=σ₁) (m:=m₁) (xs:=l.drop i) (h₀:=h₀) J ok ok.nQ (I:=I) (fp:=[I,r]) (V:=fun j v=>us.toArray[i+j]?=some v) (cq:=fun j h=>h.IsListIter I r (i+j)∧h.IsList r us.toArray) ⟨?_,fun j h st=>?_,fun j v hj hV=>?_,fun b hb=>?_⟩ LX hI.2.2 hI.2.1 (fun p hp e=>?_) ⟨hit,hl⟩ aq aj.dropped av hk h0 fv (by rw [List.length_drop]; exact gm) ?_
  · have e:(l.drop i).length=us.toArray.size - i:=by rw [List.length_drop,List.size_toArray,hr.length]
    rw [e]; exact hW
  · obtain ⟨o,ho,hc,_⟩:=st.1
    exact ⟨o,ho,mw (by rw [hc]; decide) (by rw [hc]; decide)⟩
  · rw [List.getElem?_drop]
    exact hr.get' (by rw [←List.getElem?_toArray]; exact hV)
  · exact (List.mem_cons.mp hb).elim .inl fun q=>.inr (.inl ⟨_,List.mem_singleton.mp q▸hm⟩)
  · rcases List.mem_append.mp hp with hp | hp
    · exact aj.apart p hp _ (.head _) e
    · have:=aj.once
      rw [List.map_cons,List.nodup_cons] at this
      exact this.1 (e▸List.mem_map_of_mem (f:=(·.1)) hp)
  · intro f b E' U ae m' h' ao aQ S' R' aX bk hf hP
    exact k f b E' U ae m' h' ao aQ S' R' aX (fun p hp=>bk p (ak p hp)) hf hP
theorem y5 {x:Str} {p pos:Pos} {e:Expr} {es:List Expr} {as:List AV} {f:Addr} {r:AV} (hx:fA x (.val (.ref f)) E) (hk:keepIn g.K (.ref f)=true) (dq:ee g pl D sc E σ (e::es) as σ₁) (cP:Fn g pl D (.ref f) as σ₁ r σ₂)
    (hn:autoParam (sc.names.lookup x=some .local) aK) (hd:autoParam ((x==("__debug__":Str))=false) aK)
    (he:autoParam (∀ env,starEach (e::es) env=(false,eval e env)::starEach es env) aI) (cW:autoParam (∀ pos env,(backTo pos (starEach es env)).any (·.1)=false) aJ):
    Ev g pl D sc E σ (.Call (.Name x p) (e::es) [] pos) r σ₂:=by
  refine Comes.of fun c ι m s Q Er ok S R' ap ht k=>?_
  refine wpAny_Call_NameR ((nC hx.mem hn hd).on c ι m s _ _ ok S R' ap ht fun v ar m₁ ah ax av ai aq aj ak hv=>?_)
  refine hv.is ?_
  obtain ⟨h₀,dR⟩:=ai
  refine callWith_K (ok.kh dR) hk ((dq pos).on c ar m₁ _ _ _ ok ⟨h₀,dR⟩ aq aj av fun vs aG m₂ aB a9 a8 aw aC ay aA aM=>?_) (he _) (cW _ _)
  obtain ⟨e7,b9⟩:=aw
  refine ⟨ok.kh b9,cP c sc aG m₂ _ _ _ _ ok ⟨e7,b9⟩ ay a8 aM fun v br bu bx bj bp bo b8=>?_⟩
  exact k v br m₂ bu bx bj (aC.mono bo) bp (fun p hp=>bo p (aA p (ak p hp))) b8
end
end Mine
end
section
open PySem PySem.W PyProof.Rows PySem.Calls
namespace Mine
structure Kept (aP:List Addr) (h h':Heap):Prop where
  rest:∀ b o,h.get? b=some o→b∉aP→h'.get? b=some o
  up:∀ b o,h.get? b=some o→b∈aP→∃ sl,h'.get? b=some {o with slots:=sl}
theorem Kept.of {aP:List Addr} {h h':Heap} (k:∀ b o,h.get? b=some o→h'.get? b=some o):Kept aP h h':=⟨fun b o e ω=>k b o e,fun b o e ω=>⟨o.slots,k b o e⟩⟩
theorem Kept.any {aP:List Addr} {h h':Heap} (k:Kept aP h h') {b:Addr} {o:Obj} (e:h.get? b=some o):∃ sl,h'.get? b=some {o with slots:=sl}:=by
  by_cases q:b∈aP
  · exact k.up b o e q
  · exact ⟨o.slots,k.rest b o e q⟩
theorem Kept.trans {aP:List Addr} {ah aB bu:Heap} (x:Kept aP ah aB) (y:Kept aP aB bu):Kept aP ah bu:=
  ⟨fun b o e n=>y.rest b o (x.rest b o e n) n,fun b o e q=>let ⟨_,gk⟩:=x.up b o e q; let ⟨sl,p9⟩:=y.up b _ gk q; ⟨sl,p9⟩⟩
theorem Kept.more {aP y6:List Addr} {h h':Heap} (k:Kept aP h h') (hs:∀ b∈aP,b∈y6):Kept y6 h h':=
  ⟨fun b o e n=>k.rest b o e fun q=>n (hs b q),fun b o e ω=>k.any e⟩
noncomputable def eR (c:Cx):List Addr:=c.L::c.outer.filterMap (·.frame)
theorem y7 {base h h':Heap} {aP:List Addr} {l:List Env} (k:Kept aP h h') (x:h.FunFrames base l):h'.FunFrames base l:=
  x.of_keeps fun b o e ω=>let ⟨_,e'⟩:=k.any e; ⟨_,e',rfl⟩
theorem LY {g:Gx} {c:Cx} {news:Led} {m:Str→Option Value} {h₀ h h':Heap} {aP ex:List Addr} (I:Inv g c news m h₀ h) (K:Kept aP h h') (hh:∀ b∈aP,b∈eR c∨c.L < b) (hn:∀ p∈news,p.1∉aP) (hx:∀ b∈ex,h.get? b=none):∃ ah,Inv g c news m ah h'∧∀ b∈ex,ah.get? b=none:=by
  obtain ⟨oL,es,ep,hL,Xl,Xm,Xn⟩:=id I.fr.ns
  have lt:∀ {b:Addr} {o:Obj},h₀.get? b=some o→b < c.L:=fun e=>Nat.lt_of_lt_of_le (Heap.lt_size e) I.fr.above
  have pX:∀ b o,h₀.get? b=some o→b∉news.map (·.1):=fun b o e q=>by
    obtain ⟨p,hp,rfl⟩:=List.mem_map.mp q
    rw [(I.nw p hp).2.2] at e; cases e
  obtain ⟨Xo,eL⟩:=K.any hL
  have nx:∀ {b:Addr} {o:Obj},h₀.get? b=some o→b∉news.map (·.1)++ex:=fun {b o} e q=>by
    rcases List.mem_append.mp q with q | q
    · exact pX b o e q
    · have:=hx b q; rw [I.fr.keep b o e] at this; cases this
  have LZ:∀ env∈c.outer,∀ b∈news.map (·.1)++ex,env.frame≠some b:=fun env he b hb hf=>by
    obtain ⟨pY,hB,sJ,nI⟩:=funFrames_in I.bl.frames env he
    rw [sJ] at hf
    exact nx nI ((Option.some.inj hf:pY=b)▸hb)
  refine ⟨trunc (hideAll h' (news.map (·.1)++ex)) c.L,⟨⟨xx I.fr.ns hL h' eL,fun b o e=>of_hideAll _ (sF e),xv _ _⟩,fun p hp=>⟨K.rest _ _ (I.nw p hp).1 (hn p hp),(I.nw p hp).2.1,sG (hideAll_none _ (List.mem_append_left _ (List.mem_map_of_mem hp)))⟩,⟨I.bl.stack,fun b o e=>?_,?_⟩,fun p hp=>?_⟩,fun b hb=>sG (hideAll_none _ (List.mem_append_right _ hb))⟩
  · have hH:=I.bl.stays b o e
    have nh:b∉aP:=fun q=>by
      rcases hh b q with q | q
      · rcases List.mem_cons.mp q with rfl | q
        · exact Nat.lt_irrefl _ (lt hH)
        · have:=(I.bl.frames.mem q).1
          rw [this] at e; cases e
      · exact Nat.lt_irrefl _ (Nat.lt_trans q (lt hH))
    exact nH (lt hH) (hideAll_get _ (K.rest b o (I.fr.keep b o hH) nh) (nx hH))
  · refine xy I.fr.above (funFrames_hideAll (y7 K (I.bl.frames.of_keeps fun b o e ω=>⟨o,I.fr.keep b o e,rfl⟩)) LZ) I.bl.frames
  · obtain ⟨sl,hH⟩:=I.fo p hp
    obtain ⟨n6,e'⟩:=K.any (I.fr.keep _ _ hH)
    exact ⟨n6,nH (lt hH) (hideAll_get _ e' (nx hH))⟩
structure Fx (aP:List Addr) (h h':Heap) (e T:Addr) (cls:Value) (vs:Array Value) (fl:Value):Prop where
  k:Kept aP h h'
  ex:∃ oe,h'.get? e=some oe∧oe.cls=cls∧oe.data=.fields vs
  v1:vs[1]?=some (.ref T)
  v2:vs[2]?=some .none
  tb:∃ oT ts,h'.get? T=some oT∧oT.data=.fields ts∧ts[3]?=some fl
  ne:T≠e
  jx:h.get? e=none
  y8:h.get? T=none
structure tU (aP:List Addr) (h h':Heap) (e:Addr) (cls:Value) (vs:Array Value):Prop where
  k:Kept aP h h'
  ex:∃ oe,h'.get? e=some oe∧oe.cls=cls∧oe.data=.fields vs
  v1:vs[1]?=some .none
  v2:vs[2]?=some .none
  jx:h.get? e=none
noncomputable def emp:Heap:=⟨#[],{}⟩
theorem L4 (b:Addr):emp.get? b=none:=by unfold emp Heap.get?; simp
theorem y9 {base h:Heap}:∀ {l:List Env},h.FunFrames base l→h.FunFrames emp l
  | [],_=>trivial
  | env::_,⟨hk,⟨L,o,hf,_,ho,hd⟩,hr⟩=>⟨hk,⟨L,o,hf,L4 L,ho,hd⟩,y9 hr⟩
section
variable {M:Model} {A:Around} {E:Value→Shared→Prop} {s:Shared}
theorem za {env:Env} {outer:List Env} {L e:Addr} {oe:Obj} {vs:Array Value} {head:Value} {L5:Bool} {aP:List Addr} {Q:Unit→Shared→Prop}
    (dz:A.frames=some (env::outer)) (hl:s.heap.FunFrames emp (env::outer)) (hf:env.frame=some L) (gp:∀ b∈(env::outer).filterMap (·.frame),b∈aP) (he:s.heap.get? e=some oe) (hd:oe.data=.fields vs) (bX:1 < vs.size)
    (h:∀ h' T,(∀ b o,b≠e→s.heap.get? b=some o→(b∉aP→h'.get? b=some o)∧∃ sl,h'.get? b=some {o with slots:=sl})→(∃ mE,h'.get? e=some mE∧mE.cls=oe.cls∧mE.data=.fields (vs.setIfInBounds 1 (.ref T)))→
      (∃ oT ts,h'.get? T=some oT∧oT.data=.fields ts∧ts[3]?=some (rawInt L))→T≠e→s.heap.get? T=none→Q () {s with heap:=h'}):
    wpAny M A (do let a ←frameOf env; let pl ←entryPlaceOf L L5; let b ←EntryCells.newEntry head a .none (rawInt L) .none pl; setField (.ref e) 1 b) Q E s:=by
  have L6:e∉(env::outer).filterMap (·.frame):=fun hm=>by
    obtain ⟨_,o,ho,n7⟩:=hl.mem hm
    rw [he] at ho; cases ho; exact n7 vs hd
  refine wpAny_bind (wpAny_frameOf_fun dz hl hf fun ah ak=>?_)
  refine wpAny_bind (wpAny_entryPlaceOf fun pl jy=>?_)
  unfold EntryCells.newEntry newFields
  refine wpAny_bind (wpAny_newObj_type ?_ (jy.sizeOk5 _ _ _ _ _))
  have tV:ah.get? e=some oe:=(ak.2.1 e L6).trans he
  have zb:ah.objs.size≠e:=Nat.ne_of_gt (Heap.lt_size tV)
  refine wpAny_setField (Heap.get?_push_of_some _ tV) hd bX (h _ ah.objs.size (fun b o L7 hb=>?_) ?_ ?_ zb ?_)
  · have st:∀ (x o':Obj),ah.get? b=some o'→((ah.push x).update e (Obj.mapFields (·.setIfInBounds 1 (Value.ref ah.objs.size)))).get? b=some o':=fun x o' dY=>(Heap.get?_update_other _ _ (Ne.symm L7)).trans (Heap.get?_push_of_some _ dY)
    refine ⟨fun nh=>st _ o ((ak.2.1 b fun q=>nh (gp b q)).trans hb),?_⟩
    obtain ⟨sl,hs⟩:=ak.2.2 b o hb
    exact ⟨sl,st _ _ hs⟩
  · have cg:=Obj.data_mapFields hd (·.setIfInBounds 1 (Value.ref ah.objs.size))
    exact ⟨_,Heap.get?_update_self _ (Heap.get?_push_of_some _ tV) (Obj.isFreed_of_fields cg),Obj.cls_mapFields _ _,cg⟩
  · refine ⟨_,_,(Heap.get?_update_other _ _ (Ne.symm zb)).trans (Heap.get?_push_size ah rfl),rfl,?_⟩
    rcases jy with rfl | ⟨_,_,_,_,_,_,_,rfl⟩ <;> simp
  · cases q:s.heap.get? ah.objs.size with
    | none=>rfl
    | some o=>exact absurd (Heap.lt_size q) (by rw [ak.1]; exact Nat.lt_irrefl _)
end
theorem Kept.new {aP:List Addr} {h h':Heap} {b:Addr} (k:Kept aP h h') (e:h'.get? b=none):h.get? b=none:=by
  cases q:h.get? b with
  | none=>rfl
  | some o=>obtain ⟨_,e'⟩:=k.any q; rw [e] at e'; cases e'
section
variable {M:Model} {A:Around} {E:Value→Shared→Prop} {s:Shared} {aP:List Addr} {h:Heap} {env:Env} {outer:List Env} {L e T:Addr} {cls fl:Value} {vs:Array Value} {Q:Unit→Shared→Prop}
theorem zc (dz:A.frames=some (env::outer)) (hl:s.heap.FunFrames emp (env::outer)) (hf:env.frame=some L) (gp:∀ b∈(env::outer).filterMap (·.frame),b∈aP) (N:tU aP h s.heap e cls vs)
    (k:∀ h' T dA,dA[0]?=vs[0]?→Fx aP h h' e T cls dA (rawInt L)→Q () {s with heap:=h'}):wpAny M A (noteFrame (.ref e) env) Q E s:=by
  obtain ⟨oe,he,ij,hd⟩:=N.ex
  have bX:1 < vs.size:=(Array.getElem?_eq_some_iff.mp N.v1).1
  unfold noteFrame
  simp only [hf]
  refine wpAny_bind (wpAny_field he hd N.v1 ?_)
  rw [if_neg (by decide)]
  refine za dz hl hf gp he hd bX fun h' T k1 k2 k3 k4 k5=>?_
  obtain ⟨mE,q1,q2,q3⟩:=k2
  have aT:∀ b o,h.get? b=some o→b≠e:=fun b o hb q=>by rw [q,N.jx] at hb; cases hb
  refine k h' T _ (by rw [Array.getElem?_setIfInBounds_ne (by decide)]) ⟨⟨fun b o hb nh=>(k1 b o (aT b o hb) (N.k.rest b o hb nh)).1 nh,fun b o hb hh=>?_⟩,⟨mE,q1,q2.trans ij,q3⟩,by simp [bX],?_,k3,k4,N.jx,N.k.new k5⟩
  · obtain ⟨sl,e1⟩:=N.k.up b o hb hh
    obtain ⟨n6,e2⟩:=(k1 b _ (aT b o hb) e1).2
    exact ⟨n6,e2⟩
  · rw [Array.getElem?_setIfInBounds_ne (by decide)]; exact N.v2
theorem zd (hf:env.frame=some L) (X:Fx aP h s.heap e T cls vs (rawInt L)) (k:Q () s):wpAny M A (noteFrame (.ref e) env) Q E s:=by
  obtain ⟨oe,he,ij,hd⟩:=X.ex
  obtain ⟨oT,ts,hT,jz,h3⟩:=X.tb
  unfold noteFrame
  simp only [hf]
  refine wpAny_bind (wpAny_field he hd X.v1 ?_)
  rw [if_pos (show (Value.ref T != Value.none)=true from by simp)]
  refine wpAny_bind (wpAny_field hT jz h3 ?_)
  rw [if_pos (show (rawInt L==rawInt L)=true from by simp)]
  exact wpAny_pure k
theorem Fx.zf {s':Heap} (X:Fx aP h s' e T cls vs fl) (v:Value):Fx aP h (s'.update T (Obj.mapFields (·.setIfInBounds 3 v))) e T cls vs v:=by
  obtain ⟨oe,he,ij,hd⟩:=X.ex
  obtain ⟨oT,ts,hT,jz,h3⟩:=X.tb
  have bX:3 < ts.size:=(Array.getElem?_eq_some_iff.mp h3).1
  have cg:=Obj.data_mapFields jz (·.setIfInBounds 3 v)
  have aT:∀ b o,h.get? b=some o→T≠b:=fun b o hb q=>by rw [←q,X.y8] at hb; cases hb
  refine ⟨⟨fun b o hb nh=>(Heap.get?_update_other _ _ (aT b o hb)).trans (X.k.rest b o hb nh),fun b o hb hh=>?_⟩,⟨oe,(Heap.get?_update_other _ _ X.ne).trans he,ij,hd⟩,X.v1,X.v2,⟨_,_,Heap.get?_update_self _ hT (Obj.isFreed_of_fields cg),cg,by simp [bX]⟩,X.ne,X.jx,X.y8⟩
  obtain ⟨sl,e1⟩:=X.k.up b o hb hh
  exact ⟨sl,(Heap.get?_update_other _ _ (aT b o hb)).trans e1⟩
theorem kl {f:Option Addr} (X:Fx aP h s.heap e T cls vs fl) (k:∀ h',Fx aP h h' e T cls vs (f.elim .none fun f=>rawInt f)→Q () {s with heap:=h'}):wpAny M A (setFlight (.ref e) f) Q E s:=by
  obtain ⟨oe,he,ij,hd⟩:=X.ex
  obtain ⟨oT,ts,hT,jz,h3⟩:=X.tb
  unfold setFlight
  refine wpAny_bind (wpAny_field he hd X.v1 ?_)
  rw [if_pos (show (Value.ref T != Value.none)=true from by simp)]
  exact wpAny_setField hT jz (Array.getElem?_eq_some_iff.mp h3).1 (k _ (X.zf _))
theorem zg (dz:A.frames=some (env::outer)) (hl:s.heap.FunFrames emp (env::outer)) (hf:env.frame=some L) (gp:∀ b∈(env::outer).filterMap (·.frame),b∈aP) (X:Fx aP h s.heap e T cls vs .none)
    (k:∀ h' T dA,dA[0]?=vs[0]?→Fx aP h h' e T cls dA (rawInt L)→Q () {s with heap:=h'}):wpAny M A (noteFrame (.ref e) env) Q E s:=by
  obtain ⟨oe,he,ij,hd⟩:=X.ex
  obtain ⟨oT,ts,hT,jz,h3⟩:=X.tb
  have bX:1 < vs.size:=(Array.getElem?_eq_some_iff.mp X.v1).1
  unfold noteFrame
  simp only [hf]
  refine wpAny_bind (wpAny_field he hd X.v1 ?_)
  rw [if_pos (show (Value.ref T != Value.none)=true from by simp)]
  refine wpAny_bind (wpAny_field hT jz h3 ?_)
  rw [if_neg (show ¬ ((Value.none==rawInt L)=true) from by simp [rawInt])]
  refine wpAny_bind (wpAny_setField hT jz (Array.getElem?_eq_some_iff.mp h3).1 ?_)
  have X':=X.zf .none
  obtain ⟨mE,iO,L8,cg⟩:=X'.ex
  refine za dz (hl.of_keeps fun b o hb n7=>⟨o,(Heap.get?_update_other _ _ fun q=>?_).trans hb,rfl⟩) hf gp iO cg bX fun h' T' k1 k2 k3 k4 k5=>?_
  · rw [←q,hT] at hb; cases hb; exact n7 ts jz
  · obtain ⟨gF,q1,q2,q3⟩:=k2
    have aT:∀ b o,h.get? b=some o→b≠e:=fun b o hb q=>by rw [q,X.jx] at hb; cases hb
    refine k h' T' _ (by rw [Array.getElem?_setIfInBounds_ne (by decide)]) ⟨⟨fun b o hb nh=>(k1 b o (aT b o hb) (X'.k.rest b o hb nh)).1 nh,fun b o hb hh=>?_⟩,⟨gF,q1,q2.trans L8,q3⟩,by simp [bX],?_,k3,k4,X.jx,X'.k.new k5⟩
    · obtain ⟨sl,e1⟩:=X'.k.up b o hb hh
      obtain ⟨n6,e2⟩:=(k1 b _ (aT b o hb) e1).2
      exact ⟨n6,e2⟩
    · rw [Array.getElem?_setIfInBounds_ne (by decide)]; exact X.v2
theorem zh {R:Value→Shared→Prop} (hf:env.frame=some L) (X:Fx aP h s.heap e T cls vs fl) (k:∀ h',Fx aP h h' e T cls vs (rawInt L)→R (.ref e) {s with heap:=h'}):cameBackBy M A env R (.ref e) s:=by
  obtain ⟨oe,he,ij,hd⟩:=X.ex
  unfold cameBackBy
  refine wpAny_bind (wpAny_field he hd X.v1 ?_)
  rw [if_neg (show ¬ ((Value.ref T==Value.none)=true) from by simp)]
  exact kl (f:=env.frame) X fun h' X'=>k h' (by rw [hf] at X'; exact X')
theorem L9 (dz:A.frames=some (env::outer)) (hl:s.heap.FunFrames emp (env::outer)) (hf:env.frame=some L) (gp:∀ b∈(env::outer).filterMap (·.frame),b∈aP) (N:tU aP h s.heap e cls vs)
    (k:∀ h' T dA,dA[0]?=vs[0]?→Fx aP h h' e T cls dA .none→Q () {s with heap:=h'}):wpAny M A (leaving env (.ref e)) Q E s:=by
  unfold leaving
  exact wpAny_bind (zc dz hl hf gp N fun h' T dA hv X=>kl (f:=none) X fun cK X'=>k cK T dA hv X')
theorem Ma (dz:A.frames=some (env::outer)) (hl:s.heap.FunFrames emp (env::outer)) (hf:env.frame=some L) (gp:∀ b∈(env::outer).filterMap (·.frame),b∈aP) (X:Fx aP h s.heap e T cls vs .none)
    (k:∀ h' T dA,dA[0]?=vs[0]?→Fx aP h h' e T cls dA .none→Q () {s with heap:=h'}):wpAny M A (leaving env (.ref e)) Q E s:=by
  unfold leaving
  exact wpAny_bind (zg dz hl hf gp X fun h' T dA hv X=>kl (f:=none) X fun cK X'=>k cK T dA hv X')
theorem Mb (hf:env.frame=some L) (X:Fx aP h s.heap e T cls vs (rawInt L)) (k:∀ h',Fx aP h h' e T cls vs .none→Q () {s with heap:=h'}):wpAny M A (leaving env (.ref e)) Q E s:=by
  unfold leaving
  exact wpAny_bind (zd hf X (kl (f:=none) X k))
end
section
variable {prog:Program} {w:World} {A:Around} {E:Value→Shared→Prop} {s:Shared} {x:Str} {t u:Tok}
theorem Mc {i:Int} {Q:Value→Shared→Prop} (hA:A.handled=none) (hr:(decide (i < -(2 ^ 63:Int))||decide (i≥2 ^ 63))=false) (hc:(seqIndex? i x.length).bind (x.cps[·]?)=none)
    (hE:∀ h' tk e,Heap.NewExc s.heap h' e "IndexError"→E (.ref e) {s with heap:=h',toks:=tk}):wpAny (model prog w) A (getItem (.str x t) (.int i u)) Q E s:=by
  refine getItem_slot (typeIs_str s x t) (by decide) slot_str_getitem (wpAny_call_entry slot_str_getitem (typeIs_str s x t) entry_str_getitem ?_ (args_str_getitem _ _))
  show wpAny _ _ (if (decide (i < -(2 ^ 63:Int))||decide (i≥2 ^ 63))=true then _ else
          match (seqIndex? i x.length).bind (x.cps[·]?) with
          | some c=>retStr ⟨#[c]⟩
          | none=>(do rule "str.__getitem__.out-of-range"; raiseError "IndexError" "string index out of range":Sem PySem.Fin)) _ _ s
  rw [hr,hc]
  exact wpAny_bind (wpAny_rule (by exact_raiseError plainExc_IndexError hA hE))
end
noncomputable def Fy (c:Cx) (news:Led) (h h':Heap) (e:Addr) (cls:Value) (a0:Option Value):Prop:=∃ aP,(∀ b∈eR c,b∈aP)∧(∀ b∈aP,b∈eR c∨c.L < b)∧(∀ p∈news,p.1∉aP)∧
  ((∃ vs,vs[0]?=a0∧tU aP h h' e cls vs)∨(∃ T vs,vs[0]?=a0∧Fx aP h h' e T cls vs (rawInt c.L))∨∃ T vs,vs[0]?=a0∧Fx aP h h' e T cls vs .none)
structure CX {α β:Type} (g:Gx) (pl:Bool) (D:Nat) (sc:Scope) (E:ag) (σ:Led) (tr:Cx→Sem α) (R:Led→α→β→Prop) (P:β→ag→Led→Prop) (X:Value) (PX:ag→Led→Led→Option Value→Prop):Prop where
  on:∀ (c:Cx) (ι:Led) (m:Str→Option Value) (s:Shared) (Q:α→Shared→Prop) (Er:Value→Shared→Prop),c.Ok g sc pl D→St g c (ι++σ) m s.heap→bF ι E m→Ap c ι σ→0 < s.toks→
    (∀ v b E' U ae m' h' ao,0 < ao→St g c (ae++U) m' h'→bF ae E' m'→Ap c ae U→(∀ p∈ι,p∈ae)→R ae v b→P b E' U→Q v {s with heap:=h',toks:=ao})→
    (∀ e a0 E' U ae m' h h' ao,0 < ao→St g c (ae++U) m' h→bF ae E' m'→Ap c ae U→(∀ p∈ι,p∈ae)→Fy c (ae++U) h h' e X a0→PX E' U ae a0→Er (.ref e) {s with heap:=h',toks:=ao})→
    wpAny g.M c.A (tr c) Q Er s
section
variable {g:Gx} {pl:Bool} {D:Nat} {sc:Scope} {E E' E₁ aO:ag} {σ U σ₁ σ₂ aN:Led} {α β:Type} {tr:Cx→Sem α} {R:Led→α→β→Prop} {b:β} {P:β→ag→Led→Prop} {X:Value} {PX:ag→Led→Led→Option Value→Prop}
theorem CX.of (h:CG g pl D sc E σ tr R P):CX g pl D sc E σ tr R P X PX:=.mk fun c ι m s Q Er ok S Rr ap ht k ω=>h.on c ι m s Q Er ok S Rr ap ht k
noncomputable abbrev fD (g:Gx) (pl:Bool) (D:Nat) (sc:Scope) (E:ag) (σ:Led) (st:Stmt) (P:Fl→ag→Led→Prop) (X:Value) (PX:ag→Led→Led→Option Value→Prop):Prop:=CX g pl D sc E σ (fun c=>exec st (c.env sc)) cZ P X PX
noncomputable abbrev eF (g:Gx) (pl:Bool) (D:Nat) (sc:Scope) (E:ag) (σ:Led) (st:List Stmt) (P:Fl→ag→Led→Prop) (X:Value) (PX:ag→Led→Led→Option Value→Prop):Prop:=CX g pl D sc E σ (fun c=>execs st (c.env sc)) cZ P X PX
noncomputable abbrev lx (g:Gx) (pl:Bool) (D:Nat) (sc:Scope) (E:ag) (σ:Led) (e:Expr) (P:AV→ag→Led→Prop) (X:Value) (PX:ag→Led→Led→Option Value→Prop):Prop:=CX g pl D sc E σ (fun c=>eval e (c.env sc)) Rep P X PX
noncomputable abbrev zi (g:Gx) (pl:Bool) (D:Nat) (sc:Scope) (E:ag) (σ:Led) (e:Expr) (P:Bool→ag→Led→Prop) (X:Value) (PX:ag→Led→Led→Option Value→Prop):Prop:=CX g pl D sc E σ (fun c=>PySem.isTrue e (c.env sc) (eval e (c.env sc))) (fun ω v b=>v=b) P X PX
noncomputable abbrev never {β:Type}:β→ag→Led→Prop:=fun ω ω ω=>False
theorem Inv.off {c:Cx} {news:Led} {m:Str→Option Value} {h₀ h:Heap} (I:Inv g c news m h₀ h):∀ p∈news,p.1∉eR c:=fun p hp hm=>by
  rcases List.mem_cons.mp hm with q | hm
  · exact (I.nw p hp).2.1 q
  · obtain ⟨_,o,ho,_⟩:=I.bl.frames.mem hm
    rw [(I.nw p hp).2.2] at ho; cases ho
theorem Md {c:Cx} {news:Led} {m:Str→Option Value} {h h':Heap} {e:Addr} {X:String} (S:St g c news m h) (hx:Heap.NewExc h h' e X):∃ a0,Fy c news h h' e (.type X) a0:=by
  obtain ⟨h₀,I⟩:=S
  obtain ⟨ob,t,h1,h2,h3⟩:=hx.there
  exact ⟨_,eR c,fun ω q=>q,fun ω q=>.inl q,I.off,.inl ⟨_,rfl,Kept.of hx.keeps,⟨ob,h1,h2,h3⟩,rfl,rfl,hx.new⟩⟩
theorem Me {v i:Expr} {p:Pos} {x:Str} {k:Nat} (hv:Ev g true D sc E σ v (.str x) σ₁) (hi:Ev g true D sc E σ₁ i (.int k) σ₂) (hk:x.length≤k) (ly:k < 2 ^ 62)
    (hs:autoParam (∀ t u,subscripted i false (.str x t) (.int k u)=operate [.str x t,.int k u] (getItem (.str x t) (.int k u))) aW):
    lx g true D sc E σ (.Subscript v i p) never (.type "IndexError") (fun E' U ω ω=>E'=E∧U=σ₂):=by
  refine .mk fun c ι m s Q Er ok S R' ap ht ω kx=>?_
  refine Subscript_ (hv.on c ι m s _ _ ok S R' ap ht fun v ar m₁ ah ax av ai aq aj ak hv=>?_)
  refine hi.on c ar m₁ _ _ _ ok ai aq aj av fun b7 aG m₂ aB a9 a8 aw aC ay aA bB=>?_
  refine hv.isStr fun t=>bB.isInt fun u=>?_
  have hA:c.A.handled=none:=by rw [ok.hd,(ok.pl rfl).2]; rfl
  refine wpAny_with_toks (n:=1) a8 (tail_any (T:="str") (typeIs_str _ _ _) slot_str_getitem.lookup (Mc hA ?_ ?_ fun h' tk e hx=>?_) (hs t u))
  · simp only [Bool.or_eq_false_iff,decide_eq_false_iff_not]; lia
  · have h0:¬ ((k:Int) < 0):=by lia
    have:seqIndex? (k:Int) x.length=none:=by
      unfold seqIndex?
      simp only [h0,if_false]
      rw [if_neg]
      simp only [Bool.and_eq_true,decide_eq_true_eq]
      lia
    rw [this]; rfl
  · exact fun hp=>let ⟨a0,y⟩:=Md aw hx; kx e a0 E σ₂ aG m₂ aB h' tk hp aw aC ay (fun p hp=>aA p (ak p hp)) y ⟨rfl,rfl⟩
theorem Mf {l r:Expr} {o:CmpOp} {p:Pos} (hl:lx g pl D sc E σ l never X PX) (hm:autoParam (behindInMarks o r=false) aR):zi g pl D sc E σ (.Compare l [o] [r] p) never X PX:=by
  refine .mk fun c ι m s Q Er ok S R' ap ht ω kx=>?_
  exact wpAny_isTrue_Compare1 (hl.on c ι m s _ _ ok S R' ap ht (fun ω ω ω ω ω ω ω ω ω ω ω ω ω ω q=>q.elim) kx) hm
theorem zj {x:Str} {p' pos:Pos} {e:Expr} (hv:lx g pl D sc E σ e never X PX) (hs:autoParam (∀ env,swapsWith e (some (.Name x p')) pos.line env=pure false) aI):fD g pl D sc E σ (.Assign [.Name x p'] e pos) never X PX:=by
  refine .mk fun c ι m s Q Er ok S R' ap ht ω kx=>?_
  exact wpAny_Assign_Name (hv.on c ι m s _ _ ok S R' ap ht (fun ω ω ω ω ω ω ω ω ω ω ω ω ω ω q=>q.elim) kx) (hs _)
theorem n8 {P:Fl→ag→Led→Prop} {st:Stmt} {rest:List Stmt} (h:fD g pl D sc E σ st never X PX):eF g pl D sc E σ (st::rest) P X PX:=by
  refine .mk fun c ι m s Q Er ok S R' ap ht ω kx=>?_
  refine wpAny_execs_cons ?_
  exact h.on c ι m s _ _ ok S R' ap ht (fun ω ω ω ω ω ω ω ω ω ω ω ω ω ω q=>q.elim) kx
end
section
variable {g:Gx} {pl:Bool} {D:Nat} {sc:Scope} {E E' E₁ aO:ag} {σ U σ₁ σ₂ aN:Led} {X:Value} {PX:ag→Led→Led→Option Value→Prop} {a0:Option Value}
theorem qp {c:Cx} {news:Led} {m:Str→Option Value} {h h':Heap} {aP:List Addr} (ok:c.Ok g sc pl D) (S:St g c news m h) (K:Kept aP h h'):h'.FunFrames emp (c.env sc::c.outer):=by
  obtain ⟨h₀,I⟩:=S
  exact y7 K (y9 (pushX (env:=c.env sc) I.bl I.fr rfl ok.kind).frames)
theorem qq {c:Cx} {aP:List Addr} (hs:∀ b∈eR c,b∈aP):∀ b∈(c.env sc::c.outer).filterMap (·.frame),b∈aP:=fun b hb=>hs b (by
  have e:(c.env sc::c.outer).filterMap (·.frame)=eR c:=by
    rw [List.filterMap_cons]; rfl
  rw [e] at hb; exact hb)
theorem qr {c:Cx} {news:Led} {m:Str→Option Value} {h:Heap} {s:Shared} {e:Addr} {Q:Unit→Shared→Prop} {Er:Value→Shared→Prop} (ok:c.Ok g sc pl D) (S:St g c news m h) (y:Fy c news h s.heap e X a0)
    (k:∀ h' aP T vs,(∀ b∈eR c,b∈aP)→(∀ b∈aP,b∈eR c∨c.L < b)→(∀ p∈news,p.1∉aP)→vs[0]?=a0→Fx aP h h' e T X vs (rawInt c.L)→Q () {s with heap:=h'}):wpAny g.M c.A (noteFrame (.ref e) (c.env sc)) Q Er s:=by
  obtain ⟨aP,a1,a2,a3,⟨vs,v0,N⟩ | ⟨T,vs,v0,F⟩ | ⟨T,vs,v0,F⟩⟩:=y
  · exact zc ok.fr (qp ok S N.k) rfl (qq a1) N fun h' T dA hv F=>k h' aP T dA a1 a2 a3 (hv.trans v0) F
  · exact zd rfl F (k _ aP T vs a1 a2 a3 v0 F)
  · exact zg ok.fr (qp ok S F.k) rfl (qq a1) F fun h' T dA hv F=>k h' aP T dA a1 a2 a3 (hv.trans v0) F
theorem Fx.fy {c:Cx} {news:Led} {h h':Heap} {aP:List Addr} {e T:Addr} {vs:Array Value} (F:Fx aP h h' e T X vs (rawInt c.L)) (v0:vs[0]?=a0) (a1:∀ b∈eR c,b∈aP) (a2:∀ b∈aP,b∈eR c∨c.L < b) (a3:∀ p∈news,p.1∉aP):Fy c news h h' e X a0:=
  ⟨aP,a1,a2,a3,.inr (.inl ⟨T,vs,v0,F⟩)⟩
theorem Fx.st {c:Cx} {ι σ:Led} {m:Str→Option Value} {h h':Heap} {aP:List Addr} {e T:Addr} {vs:Array Value} {fl:Value} (S:St g c (ι++σ) m h) (F:Fx aP h h' e T X vs fl) (a1:∀ b∈eR c,b∈aP) (a2:∀ b∈aP,b∈eR c∨c.L < b) (a3:∀ p∈ι++σ,p.1∉aP):
    ∃ oe,St g c (((e,oe)::ι)++σ) m h'∧oe.cls=X∧oe.data=.fields vs∧∀ p∈ι++σ,p.1≠e:=by
  obtain ⟨h₀,I⟩:=S
  obtain ⟨ah,J,Jx⟩:=LY (ex:=[e]) I F.k a2 a3 (fun b hb=>by rw [List.mem_singleton.mp hb]; exact F.jx)
  obtain ⟨oe,he,hc,hd⟩:=F.ex
  have Mg:e≠c.L:=fun q=>by
    obtain ⟨oL,es,ep,hL,_⟩:=I.fr.ns
    rw [←q,F.jx] at hL; cases hL
  have Mh:ah.get? e=none:=Jx e (.head _)
  refine ⟨oe,⟨ah,J.fr,fun p hp=>?_,J.bl,J.fo⟩,hc,hd,fun p hp q=>?_⟩
  · rcases List.mem_cons.mp hp with rfl | hp
    · exact ⟨he,Mg,Mh⟩
    · exact J.nw p hp
  · have:=(I.nw p hp).1
    rw [q,F.jx] at this; cases this
end
section
variable {g:Gx} {pl:Bool} {D:Nat} {sc:Scope} {E E' E₁ aO:ag} {σ U σ₁ σ₂ aN:Led} {X:Value} {PX:ag→Led→Led→Option Value→Prop} {P:Fl→ag→Led→Prop}
noncomputable abbrev Cx.holds (c:Cx) (e:Addr) (oe:Obj):Cx:={c with A:=c.A.mark (some (.ref e)),hx:=some (e,oe)}
theorem Cx.Ok.holds {c:Cx} {e:Addr} {oe:Obj} {vs:Array Value} (ok:c.Ok g sc pl D) (hd:oe.data=.fields vs) (h2:vs[2]?=some .none):(c.holds e oe).Ok g sc false D where
  gd:=ok.gd
  fr:=ok.fr
  kind:=ok.kind
  dp:=ok.dp
  un:=ok.un
  hd:=rfl
  he:=fun p hp=>by cases hp; exact ⟨vs,hd,h2⟩
  pl:=fun q=>nomatch q
  gs:=ok.gs
theorem St.hold {c:Cx} {e:Addr} {oe:Obj} {news:Led} {m:Str→Option Value} {h:Heap} (S:St g c news m h):St g (c.holds e oe) news m h:=let ⟨h₀,I⟩:=S; ⟨h₀,I.fr,I.nw,I.bl,I.fo⟩
theorem St.zk {c:Cx} {e:Addr} {oe:Obj} {news:Led} {m:Str→Option Value} {h:Heap} (S:St g (c.holds e oe) news m h):St g c news m h:=let ⟨h₀,I⟩:=S; ⟨h₀,I.fr,I.nw,I.bl,I.fo⟩
theorem tW {body:List Stmt} {x:Str} {np pos pos':Pos} {n9:Stmt} {og:List Stmt} {T' Xs:String} (hb:eF g pl D sc E σ body P (.type Xs) PX) (hs:∀ E' U ι a0,PX E' U ι a0→b0 g false D sc E' U (n9::og) P)
    (e0:nsIn g.K mainGlobals x=some none) (hv:bootBuiltins x=some (.type T')) (hn:x≠"__name__")
    (Mi:isSubtype (.type T') (.type "BaseException")=pure true) (Mj:isSubtype (.type ((Manifest.find? T').elim "type" fun y=>y.metatype)) (.type "tuple")=pure false) (gq:isSubtype (.type Xs) (.type T')=pure true)
    (hk:autoParam (sc.names.lookup x=some .globalImplicit) aK) (hd:autoParam ((x==("__debug__":Str))=false) aK):
    dg g pl D sc E σ (.Try body [.ExceptHandler (some (.Name x np)) none (n9::og) pos] [] [] pos') P:=by
  refine .mk fun c ι m s Q Er ok S R ap ht k=>?_
  refine wpAny_Try_except (hb.on c ι m s _ _ ok S R ap ht (fun v b E' U ae m' h' ao aQ S' R' aX bk hv hP=>?_) fun e a0 E' U ae m' h h' ao aQ S' R' aX bk y lz=>?_)
  · cases hv with
    | next=>exact wpAny_execs_nil (k _ _ _ _ ae m' h' ao aQ S' R' aX bk .next hP)
    | brk=>exact k _ _ _ _ ae m' h' ao aQ S' R' aX bk .brk hP
    | cont=>exact k _ _ _ _ ae m' h' ao aQ S' R' aX bk .cont hP
    | ret hr=>exact k _ _ _ _ ae m' h' ao aQ S' R' aX bk (.ret hr) hP
  refine qr ok S' y fun h1 aP T vs a1 a2 a3 v0 F1=>?_
  refine kl (s:={s with heap:=h1,toks:=ao}) (f:=none) F1 fun h2 F2=>?_
  obtain ⟨gF,⟨aB,I2⟩,oh,hd2,_⟩:=Fx.st S' F2 a1 a2 a3
  have lA:(c.holds e gF).Ok g sc false D:=ok.holds hd2 F2.v2
  have lB:Inv g (c.holds e gF) ((e,gF)::ae++U) m' aB h2:=⟨I2.fr,I2.nw,I2.bl,I2.fo⟩
  refine wpAny_handleBy_builtin (X:=Xs) (T:=T') (b:=true) Mi Mj gq ?_
  refine nameX_B (A:=(c.holds e gF).A) (s:={s with heap:=h2,toks:=ao}) lB.fr (lA.kx lB) (topRead_of (lA.tp lB)) e0 hv hn ⟨rfl,⟨gF,(I2.nw _ (.head _)).1,oh⟩,?_⟩ ok.kind (by unfold Env.kindOf; exact hk) hd
  rw [if_pos rfl]
  refine kl (s:={s with heap:=h2,toks:=ao}) (f:=none) F2 fun h3 F3=>?_
  obtain ⟨ik,S3,zl,qs,aT⟩:=Fx.st S' F3 a1 a2 a3
  have qt:(c.holds e ik).Ok g sc false D:=ok.holds qs F3.v2
  have tX:Ap (c.holds e ik) ((e,ik)::ae) U:=⟨fun p hp q hq=>by
      rcases List.mem_cons.mp hp with rfl | hp
      · exact fun z=>aT q (List.mem_append_right _ hq) z.symm
      · exact aX.apart p hp q hq,aX.once,fun p hp=>by cases hp; exact .head _⟩
  refine (hs E' U ae a0 lz).on (c.holds e ik) ((e,ik)::ae) m' {s with heap:=h3,toks:=ao} Q _ qt S3.hold (R'.mono fun p hp=>.tail _ hp) tX aQ fun v b ml bU fE tY cK il zm ip k6 gu tZ hv hP=>?_
  have oi:∀ p∈ι,p∈fE:=fun p hp=>tZ p (.tail _ (bk p hp))
  exact k v b ml bU fE tY cK il zm ip.zk k6 ⟨gu.apart,gu.once,fun p hp=>oi p (ap.hx p hp)⟩ oi hv hP
end
noncomputable def dO (g:Gx) (pl:Bool) (D:Nat) (f:Value) (as:List AV) (σ:Led) (P:AV→Led→Prop) (X:Value) (PX:Led→Led→Option Value→Prop):Prop:=
  ∀ (c:Cx) (sc:Scope) (ι:Led) (m:Str→Option Value) (s:Shared) (vs:List Value) (Q:Value→Shared→Prop) (Er:Value→Shared→Prop),c.Ok g sc pl D→St g c (ι++σ) m s.heap→Ap c ι σ→0 < s.toks→aY ι vs as→
    (∀ v r ae U h' ao,0 < ao→St g c (ae++U) m h'→Ap c ae U→(∀ p∈ι,p∈ae)→Rep ae v r→P r U→Q v {s with heap:=h',toks:=ao})→
    (∀ e a0 U ae h h' ao,0 < ao→St g c (ae++U) m h→Ap c ae U→(∀ p∈ι,p∈ae)→Fy c (ae++U) h h' e X a0→PX U ae a0→Er (.ref e) {s with heap:=h',toks:=ao})→
    wpAny g.M c.A (call f vs) Q Er s
section
variable {g:Gx} {pl:Bool} {D:Nat} {sc:Scope} {E E' E₁ aO:ag} {σ U σ₁ σ₂ aN:Led} {X:Value} {a0:Option Value}
theorem Mk {c:Cx} {news:Led} {m:Str→Option Value} {h:Heap} {s:Shared} {e:Addr} {Q:Unit→Shared→Prop} {Er:Value→Shared→Prop} (ok:c.Ok g sc pl D) (S:St g c news m h) (y:Fy c news h s.heap e X a0)
    (k:∀ h' aP T vs,(∀ b∈eR c,b∈aP)→(∀ b∈aP,b∈eR c∨c.L < b)→(∀ p∈news,p.1∉aP)→vs[0]?=a0→Fx aP h h' e T X vs .none→Q () {s with heap:=h'}):wpAny g.M c.A (leaving (c.env sc) (.ref e)) Q Er s:=by
  obtain ⟨aP,a1,a2,a3,⟨vs,v0,N⟩ | ⟨T,vs,v0,F⟩ | ⟨T,vs,v0,F⟩⟩:=y
  · exact L9 ok.fr (qp ok S N.k) rfl (qq a1) N fun h' T dA hv F=>k h' aP T dA a1 a2 a3 (hv.trans v0) F
  · exact Mb rfl F fun h' F=>k h' aP T vs a1 a2 a3 v0 F
  · exact Ma ok.fr (qp ok S F.k) rfl (qq a1) F fun h' T dA hv F=>k h' aP T dA a1 a2 a3 (hv.trans v0) F
noncomputable def km (g:Gx) (pl:Bool) (D:Nat) (f:Value) (as:List AV) (kn:List Str) (ks:List AV) (σ:Led) (P:AV→Led→Prop) (X:Value) (PX:Led→Led→Option Value→Prop):Prop:=
  ∀ (c:Cx) (sc:Scope) (ι:Led) (m:Str→Option Value) (s:Shared) (vs ws:List Value) (R:Result→Shared→Prop),c.Ok g sc pl D→St g c (ι++σ) m s.heap→Ap c ι σ→0 < s.toks→aY ι vs as→aY ι ws ks→
    (∀ v r ae U h' ao,0 < ao→St g c (ae++U) m h'→Ap c ae U→(∀ p∈ι,p∈ae)→Rep ae v r→P r U→R (.ok (.ret v)) {s with heap:=h',toks:=ao})→
    (∀ e a0 U ae h h' ao,0 < ao→St g c (ae++U) m h→Ap c ae U→(∀ p∈ι,p∈ae)→Fy c (ae++U) h h' e X a0→PX U ae a0→R (.error (.ref e)) {s with heap:=h',toks:=ao})→
    codeAny g.M c.A (.call f ⟨vs,kn.zip ws⟩) R s
noncomputable def gG (g:Gx) (pl:Bool) (D:Nat) (f:Value) (as:List AV) (σ:Led) (P:AV→Led→Prop):Prop:=
  ∀ (c:Cx) (sc:Scope) (ι:Led) (m:Str→Option Value) (s:Shared) (vs:List Value) (R:Result→Shared→Prop),c.Ok g sc pl D→St g c (ι++σ) m s.heap→Ap c ι σ→0 < s.toks→aY ι vs as→
    (∀ v r ae U h' ao,0 < ao→St g c (ae++U) m h'→Ap c ae U→(∀ p∈ι,p∈ae)→Rep ae v r→P r U→R (.ok (.ret v)) {s with heap:=h',toks:=ao})→
    codeAny g.M c.A (.call f ⟨vs,[]⟩) R s
section
variable {f:Value} {as ks:List AV} {kn:List Str} {P:AV→Led→Prop} {PX:Led→Led→Option Value→Prop}
theorem km.x (h:km g pl D f as [] [] σ P X PX):dO g pl D f as σ P X PX:=fun c sc ι m s vs ω ω ok S ap ht aM k kx=>wpAny_call (h c sc ι m s vs [] _ ok S ap ht aM .nil k kx)
theorem km.c (h:km g pl D f as [] [] σ P X fun ω ω ω=>False):gG g pl D f as σ P:=fun c sc ι m s vs ω ok S ap ht aM k=>h c sc ι m s vs [] _ ok S ap ht aM .nil k fun ω ω ω ω ω ω ω ω ω ω ω ω q=>q.elim
theorem gG.fn (h:gG g pl D f as σ P):dW g pl D f as σ P:=fun c sc ι m s vs ω ω ok S ap ht aM k=>wpAny_call (h c sc ι m s vs _ ok S ap ht aM fun v r ae U h' ao ω=>k v r ae U h' ao)
theorem km.k (h:km g pl D f as kn ks σ P X fun ω ω ω=>False):ei g pl D f as kn ks σ P:=fun c sc ι m s vs ws ω ω ok S ap ht aM jw k=>wpAny_call (h c sc ι m s vs ws _ ok S ap ht aM jw (fun v r ae U h' ao ω=>k v r ae U h' ao) fun ω ω ω ω ω ω ω ω ω ω ω ω q=>q.elim)
end
noncomputable def zo (g:Gx) (σ:Led) (f:Addr) (fd:FuncData):Prop:=
  ∀ {c:Cx} {sc:Scope} {pl:Bool} {D:Nat} {ι:Led} {m:Str→Option Value} {h:Heap},c.Ok g sc pl D→St g c (ι++σ) m h→∃ o,h.get? f=some o∧o.data=.func fd∧h.CodeRec fd.code fd.qualname
noncomputable abbrev gH (sc:Scope) (ps rest:List Str):Prop:=(ps++rest).Nodup∧(∀ x∈ps,sc.names.lookup x=some .local)∧(∀ x∈sc.names,x.2≠.cell)∧sc.isCoroutine=false∧sc.isGenerator=false∧sc.kind=.function
noncomputable abbrev Rt (P:AV→Led→Prop):Fl→ag→Led→Prop:=fun fl ω U=>(∃ r,fl=.ret r∧P r U)∨(fl=.next∧P .none U)
theorem zp {f:Addr} {name qual:Str} {params:Arguments} {body:List Stmt} {sc:Scope} {dV kV doc pm bb ct:Value} {an:Option Addr} {ps rest kn:List Str} {as ks bs:List AV} {P:AV→Led→Prop} {PX:Led→Led→Option Value→Prop} (ho:zo g σ f (fnOf name qual params body sc dV kV doc pm an bb ct))
    (hb:Binds g (fnOf name qual params body sc dV kV doc pm an bb ct) as kn ks σ ps bs) (hlen:ps.length=bs.length) (hq:gH sc ps rest) (du:eF g pl D sc (fY ps bs rest) σ body (Rt P) X (fun ω U ae a0=>PX U ae a0)):km g pl (D+1) (.ref f) as kn ks σ P X PX:=by
  intro c ji ι m s vs ws R ok S ap ht aM jw k kx
  have ⟨o,ho,hd,hc⟩:=ho ok S
  refine LF (Nat.lt_of_le_of_lt (Nat.le_add_right _ _) (Nat.lt_trans ok.dp (by decide))) ho hd hc rfl hq.2.2.1 (fun A' Ml Q' kb=>?_) hq.2.2.2.1 hq.2.2.2.2.1 hq.2.2.2.2.2
  refine hb c ι m s vs ws A' Q' Ml (let ⟨_,I⟩:=S; ok.kh I) S ap aM jw fun us Mm eE eg Mn zq mx=>?_
  have ⟨h₀,I⟩:=eg
  refine kb (ps.zip us) eE ((ok.tp I).nolimit.keeps I.fr.keep) (fun x hx=>hq.2.1 _ (List.of_mem_zip hx).1) fun ah cN cx=>?_
  have ⟨oL,hL,ai⟩:=sI ok I qual f bb sc [] cN cx
  refine du.on _ Mm _ _ _ _ (ok.into hq.2.2.2.2.2) ai (sL hq.1 hlen mx) Mn (by exact Nat.lt_of_lt_of_le ht (Nat.le_add_right _ _)) (fun v fl E' U ae m' h' ao aQ S' R' aX bk hv hP=>?_) fun e a0 E' U ae m' h h' ao aQ S' R' aX bk y hP=>?_
  · have k':=fun r w=>k w r ae U h' ao aQ (pZ I hL S') aX fun p hp=>bk p (zq p hp)
    rcases hP with ⟨r,rfl,hP⟩ | ⟨rfl,hP⟩
    · have ⟨w,e,hw⟩:=hv.inv
      exact e▸k' r w hw hP
    · exact (show Flow.next=v from hv.inv)▸k' .none .none .none hP
  · refine Mk (s:={s with heap:=h',toks:=ao}) (ok.into hq.2.2.2.2.2) S' y fun cK aP T vs a1 a2 a3 v0 F=>?_
    have zr:c.L < eE.objs.size:=I.fr.ns.lt
    exact kx e a0 U ae h cK ao aQ (pZ I hL S') aX (fun p hp=>bk p (zq p hp)) ⟨aP,fun b hb=>a1 b (.tail _ hb),fun b hb=>(a2 b hb).elim (fun q=>by
      rcases List.mem_cons.mp q with q | q
      · exact .inr (q▸zr)
      · exact .inl q) fun q=>.inr (Nat.lt_trans zr q),a3,.inr (.inr ⟨T,vs,v0,F⟩)⟩ hP
theorem fw.obj {a:Addr} {nm qual:Str} {st:Stmt} {dV kV:Value} (h:fw g.K a nm qual st dV kV):∃ doc pm an bb ct,zo g σ a (fnOf nm qual (dr st) (bZ st) (bz st) dV kV doc pm an bb ct):=
  let ⟨_,_,_,doc,pm,an,bb,ct,hl,hc⟩:=h
  ⟨doc,pm,an,bb,ct,fun ok S=>have ⟨_,I⟩:=S; ⟨_,ok.kh I _ _ hl,rfl,codeRec_of (ok.kh I) hc⟩⟩
section
variable {a:Addr} {nm qual:Str} {st:Stmt} {dV kV:Value} {ps rest kn:List Str} {as ks bs:List AV} {P:AV→Led→Prop} {PX:Led→Led→Option Value→Prop} (cQ:ag)
theorem oj (h:fw g.K a nm qual st dV kV) (hb:∀ doc pm an bb ct,Binds g (fnOf nm qual (dr st) (bZ st) (bz st) dV kV doc pm an bb ct) as kn ks σ ps bs)
    (du:eF g pl D (bz st) cQ σ (bZ st) (Rt P) X (fun ω U ae a0=>PX U ae a0)) (hE:fY ps bs rest=cQ) (hlen:ps.length=bs.length) (hq:gH (bz st) ps rest):km g pl (D+1) (.ref a) as kn ks σ P X PX:=
  let ⟨_,_,_,_,_,o⟩:=h.obj
  zp o (hb _ _ _ _ _) hlen hq (hE▸du)
theorem Mo (h:FnAt g.K a nm st dV kV)
    (hb:∀ doc pm an bb ct (s:Shared) (ι:Led) (vs:List Value),g.K.In s.heap→aY ι vs as→∃ us,aY ι us bs∧BindsTo s (fnOf nm nm (dr st) (bZ st) (bz st) dV kV doc pm an bb ct) ⟨vs,[]⟩ (ps.zip us))
    (du:eF g pl D (bz st) cQ σ (bZ st) (Rt P) X (fun ω U ae a0=>PX U ae a0)) (hE:autoParam (fY ps bs rest=cQ) aR) (hlen:autoParam (ps.length=bs.length) aR) (hq:autoParam (gH (bz st) ps rest) aD):dO g pl (D+1) (.ref a) as σ P X PX:=
  (oj cQ h (fun ω ω ω ω ω=>.to (hb _ _ _ _ _)) du hE hlen hq).x
theorem Mp (h:FnAt g.K a nm st .none .none) (hb:∀ doc pm an bb ct (vs:List Value),vs.length=as.length→bindArgs (fnOf nm nm (dr st) (bZ st) (bz st) .none .none doc pm an bb ct) ⟨vs,[]⟩=pure (ps.zip vs))
    (du:eF g pl D (bz st) cQ σ (bZ st) (Rt P) X (fun ω U ae a0=>PX U ae a0)) (hE:autoParam (fY ps as rest=cQ) aR) (hlen:autoParam (ps.length=as.length) aR) (hq:autoParam (gH (bz st) ps rest) aD):dO g pl (D+1) (.ref a) as σ P X PX:=
  (oj cQ h (fun ω ω ω ω ω=>.eq (hb _ _ _ _ _)) du hE hlen hq).x
theorem om (h:fw g.K a nm qual st dV kV) (hb:∀ doc pm an bb ct,Binds g (fnOf nm qual (dr st) (bZ st) (bz st) dV kV doc pm an bb ct) as kn ks σ ps bs) (du:b0 g pl D (bz st) cQ σ (bZ st) (Rt P)) (hE:autoParam (fY ps bs rest=cQ) aR) (hlen:autoParam (ps.length=bs.length) aR) (hq:autoParam (gH (bz st) ps rest) aD):ei g pl (D+1) (.ref a) as kn ks σ P:=
  (oj (X:=.none) cQ h hb (.of du) hE hlen hq).k
theorem oo (h:FnAt g.K a nm st dV kV) (hb:∀ doc pm an bb ct,Binds g (fnOf nm nm (dr st) (bZ st) (bz st) dV kV doc pm an bb ct) as kn ks σ ps bs) (du:b0 g pl D (bz st) cQ σ (bZ st) (Rt P)) (hE:autoParam (fY ps bs rest=cQ) aR) (hlen:autoParam (ps.length=bs.length) aR) (hq:autoParam (gH (bz st) ps rest) aD):ei g pl (D+1) (.ref a) as kn ks σ P:=
  (oj (X:=.none) cQ h hb (.of du) hE hlen hq).k
theorem qu (h:fw g.K a nm qual st .none .none) (hb:∀ doc pm an bb ct (vs:List Value),vs.length=as.length→bindArgs (fnOf nm qual (dr st) (bZ st) (bz st) .none .none doc pm an bb ct) ⟨vs,[]⟩=pure (ps.zip vs)) (du:b0 g pl D (bz st) cQ σ (bZ st) (Rt P)) (hE:autoParam (fY ps as rest=cQ) aR) (hlen:autoParam (ps.length=as.length) aR) (hq:autoParam (gH (bz st) ps rest) aD):gG g pl (D+1) (.ref a) as σ P:=
  (oj (X:=.none) cQ h (fun ω ω ω ω ω=>.eq (hb _ _ _ _ _)) (.of du) hE hlen hq).c
theorem t4 (h:FnAt g.K a nm st .none .none) (hb:∀ doc pm an bb ct (vs:List Value),vs.length=as.length→bindArgs (fnOf nm nm (dr st) (bZ st) (bz st) .none .none doc pm an bb ct) ⟨vs,[]⟩=pure (ps.zip vs)) (du:b0 g pl D (bz st) cQ σ (bZ st) (Rt P)) (hE:autoParam (fY ps as rest=cQ) aR) (hlen:autoParam (ps.length=as.length) aR) (hq:autoParam (gH (bz st) ps rest) aD):dW g pl (D+1) (.ref a) as σ P:=
  (qu cQ h hb du hE hlen hq).fn
theorem gI {r:AV} (h:FnAt g.K a nm st .none .none) (hb:∀ doc pm an bb ct (vs:List Value),vs.length=as.length→bindArgs (fnOf nm nm (dr st) (bZ st) (bz st) .none .none doc pm an bb ct) ⟨vs,[]⟩=pure (ps.zip vs)) (du:b0 g pl D (bz st) cQ σ (bZ st) (fun fl ω bU=>fl=.ret r∧bU=U)) (hE:autoParam (fY ps as rest=cQ) aR) (hlen:autoParam (ps.length=as.length) aR) (hq:autoParam (gH (bz st) ps rest) aD):Fn g pl (D+1) (.ref a) as σ r U:=
  (t4 (P:=fun x y=>x=r∧y=U) cQ h hb (du.mono fun fl ω bU hp=>.inl ⟨r,hp.1,rfl,hp.2⟩) hE hlen hq).det fun ω ω h=>h
theorem t5 {r:AV} {fl:Fl} (h:FnAt g.K a nm st .none .none) (hb:∀ doc pm an bb ct (vs:List Value),vs.length=as.length→bindArgs (fnOf nm nm (dr st) (bZ st) (bz st) .none .none doc pm an bb ct) ⟨vs,[]⟩=pure (ps.zip vs)) (du:ef g pl D (bz st) cQ σ (bZ st) fl E' U) (Mq:fl=.ret r∨(fl=.next∧r=.none)) (hE:autoParam (fY ps as rest=cQ) aR) (hlen:autoParam (ps.length=as.length) aR) (hq:autoParam (gH (bz st) ps rest) aD):Fn g pl (D+1) (.ref a) as σ r U:=
  (t4 (P:=fun x y=>x=r∧y=U) cQ h hb (du.toG (Mq.imp (fun q=>⟨r,q,rfl,rfl⟩) fun q=>⟨q.1,q.2.symm,rfl⟩)) hE hlen hq).det fun ω ω h=>h
end
end
section
variable {g:Gx} {pl:Bool} {D:Nat} {sc:Scope} {E E' E₁ aO:ag} {σ U σ₁ σ₂ aN:Led} {X:Value} {PX:ag→Led→Led→Option Value→Prop} {P P₁:Fl→ag→Led→Prop}
theorem kq {st:Stmt} {rest:List Stmt} (h:fD g pl D sc E σ st P₁ X PX) (hr:∀ fl E₁ σ₁,P₁ fl E₁ σ₁→match fl with | .next=>eF g pl D sc E₁ σ₁ rest P X PX | fl=>P fl E₁ σ₁):eF g pl D sc E σ (st::rest) P X PX:=by
  refine .mk fun c ι m s Q Er ok S R ap ht k kx=>?_
  refine wpAny_execs_cons (h.on c ι m s _ _ ok S R ap ht (fun v fl E' U ae m' h' ao aQ S' R' aX bk hv hP=>?_) kx)
  have z:=hr fl E' U hP
  cases hv with
  | next=>
    exact z.on c ae m' {s with heap:=h',toks:=ao} Q Er ok S' R' aX aQ (fun v b aO σ₂ aG m₂ aB a9 a8 aw aC ay aA bB Mr=>k v b aO σ₂ aG m₂ aB a9 a8 aw aC ay (fun p hp=>aA p (bk p hp)) bB Mr)
      fun e a0 aO σ₂ aG m₂ h aB a9 a8 aw aC ay aA y hq=>kx e a0 aO σ₂ aG m₂ h aB a9 a8 aw aC ay (fun p hp=>aA p (bk p hp)) y hq
  | brk=>exact k _ _ E' U ae m' h' ao aQ S' R' aX bk .brk z
  | cont=>exact k _ _ E' U ae m' h' ao aQ S' R' aX bk .cont z
  | ret hv=>exact k _ _ E' U ae m' h' ao aQ S' R' aX bk (.ret hv) z
theorem dZ {st:Stmt} {rest:List Stmt} (h:Ex g pl D sc E σ st .next E₁ σ₁) (hr:eF g pl D sc E₁ σ₁ rest P X PX):eF g pl D sc E σ (st::rest) P X PX:=
  kq (P₁:=fun fl E' U=>fl=.next∧E'=E₁∧U=σ₁) (CX.of <| .mk fun c ι m s Q Er ok S R ap ht k=>h.on c ι m s Q Er ok S R ap ht fun v ae m' h' ao aQ S' R' aX bk hv=>k v _ _ _ ae m' h' ao aQ S' R' aX bk hv ⟨rfl,rfl,rfl⟩) fun fl E' U h=>by
    obtain ⟨rfl,rfl,rfl⟩:=h
    exact hr
theorem t6 {x:Str} {p pos:Pos} {e:Expr} {es:List Expr} {as:List AV} {f:Addr} {PA:AV→Led→Prop} {zt:Led→Led→Option Value→Prop}
    (e0:nsIn g.K mainGlobals x=some (some (.ref f))) (hk:keepIn g.K (.ref f)=true) (dq:ee g pl D sc E σ (e::es) as σ₁) (cP:dO g pl D (.ref f) as σ₁ PA X zt)
    (hn:autoParam (sc.names.lookup x=some .globalImplicit) aK) (hd:autoParam ((x==("__debug__":Str))=false) aK)
    (he:autoParam (∀ env,starEach (e::es) env=(false,eval e env)::starEach es env) aI) (cW:autoParam (∀ pos env,(backTo pos (starEach es env)).any (·.1)=false) aJ):
    lx g pl D sc E σ (.Call (.Name x p) (e::es) [] pos) (fun a E' U=>E'=E∧PA a U) X (fun E' U ι a0=>E'=E∧zt U ι a0):=by
  refine .mk fun c ι m s Q Er ok S R' ap ht k kx=>?_
  refine wpAny_Call_NameR ((cH e0 hn hd).on c ι m s _ _ ok S R' ap ht fun v ar m₁ ah ax av ai aq aj ak hv=>?_)
  refine hv.is ?_
  obtain ⟨h₀,dR⟩:=ai
  refine callWith_K (ok.kh dR) hk ((dq pos).on c ar m₁ _ _ _ ok ⟨h₀,dR⟩ aq aj av fun vs aG m₂ aB a9 a8 aw aC ay aA aM=>?_) (he _) (cW _ _)
  obtain ⟨e7,b9⟩:=aw
  refine ⟨ok.kh b9,cP c sc aG m₂ _ _ _ _ ok ⟨e7,b9⟩ ay a8 aM (fun v r br aN bu bx ck bj bp bo b8 hP=>?_) fun ex a0 aN br h bu bx ck bj bp bo y hP=>?_⟩
  · exact k v r E aN br m₂ bu bx ck bj (aC.mono bo) bp (fun p hp=>bo p (aA p (ak p hp))) b8 ⟨rfl,hP⟩
  · exact kx ex a0 E aN br m₂ h bu bx ck bj (aC.mono bo) bp (fun p hp=>bo p (aA p (ak p hp))) y ⟨rfl,hP⟩
end
end Mine
end
section
open PySem PySem.W PyProof.Rows
namespace Mine
section
variable {g:Gx} {pl:Bool} {D:Nat} {σ:Led}
theorem zu (kf:KF g) {l:List Nat}:Fn g pl (D+1) (.ref 796) [T l] σ (T [47]) σ:=by
  refine t5 (ps:=["path"]) (rest:=[]) [("path",some (T l))] kf.xY ?_ (fl:=.ret (T [47])) (E':=[("path",some (T l))]) ?_ (.inl rfl)
  · intro doc pm an bb ct vs hl
    obtain ⟨v,rfl⟩:=jt hl
    rfl
  · refine bO (sQ (σ₁:=σ) (dw (jj kf.qi (by decide+kernel) (by decide+kernel) (au aa (au (gC kf.tH (v:=.type "bytes") (by decide+kernel) (by decide+kernel)) aU)) KJ) (.bool _)) ?_)
    exact bO (cb bK)
theorem t7 (kf:KF g) {l:List Nat}:Fn g pl (D+1) (.ref 782) [T l] σ (T l) σ:=by
  refine t5 (ps:=["path"]) (rest:=["kind"]) [("path",some (T l)),("kind",none)] kf.xX ?_ (fl:=.ret (T l)) (E':=[("path",some (T l)),("kind",some (.val (.type "str")))]) ?_ (.inl rfl)
  · intro doc pm an bb ct vs hl
    obtain ⟨v,rfl⟩:=jt hl
    rfl
  · refine p0 (ba (mq kf.tI (by decide+kernel) (by decide+kernel) (au aa aU) KL)) ?_
    refine bO (sP (σ₁:=σ) (dw (jj kf.tJ (by decide+kernel) (by decide+kernel) (au aa (au (fm (au (gC kf.nV (v:=.type "str") (by decide+kernel) (by decide+kernel)) (au (gC kf.tH (v:=.type "bytes") (by decide+kernel) (by decide+kernel)) aU))) aU)) KN) (.bool _)) ?_)
    exact bO (cb aa)
end
noncomputable def ej (l:List Nat):List Nat:=if cU 47 l != []&&cU 47 l != List.replicate (cU 47 l).length 47 then mz 47 (cU 47 l) else cU 47 l
theorem zv (c:Nat) (l:List Nat):(cU c l).length≤l.length:=by
  have:=congrArg List.length (my c l)
  rw [List.length_append] at this; lia
theorem Ms (c:Nat) (l:List Nat):l.take (cU c l).length=cU c l:=by
  conv=>lhs; rw [←my c l]
  rw [List.take_left' ]
  rw [my]
theorem Mt (c:Nat) (l:List Nat):l.drop (cU c l).length=behind c l:=by
  conv=>lhs; rw [←my c l]
  rw [List.drop_left']
  rw [my]
section
variable {g:Gx} {pl:Bool} {D:Nat} {σ:Led}
theorem Mu (kf:KF g) {l:List Nat} (hl:l.length≤100000):Fn g pl (D+2) (.ref 810) [T l] σ (.tup [T (ej l),T (behind 47 l)]) σ:=by
  have hu:=zv 47 l
  refine t5 (ps:=["p"]) (rest:=["sep","i","head","tail"]) [("p",some (T l)),("sep",none),("i",none),("head",none),("tail",none)] kf.x5 ?_ (fl:=.ret (.tup [T (ej l),T (behind 47 l)]))
    (E':=[("p",some (T l)),("sep",some (T [47])),("i",some (.int (cU 47 l).length)),("head",some (T (ej l))),("tail",some (T (behind 47 l)))]) ?_ (.inl rfl)
  · intro doc pm an bb ct vs hl
    obtain ⟨v,rfl⟩:=jt hl
    rfl
  · refine bI lr ?_
    refine bI (ba (cj kf.qf kf.qc (au aa aU) (t7 kf))) ?_
    refine bI (ba (cj kf.tn kf.s7 (au aa aU) (zu kf))) ?_
    refine bI (ba (a:=.int (cU 47 l).length) ((bP (jm aa KP (au aa aU) KV) nD xt).cast (by rw [Lj]))) ?_
    refine bI (Ly (fm (au (LB aa aa hu (by lia)) (au (LC aa aa hu (by lia)) aU)))) ?_
    rw [Ms,Mt]
    refine bI (nX (b:=cU 47 l != []&&cU 47 l != List.replicate (cU 47 l).length 47) (iL ?_) (fun e=>?_) (fun e=>?_)) (bO (cb (fm (au aa (au aa aU)))))
    · exact and_cons (dw aa (y2 (by lia))) fun ω=>ql (bw aa (bP aa (qn kf.js aa (by lia)) (Lz (by lia))) ju)
    · refine bI (ba (a:=T (ej l)) ((jm aa KQ (au aa aU) (KW (by rw [bD]; unfold sizeLine; lia))).cast ?_)) bh
      unfold ej
      rw [if_pos e,Ll]
    · have:ej l=cU 47 l:=by unfold ej; rw [if_neg (by simpa using e)]
      rw [this]
      exact bh
end
noncomputable def ir:Nat→List Nat→List (List Nat)→Option (List (List Nat))
  | 0,_,_=>none
  | n+1,left,acc=>if ej left==left then some (left::acc) else ir n (ej left) (behind 47 left::acc)
theorem Mv (l:List Nat):(ej l).length≤l.length:=by
  unfold ej
  have:=zv 47 l
  have:=Lm 47 (cU 47 l)
  split <;> lia
noncomputable abbrev TL (l:List (List Nat)):AV:=.lst (l.map T)
section
variable {g:Gx} {pl:Bool} {D:Nat} {sc:Scope} {E:ag} {σ σ₁ σ₂:Led}
theorem t8 {x y:List (List Nat)} (hz:x.length+y.length≤16777216):bN g pl D sc E σ (binaryOp .Add) Rep (TL x) (TL y) (TL (x++y)) σ:=by
  have:=pW (g:=g) (pl:=pl) (D:=D) (sc:=sc) (E:=E) (σ:=σ) (x:=x.map T) (y:=y.map T) (by rw [List.length_map,List.length_map]; exact hz)
  rwa [←List.map_append] at this
theorem zw {p:Pos}:Ev g pl D sc E σ (.List [] p) (TL []) σ:=j7 aU
theorem t9 {e:Expr} {x:List Nat} {p:Pos} (h:Ev g pl D sc E σ e (T x) σ₁) (hs:autoParam (∀ env,starEach [e] env=(false,eval e env)::starEach [] env) aI):Ev g pl D sc E σ (.List [e] p) (TL [x]) σ₁:=j7 (au h aU hs)
theorem ua (kf:KF g) {l:List Nat} {n:Nat} {ns:List (List Nat)} (hl:l.length≤100000) (hn:ir n l []=some ns) (Mw:n≤100000):Fn g pl (D+3) (.ref 817) [T l] σ (TL ns) σ:=by
  refine gI (ps:=["path"]) (rest:=["names","left","head","tail"]) [("path",some (T l)),("names",none),("left",none),("head",none),("tail",none)] kf.x7 ?_ ?_
  · intro doc pm an bb ct vs hl
    obtain ⟨v,rfl⟩:=jt hl
    rfl
  · refine aZ (ba zw) ?_
    refine aZ (ba aa) ?_
    refine dX (tN (fun k E U=>∃ left acc o1 o2,E=([("path",some (T l)),("names",some (TL acc)),("left",some (T left)),("head",o1),("tail",o2)]:ag)∧U=σ∧ir k left acc=some ns∧left.length≤100000∧acc.length+k≤100000) ?_ (k:=n) ⟨l,[],none,none,rfl,rfl,hn,hl,by simpa using Mw⟩)
    rintro k _ _ ⟨left,acc,o1,o2,rfl,rfl,hf,hlen,Xp⟩
    cases k with
    | zero=>cases hf
    | succ k=>
    refine aZ (mC (cj kf.g_split kf.x6 (au aa aU) (Mu kf hlen))) ?_
    unfold ir at hf
    cases e:ej left==left with
    | true=>
      rw [e,if_pos rfl] at hf
      cases hf
      refine bC (bO (kj ((bw aa aa dH).cast e) (bO (cb (bP (t9 aa) aa (t8 ?_)))))) (.inr (.inr ⟨_,rfl,by rw [eq_of_beq e]; rfl,rfl⟩))
      simp; lia
    | false=>
      rw [e,if_neg (by simp)] at hf
      refine aZ (cE ((bw aa aa dH).cast e) bh) ?_
      refine aZ (ba (bP (t9 aa) aa (t8 ?_))) ?_
      · simp; lia
      refine aZ (ba aa (.there (.there .here))) (bC bh (.inl ⟨.inl rfl,k,Nat.lt_succ_self k,ej left,behind 47 left::acc,_,_,rfl,rfl,hf,?_,?_⟩))
      · have:=Mv left; lia
      · simp; lia
end
noncomputable def bL (t:List Nat×Bool) (c:Nat):List Nat×Bool:=(if c != 47||(!t.2||t.1.getLast? != some 47) then t.1++[c] else t.1,t.2||c != 47)
noncomputable def jA (l:List Nat):List Nat:=(l.foldl bL ([],false)).1
theorem ub (l:List Nat):(l.foldl bL ([],false)).1.length≤l.length∧((l.foldl bL ([],false)).2=true→(l.foldl bL ([],false)).1≠[]):=by
  rcases List.eq_nil_or_concat l with rfl | ⟨k,c,rfl⟩
  · simp
  · have ih:=ub k
    rw [List.concat_eq_append,List.foldl_append]
    generalize List.foldl bL ([],false) k=t at *
    obtain ⟨t1,t2⟩:=t
    dsimp only at ih
    simp only [List.foldl_cons,List.foldl_nil,bL,List.length_append,List.length_cons,List.length_nil]
    constructor
    · split <;> simp <;> lia
    · intro h
      split
      · simp
      · rename_i hc
        simp at hc
        exact ih.2 hc.2.1
  termination_by l.length
theorem Mx {l:List Nat} {i:Nat} {a:AV} (h:(signsOf (S l))[i]?=some a):∃ c,l[i]?=some c∧a=T [c]:=by
  unfold signsOf signs at h
  simp at h
  obtain ⟨c,h1,h2⟩:=h
  exact ⟨c,h1,h2.symm⟩
noncomputable def dh (a b:List Nat):List Nat:=if b.head?==some 47||a==[] then b else if a.getLast?==some 47 then a++b else a++([47]++b)
section
variable {g:Gx} {pl:Bool} {D:Nat} {sc:Scope} {E:ag} {σ σ₁ σ₂:Led}
theorem My (kf:KF g) {l:List Nat} (hl:l.length≤100000):Fn g true (D+1) (.ref 824) [T l] σ (T (jA l)) σ:=by
  refine gI (ps:=["path"]) (rest:=["told","inside","sign"]) [("path",some (T l)),("told",none),("inside",none),("sign",none)] kf.x8 ?_ ?_
  · intro doc pm an bb ct vs hl
    obtain ⟨v,rfl⟩:=jt hl
    rfl
  · refine aZ (ba bK) ?_
    refine aZ (ba iJ) ?_
    refine cJ (Kz (P:=fun fl E' U=>fl=.next∧U=σ∧∃ b o,E'=([("path",some (T l)),("told",some (T (jA l))),("inside",b),("sign",o)]:ag))
      (fun i E' U=>U=σ∧∃ t o,(l.take i).foldl bL ([],false)=t∧E'=([("path",some (T l)),("told",some (T t.1)),("inside",some (.bool t.2)),("sign",o)]:ag)) aa ⟨rfl,_,none,rfl,rfl⟩ ?_ ?_) ?_
    · rintro i a _ _ hi ⟨rfl,t,o,ht,rfl⟩
      obtain ⟨c,hc,rfl⟩:=Mx hi
      have jB:i < l.length:=(List.getElem?_eq_some_iff.mp hc).1
      have inv:=ub (l.take i)
      rw [ht] at inv
      have bq:t.1.length≤l.length:=by have:=inv.1; rw [List.length_take] at this; lia
      have Mz:(l.take (i+1)).foldl bL ([],false)=bL t c:=by
        rw [List.take_add_one,hc,List.foldl_append,ht]; rfl
      refine ⟨_,.there (.there (.there .here)),?_⟩
      refine aZ (E₁:=[("path",some (T l)),("told",some (T (bL t c).1)),("inside",some (.bool t.2)),("sign",some (T [c]))]) (nX (b:=c != 47||(!t.2||t.1.getLast? != some 47)) (iL (or_cons ((bw aa (bK (l:=[47])) ju).cast ?_) fun h1=>or_cons (jn (dw aa (.bool _))) fun h2=>qm ?_)) (fun e=>?_) fun e=>?_) ?_
      · rw [Bool.eq_iff_iff]; simp
      · have h3:t.1≠[]:=inv.2 (by simpa using h2)
        obtain ⟨d,hd⟩:∃ d,t.1.getLast?=some d:=⟨t.1.getLast h3,List.getLast?_eq_some_getLast h3⟩
        refine (bw (LD aa nZ hd) (bK (l:=[47])) ju).cast ?_
        rw [hd,Bool.eq_iff_iff]; simp
      · have:(bL t c).1=t.1++[c]:=by unfold bL; rw [if_pos e]
        rw [this]
        exact bI (ba (bP aa aa (e8 (by simp; lia)))) bh
      · have:(bL t c).1=t.1:=by unfold bL; rw [if_neg (by rw [e]; simp)]
        rw [this]
        exact bh
      · refine aZ (ba (a:=.bool (bL t c).2) (xF aa (.bool _) (fun e=>?_) fun e=>?_)) (bC bh (.inl ⟨.inl rfl,rfl,_,_,Mz,rfl⟩))
        · unfold bL; rw [e]; exact ⟨rfl,rfl⟩
        · refine (nG aa (bK (l:=[47])) ju).cast ?_
          unfold bL; rw [e]
          congr 1
          rw [Bool.eq_iff_iff]; simp
    · rintro _ _ ⟨rfl,t,o,ht,rfl⟩
      rw [bD,List.take_length] at ht
      exact ⟨rfl,rfl,_,_,by unfold jA; rw [ht]⟩
    · rintro fl _ _ ⟨rfl,rfl,b,o,rfl⟩
      exact bC (bO (cb aa)) ⟨rfl,rfl⟩
end
section
variable {g:Gx} {pl:Bool} {D:Nat} {sc:Scope} {E:ag} {σ σ₁ σ₂:Led}
theorem MA {a b:AV} (doc pm:Value) (an:Option Addr) (bb ct:Value):Binds g (fnOf "join" "join" (dr (af 90)) (bZ (af 90)) (bz (af 90)) .none .none doc pm an bb ct) [a,b] [] [] σ ["a","p"] [a,.tup [b]]:=by
  intro c ι m s vs ws A Q Er kx ⟨h₀,I⟩ ap hv hw k
  refine hv.eN fun v u h1 h2=>?_
  have e:bindArgs (fnOf "join" "join" (dr (af 90)) (bZ (af 90)) (bz (af 90)) .none .none doc pm an bb ct) ⟨[v,u],[].zip ws⟩=(newTuple [u] >>= fun t=>pure [(Str.ofString "a",v),(Str.ofString "p",t)]):=by rfl
  rw [e]
  refine wpAny_bind (newTuple_N I.fr I.nw (fun h' F N=>wpAny_pure ?_) (by simp [sizeLine]))
  exact k [v,.ref s.heap.objs.size] ((s.heap.objs.size,cV [u])::ι) h' (I.to F N) (ap.cons fun q hq=>I.fresh q (List.mem_append_right _ hq)) (fun p hp=>.tail _ hp) (.cons (h1.mono fun p hp=>.tail _ hp) (.cons (.tup (.head _) (.cons (h2.mono fun p hp=>.tail _ hp) .nil)) .nil))
theorem MB (kf:KF g) {x y:List Nat} (hx:x.length≤100000) (hy:y.length≤100000):Fn g true (D+2) (.ref 803) [T x,T y] σ (T (dh x y)) σ:=by
  refine (oo (P:=fun r U=>r=T (dh x y)∧U=σ) (rest:=["sep","path","b"]) [("a",some (T x)),("p",some (.tup [T y])),("sep",none),("path",none),("b",none)] kf.xZ MA ?_).toG.det fun ω ω h=>h
  refine aZ lr ?_
  refine aZ (ba (cj kf.qf kf.qc (au aa aU) (t7 kf))) ?_
  refine aZ (ba (cj kf.tn kf.s7 (au aa aU) (zu kf))) ?_
  refine aZ (ba aa) ?_
  refine cJ (P₁:=fun fl E' U=>fl=.next∧U=σ∧∃ o,E'=([("a",some (T x)),("p",some (.tup [T y])),("sep",some (T [47])),("path",some (T (dh x y))),("b",o)]:ag)) (qo (dX (p7
    (fun i E' U=>U=σ∧∃ o,E'=([("a",some (T x)),("p",some (.tup [T y])),("sep",some (T [47])),("path",some (T (if i=0 then x else dh x y))),("b",o)]:ag)) aa ⟨rfl,_,rfl⟩ ?_ ?_))) ?_
  · rintro i a _ _ hi ⟨rfl,o,rfl⟩
    cases i with
    | succ i=>simp at hi
    | zero=>
    cases hi
    rw [if_pos rfl]
    refine ⟨_,.there (.there (.there (.there .here))),?_⟩
    refine aZ (ba (cj kf.qf kf.qc (au aa aU) (t7 kf))) (bC (bI (E₁:=[("a",some (T x)),("p",some (.tup [T y])),("sep",some (T [47])),("path",some (T (dh x y))),("b",some (T y))]) ?_ bh) (.inl ⟨.inl rfl,rfl,_,rfl⟩))
    refine nX (b:=y.head?==some 47||x==[]) (iL (or_cons ((dw (jm aa sW (au aa aU) xN) (.bool _)).cast (by rw [Lo])) fun h1=>qm ((jn (dw aa (y2 (by lia)))).cast ?_))) (fun e=>?_) fun e=>?_
    · rw [Bool.eq_iff_iff]; simp
    · have:dh x y=y:=by unfold dh; rw [if_pos e]
      rw [this]
      exact bI (ba aa) bh
    · refine bI (nX (b:=x.getLast?==some 47) ((dw (jm aa KR (au aa aU) KY) (.bool _)).cast (by rw [Lp])) (fun e2=>?_) fun e2=>?_) bh
      · have:dh x y=x++y:=by unfold dh; rw [if_neg (by rw [e]; simp),if_pos e2]
        rw [this]
        exact bI (fB aa (qk (x:=x) (y:=y) (by lia))) bh
      · have:dh x y=x++([47]++y):=by unfold dh; rw [if_neg (by rw [e]; simp),if_neg (by rw [e2]; simp)]
        rw [this]
        exact bI (fB (bP aa aa (e8 (by simp; lia))) (qk (x:=x) (y:=[47]++y) (by simp; lia))) bh
  · rintro _ _ ⟨rfl,o,rfl⟩
    exact ⟨rfl,rfl,o,rfl⟩
  · rintro _ _ _ ⟨rfl,rfl,o,rfl⟩
    exact bC (bO (cb aa)) (.inl ⟨_,rfl,rfl,rfl⟩)
end
section
variable {g:Gx} {pl:Bool} {D:Nat} {sc:Scope} {E:ag} {σ σ₁ σ₂:Led}
theorem MC (kf:KF g) {a b:AV} (doc pm:Value) (an:Option Addr) (bb ct:Value):Binds g (fnOf "reduce" "reduce" (dr (af 76)) (bZ (af 76)) (bz (af 76)) (.ref 702) .none doc pm an bb ct) [a,b] [] [] σ ["function","sequence","initial"] [a,b,.val (.ref 701)]:=by
  intro c ι m s vs ws A Q Er kx S ap hv hw k
  refine hv.eN fun v u h1 h2=>?_
  obtain ⟨o,n,ho,hd⟩:=kf.yy
  have:=binds_K (fd:=fnOf "reduce" "reduce" (dr (af 76)) (bZ (af 76)) (bz (af 76)) (.ref 702) .none doc pm an bb ct) (args:=⟨[v,u],[]⟩) (binds:=[(Str.ofString "function",v),(Str.ofString "sequence",u),(Str.ofString "initial",.ref 701)]) kx rfl ho hd (by rfl) (by rfl)
  exact this _ _ _ _ (k [v,u,.ref 701] ι s.heap S ap (fun ω h=>h) (.cons h1 (.cons h2 (.cons (.val _) .nil))))
noncomputable def bG:List (List Nat)→List Nat
  | []=>[]
  | a::l=>l.foldl dh a
theorem zx {x:Nat}:∀ {l:List Nat},x∈l→x≤l.sum
  | y::l,h=>by
    rw [List.sum_cons]
    rcases List.mem_cons.mp h with rfl | h
    · lia
    · have:=zx h; lia
theorem MD (a b:List Nat):(dh a b).length≤a.length+b.length+1:=by
  unfold dh
  split
  · lia
  · split <;> simp <;> lia
theorem ME (a:List Nat) (l:List (List Nat)):(l.foldl dh a).length≤a.length+(l.map List.length).sum+l.length:=by
  induction l generalizing a with
  | nil=>simp
  | cons b l ih=>
    have:=ih (dh a b)
    have:=MD a b
    simp only [List.foldl_cons,List.map_cons,List.sum_cons,List.length_cons]
    lia
theorem zy (kf:KF g) {a:List Nat} {l:List (List Nat)} (hs:a.length+(l.map List.length).sum+l.length≤50000):Fn g true (D+3) (.ref 709) [.val (.ref 803),TL (a::l)] σ (T (bG (a::l))) σ:=by
  refine (ei.at (as₁:=[.val (.ref 803)]) (as₂:=[]) fun r=>oo (P:=fun r U=>r=T (bG (a::l))∧U=σ) (rest:=["it","value","element"]) [("function",some (.val (.ref 803))),("sequence",some (.at r (TL (a::l)))),("initial",some (.val (.ref 701))),("it",none),("value",none),("element",none)] kf.yg (MC kf) ?_).toG.det fun ω ω h=>h
  refine aZ lr ?_
  refine cJ (P₁:=fun fl E' U=>∃ I,fl=.next∧U=(I,fC r 0)::σ∧E'=([("function",some (.val (.ref 803))),("sequence",some (.at r (TL (a::l)))),("initial",some (.val (.ref 701))),("it",some (.val (.ref I))),("value",none),("element",none)]:ag))
    (n5 (LR kf.yX aa) ?_) ?_
  · rintro _ _ _ ⟨I,rfl,rfl,rfl⟩
    exact ⟨_,.there (.there (.there .here)),I,rfl,rfl,rfl⟩
  rintro _ _ _ ⟨I,rfl,rfl,rfl⟩
  refine nJ (sP (σ₁:=(I,fC r 0)::σ) ((bw aa (cH kf.yQ) LV)) (p0 (eQ (p0 (ba (LS kf.yY (y:="sequence") (i:=0) (.there .here) aa rfl)) bh)) bh)) ?_
  refine cJ (P₁:=fun fl E' U=>fl=.next∧U=σ∧∃ o,E'=([("function",some (.val (.ref 803))),("sequence",some (.at r (TL (a::l)))),("initial",some (.val (.ref 701))),("it",some (.val (.ref I))),("value",some (T (bG (a::l)))),("element",o)]:ag))
    (LW (fun i E' U=>U=σ∧∃ o,E'=([("function",some (.val (.ref 803))),("sequence",some (.at r (TL (a::l)))),("initial",some (.val (.ref 701))),("it",some (.val (.ref I))),("value",some (T ((l.take i).foldl dh a))),("element",o)]:ag)) (y:="sequence") (i:=1) (.there .here) (by simp) aa ⟨rfl,none,rfl⟩ ?_ ?_) ?_
  · rintro i b _ _ hi ⟨rfl,o,rfl⟩
    have dD:(l.map T)[i]?=some b:=by simpa using hi
    obtain ⟨x,hx,rfl⟩:∃ x,l[i]?=some x∧T x=b:=by simpa using dD
    have jB:i < l.length:=(List.getElem?_eq_some_iff.mp hx).1
    refine ⟨_,.there (.there (.there (.there (.there .here)))),?_⟩
    have h1:(l.take (i+1)).foldl dh a=dh ((l.take i).foldl dh a) x:=by rw [List.take_add_one,hx,List.foldl_append]; rfl
    have h2:=ME a (l.take i)
    have h3:((l.take i).map List.length).sum≤(l.map List.length).sum:=by
      conv=>rhs; rw [←List.take_append_drop i l,List.map_append,List.sum_append]
      lia
    have h4:x.length≤(l.map List.length).sum:=zx (List.mem_map_of_mem (List.mem_of_getElem? hx))
    have h5:(l.take i).length≤l.length:=by rw [List.length_take]; lia
    refine bC (bI (ba (a:=T ((l.take (i+1)).foldl dh a)) ((y5 (.here) kf.x4 (au aa (au aa aU)) (MB kf (by lia) (by lia))).cast (by rw [h1]))) bh) (.inl ⟨.inl rfl,rfl,_,rfl⟩)
  · rintro _ _ ⟨rfl,o,rfl⟩
    refine ⟨rfl,rfl,o,?_⟩
    simp [bG]
  · rintro _ _ _ ⟨rfl,rfl,o,rfl⟩
    exact bC (bO (cb aa)) (.inl ⟨_,rfl,rfl,rfl⟩)
end
noncomputable def sub (c:Nat) (z:List Nat) (l:List Nat):List Nat:=l.flatMap fun k=>if k=c then z else [k]
theorem qv (c:Nat) (z a b:List Nat):sub c z (a++b)=sub c z a++sub c z b:=by unfold sub; rw [List.flatMap_append]
theorem qw (c:Nat) (z:List Nat) (k:Nat) (l:List Nat):sub c z (k::l)=(if k=c then z else [k])++sub c z l:=by unfold sub; rw [List.flatMap_cons]
theorem uc (c:Nat) (z:List Nat):∀ l:List Nat,c∉l→sub c z l=l
  | [],_=>rfl
  | k::r,h=>by
    have hk:¬ k=c:=fun e=>h (by rw [e]; exact List.mem_cons_self ..)
    rw [qw,if_neg hk,uc c z r fun m=>h (List.mem_cons_of_mem _ m)]
    rfl
theorem zz (c:Nat) (z:List Nat):∀ parts:List Str,(∀ p∈parts,c∉p.cps.toList)→sub c z (Str.join ⟨#[c]⟩ parts).cps.toList=(Str.join (S z) parts).cps.toList
  | [],_=>rfl
  | [p],h=>uc c z _ (h p (List.mem_singleton.mpr rfl))
  | p::q::r,h=>by
    have ih:=zz c z (q::r) fun a ha=>h a (List.mem_cons_of_mem _ ha)
    show sub c z (p++⟨#[c]⟩++Str.join ⟨#[c]⟩ (q::r)).cps.toList=(p++S z++Str.join (S z) (q::r)).cps.toList
    simp only [Str.cps_append,Array.toList_append]
    rw [qv,qv,ih,uc c z _ (h p (List.mem_cons_self ..))]
    show p.cps.toList++sub c z [c]++_=_
    simp [sub]
theorem MF (l z:List Nat) (c:Nat):Txt.replace (S l) (S [c]) (S z)=S (sub c z l):=by
  have h:=StrLaws.replace_one (S l) (S z) c
  rw [h,←Lc (Str.join _ _)]
  congr 1
  rw [←zz c z _ (StrLaws.split_free (S l) c),StrLaws.join_split]
theorem sub_len (c:Nat) (z:List Nat) (l:List Nat) (hz:1≤z.length):(sub c z l).length≤l.length * z.length:=by
  induction l with
  | nil=>simp [sub]
  | cons k l ih=>
    rw [qw,List.length_append,List.length_cons,Nat.add_mul,Nat.one_mul]
    split
    · lia
    · rw [List.length_cons,List.length_nil]; lia
theorem MG (c:Nat) (l:List Nat):sub c [] l=l.filter (· != c):=by
  induction l with
  | nil=>rfl
  | cons k l ih=>
    rw [qw,ih,List.filter_cons]
    by_cases e:k=c
    · simp [e]
    · simp [e]
theorem MH (l y z:List Nat) (c:Nat) (hy:y.head?=some c) (h:c∉l):Txt.replace (S l) (S y) (S z)=S l:=by
  have ho:Builtin.Str.occurrences (S l) (S y) 0 (S l).length ((S l).length+1)=[]:=by
    rcases StrLaws.occ_head (S l) (S y) ((S l).length+1) (by lia) with ⟨h1,_⟩ | ⟨i,r,h1,h2,_⟩
    · exact h1
    · exfalso
      obtain ⟨h3,h4⟩:=h2
      unfold Builtin.Str.subAt at h4
      rw [beq_iff_eq] at h4
      cases y with
      | nil=>simp at hy
      | cons d y=>
      simp at hy
      subst hy
      have:=congrArg (fun a:Array Nat=>a[0]?) h4
      rw [bD,bD,List.length_cons] at h3
      simp at this
      have hi:i < l.length:=by lia
      have h5:l[i]?=some d:=by
        rw [List.getElem?_take,List.getElem?_drop,Nat.add_zero,if_pos (by rw [bD,List.length_cons]; lia)] at this
        exact this
      exact h (List.mem_of_getElem? h5)
  unfold Txt.replace
  rw [ho]; rfl
noncomputable def cR (l:List Nat) (d:Nat):List Nat:=
  if d==0&&(l != []&&l.filter (· != 97)==[]) then l
  else if decide (d < 2)&&(!l.contains 39&&!l.contains 10) then [39]++l++[39]
  else [34]++sub 10 [92,110] (sub 34 [92,34] (sub 92 [92,92] l))++[34]
section
variable {g:Gx} {pl:Bool} {D:Nat} {sc:Scope} {E E':ag} {σ σ₁ σ₂:Led}
theorem iQ {t:Expr} {body rest:List Stmt} {pos:Pos} {b:Bool} {P:Fl→ag→Led→Prop} (ht:cv g pl D sc E σ t b σ₁) (hy:b=true→b0 g pl D sc E σ₁ body (fun fl E' U=>fl≠.next∧P fl E' U)) (hn:b=false→b0 g pl D sc E σ₁ rest P):
    b0 g pl D sc E σ (.If t body [] pos::rest) P:=by
  cases b with
  | true=>
    refine cJ (P₁:=fun fl E' U=>fl≠.next∧P fl E' U) (hY ht (fun ω=>hy rfl) fun e=>nomatch e) fun fl E₁ σ₁ hp=>?_
    cases fl with
    | next=>exact absurd rfl hp.1
    | brk=>exact hp.2
    | cont=>exact hp.2
    | ret a=>exact hp.2
  | false=>exact nJ (sQ ht bh) (hn rfl)
theorem MI:jl g "replace" "str.replace":=.mk fun ω ω ω ω ω ω ω h=>by with_reducible exact GM.replace h
theorem zA {o:Expr} {apos pos p1 p2:Pos} {n1 n2:Nat} {x y z:Str} (ho:Ev g pl D sc E σ o (.str x) σ₁) (MJ:(y==z)=false) (hz:x.length+(x.length+1) * z.length≤16777216)
    (hm:autoParam (∀ env,∃ pl,eval (.Call (.Attribute o "replace" apos) [.Constant (.str y) n1 p1,.Constant (.str z) n2 p2] [] pos) env=(do
      let ov ←eval o env
      standAt apos.atName
      let (f,first) ←holding [ov] (getMethod ov "replace" pl)
      callWith pos f first (backTo pos (starEach [.Constant (.str y) n1 p1,.Constant (.str z) n2 p2] env)) [])) aE):
    Ev g pl D sc E σ (.Call (.Attribute o "replace" apos) [.Constant (.str y) n1 p1,.Constant (.str z) n2 p2] [] pos) (.str (Txt.replace x y z)) σ₁:=by
  refine Comes.of fun c ι m s Q Er ok S R' ap ht k=>?_
  obtain ⟨dK,hm⟩:=hm (c.env sc)
  refine MethodCall_ (ho.on c ι m s _ _ ok S R' ap ht fun v ar m₁ ah ax av ai aq aj ak hv=>?_) hm
  refine hv.is fun tx=>?_
  with_reducible refine MI.on c.A Er _ x tx dK _ ?_
  refine callWith_method1 (spliced_more (wpAny_Constant_str (spliced_more (wpAny_Constant_str (spliced_none ?_)))))
  refine SC.replace (by show ax≠0; lia) (by show ax+1≠0; lia) (by show ax≠ax+1; lia) MJ hz fun t' tk=>?_
  exact k _ ar m₁ ah tk ai aq aj ak (.str _ _)
theorem qx {o:Expr} {apos pos p1 p2:Pos} {n1 n2:Nat} {x z:List Nat} {c:Nat} {ys zs:Str} (ho:Ev g pl D sc E σ o (T x) σ₁) (hy:ys=S [c]) (hz:zs=S z) (aT:(z==[c])=false) (hl:x.length≤100000) (MK:z.length≤10)
    (hm:autoParam (∀ env,∃ pl,eval (.Call (.Attribute o "replace" apos) [.Constant (.str ys) n1 p1,.Constant (.str zs) n2 p2] [] pos) env=(do
      let ov ←eval o env
      standAt apos.atName
      let (f,first) ←holding [ov] (getMethod ov "replace" pl)
      callWith pos f first (backTo pos (starEach [.Constant (.str ys) n1 p1,.Constant (.str zs) n2 p2] env)) [])) aE):
    Ev g pl D sc E σ (.Call (.Attribute o "replace" apos) [.Constant (.str ys) n1 p1,.Constant (.str zs) n2 p2] [] pos) (T (sub c z x)) σ₁:=by
  subst hy; subst hz
  refine (zA ho ?_ ?_ hm).cast (by rw [MF])
  · rw [qa]; rw [beq_eq_false_iff_ne] at aT ⊢; exact aT.symm
  · rw [bD,bD]
    have:(x.length+1) * z.length≤(x.length+1) * 10:=Nat.mul_le_mul_left _ MK
    lia
theorem zB {l r:Expr} {p:Pos} {c:Nat} {x:List Nat} (hl:Ev g pl D sc E σ l (T [c]) σ₁) (hr:Ev g pl D sc E σ₁ r (T x) σ₂) (hm:autoParam (behindInMarks .NotIn r=false) aR):cv g pl D sc E σ (.Compare l [.NotIn] [r] p) (!x.contains c) σ₂:=
  (bw hl hr Ke hm).cast (notIn_one x c)
theorem ML (kf:KF g) {l:List Nat} {d:Nat} (hl:l.length≤1000):Fn g pl (D+1) (.ref 831) [T l,.int d] σ (T (cR l d)) σ:=by
  refine gI (ps:=["name","dress"]) (rest:=["inner"]) [("name",some (T l)),("dress",some (.int d)),("inner",none)] kf.ya ?_ ?_
  · intro doc pm an bb ct vs hl
    obtain ⟨v,u,rfl⟩:=ig hl
    rfl
  · refine iQ (b:=d==0&&(l != []&&l.filter (· != 97)==[])) (σ₁:=σ) (iL (and_cons ((bw aa nD sE).cast ?_) fun ω=>and_cons (bw aa (bK (l:=[])) ju) fun ω=>ql ((bw (qx (c:=97) (z:=[]) aa (by rfl) (by rfl) (by rfl) (by lia) (by simp)) (bK (l:=[])) dH).cast (by rw [MG])))) (fun e=>?_) fun e=>?_
    · rw [Bool.eq_iff_iff]; simp
    · refine bC (bO (cb aa)) ⟨by simp,?_,rfl⟩
      unfold cR; rw [if_pos e]
    refine iQ (b:=decide (d < 2)&&(!l.contains 39&&!l.contains 10)) (σ₁:=σ) (iL (and_cons ((bw aa nD Ka).cast ?_) fun ω=>and_cons (zB (bK (l:=[39])) aa) fun ω=>ql (zB (bK (l:=[10])) aa))) (fun e2=>?_) fun e2=>?_
    · rw [Bool.eq_iff_iff]; simp; lia
    · refine bC (bO (cb (bP (bP (bK (l:=[39])) aa (e8 (by simp; lia))) (bK (l:=[39])) (e8 (by simp; lia))))) ⟨by simp,?_,rfl⟩
      unfold cR; rw [if_neg (by rw [e]; simp),if_pos e2]
    have h1:=sub_len 92 [92,92] l (by simp)
    have h2:=sub_len 34 [92,34] (sub 92 [92,92] l) (by simp)
    have h3:=sub_len 10 [92,110] (sub 34 [92,34] (sub 92 [92,92] l)) (by simp)
    simp only [List.length_cons,List.length_nil] at h1 h2 h3
    refine aZ (ba (qx (c:=10) (z:=[92,110]) (qx (c:=34) (z:=[92,34]) (qx (c:=92) (z:=[92,92]) aa (by rfl) (by rfl) (by rfl) (by lia) (by simp)) (by rfl) (by rfl) (by rfl) (by lia) (by simp)) (by rfl) (by rfl) (by rfl) (by lia) (by simp))) ?_
    refine bC (bO (cb (bP (bP (bK (l:=[34])) aa (e8 (by simp; lia))) (bK (l:=[34])) (e8 (by simp; lia))))) ⟨?_,rfl⟩
    unfold cR; rw [if_neg (by rw [e]; simp),if_neg (by rw [e2]; simp)]
end
noncomputable def dj (l:List Nat) (x:Str):Bool:=match x.cps.toList with | [c]=>l.contains c | _=>false
theorem zC (l:List Nat) (c:Nat):dj l (S [c])=l.contains c:=by unfold dj; simp
noncomputable def gJ (p:Nat→Bool) (l:List Nat) (k n:Nat):Prop:=k≤n∧∀ j,k≤j→j < n→∃ c,l[j]?=some c∧p c=true
section
variable {g:Gx} {pl:Bool} {D:Nat} {sc:Scope} {E E':ag} {σ σ₁ σ₂:Led}
theorem iR {x y:Nat}:k7 g pl D sc E σ .Add (.int x) (.int y) (.int ((x+y:Nat):Int)) σ:=by
  have:=Ku (g:=g) (pl:=pl) (D:=D) (sc:=sc) (E:=E) (σ:=σ) (x:=(x:Int)) (y:=(y:Int))
  rwa [←Int.natCast_add] at this
theorem kr {x y:Nat}:bN g pl D sc E σ (binaryOp .Add) Rep (.int x) (.int y) (.int ((x+y:Nat):Int)) σ:=by
  have:=xt (g:=g) (pl:=pl) (D:=D) (sc:=sc) (E:=E) (σ:=σ) (x:=(x:Int)) (y:=(y:Int))
  rwa [←Int.natCast_add] at this
theorem bE {n:Nat} {k:Nat} {p:Pos} {i:Int} (h:autoParam (i=(n:Int)) aR):Ev g pl D sc E σ (.Constant (.int i) k p) (.int (n:Int)) σ:=h▸nD
theorem jC {c:Nat} {a:Addr} {l:List Nat} (hS:(a,dj l)∈g.sets):bN g pl D sc E σ (compareOp .In) Rep (T [c]) (.val (.ref a)) (.bool (l.contains c)) σ:=by
  have:=Kf (g:=g) (pl:=pl) (D:=D) (sc:=sc) (E:=E) (σ:=σ) (y:=S [c]) hS
  rwa [zC] at this
theorem jD (kf:KF g) {l cs:List Nat} {a:Addr} {k n:Nat} {e:Nat} (hS:(a,dj cs)∈g.sets) (hr:gJ cs.contains l k n) (he:l[n]?=some e) (hc:cs.contains e=false) (hl:l.length≤100000):
    Fn g pl (D+1) (.ref 545) [T l,.int k,.val (.ref a)] σ (.int n) σ:=by
  refine gI (ps:=["src","pos","chars"]) (rest:=[]) [("src",some (T l)),("pos",some (.int k)),("chars",some (.val (.ref a)))] kf.tc ?_ ?_
  · intro doc pm an bb ct vs hl
    obtain ⟨v,u,w,rfl⟩:=nW hl
    rfl
  · refine cJ (P₁:=fun fl E' U=>fl=.next∧U=σ∧E'=([("src",some (T l)),("pos",some (.int n)),("chars",some (.val (.ref a)))]:ag)) (qo (dX (xG
      (fun m E' U=>U=σ∧∃ j,m=n - j∧k≤j∧j≤n∧E'=([("src",some (T l)),("pos",some (.int (j:Nat))),("chars",some (.val (.ref a)))]:ag)) ?_ (n:=n - k) ⟨rfl,k,rfl,Nat.le_refl _,hr.1,rfl⟩))) ?_
    · rintro m _ _ ⟨rfl,j,rfl,ud,ue,rfl⟩
      by_cases bq:j < n
      · obtain ⟨c,h1,h2⟩:=hr.2 j ud bq
        refine .inr ⟨_,(bw (dU aa aa h1 (by lia)) aa (jC hS)).cast h2,?_⟩
        exact bC (bI (fB (bE (n:=1)) iR) bh) (.inl ⟨.inl rfl,n - (j+1),by lia,rfl,j+1,rfl,by lia,by lia,rfl⟩)
      · have:j=n:=by lia
        subst this
        exact .inl ⟨_,(bw (dU aa aa he (by lia)) aa (jC hS)).cast hc,rfl,rfl,rfl⟩
    · rintro _ _ _ ⟨rfl,rfl,rfl⟩
      exact bC (bO (cb aa)) ⟨rfl,rfl⟩
end
end Mine
end
section
open PySem PySem.W PyProof.Rows PySem.Calls
namespace Mine
theorem zD:Slot "frozenset" "isdisjoint" "frozenset.isdisjoint":=
  .of (owner:="frozenset") (n:="isdisjoint") (by rw [typeLookup_type,builtinLookup_eq_fast]; kernel_rfl) (by decide+kernel) (by decide+kernel) (by decide+kernel)
    (by first | exact .inl (by decide+kernel) | exact .inr (by decide+kernel)) (by rw [isSubtype_type]; kernel_rfl)
theorem MM:entryFor table "frozenset.isdisjoint"=some Builtin.«frozenset.isdisjoint»:=entryFor_of_tree (by kernel_rfl)
theorem zE:entryFor table "frozenset.isdisjoint.loop"=some Builtin.«frozenset.isdisjoint.loop»:=entryFor_of_tree (by kernel_rfl)
theorem qy:plainId "frozenset.isdisjoint.loop"=true:=by decide+kernel
theorem MN (a b:Value):argsOk "frozenset.isdisjoint" ⟨[a,b],[]⟩:=by
  unfold argsOk; rw [signature?_of (id:="frozenset.isdisjoint") (n:=['t','n','i','o','j','s','i','d','s','i']) (o:=['t','e','s','n','e','z','o','r','f']) (by kernel_rfl) PySem.W.FB.owner_frozenset]; kernel_rfl
theorem MO:typeOf (.builtin "frozenset.isdisjoint")=pure (.type "method_descriptor"):=by show builtinType _=_; rw [builtinType_eq_fast]; kernel_rfl
theorem MP:PlainAttrs "frozenset":=
  ⟨⟨"object.__getattribute__",by rw [typeLookup_type,builtinLookup_eq_fast]; kernel_rfl,by decide+kernel⟩,by rw [typeLookup_type,builtinLookup_eq_fast]; kernel_rfl⟩
section
variable {prog:Program} {w:World} {A:Around} {Er:Value→Shared→Prop} {s:Shared}
theorem MQ {T:String} {name:Str} {id:String} {b:Builtin} {self:Value} {rest:List Value} {Q:Value→Shared→Prop} (h:Slot T name id) (hT:s.TypeIs self T) (hb:entryFor table id=some b)
    (hc:wpAny (model prog w) A.in1 (b ⟨self::rest,[]⟩) (fun fin s'=>match fin with
      | .done f=>(match (Except.ok f:Result) with | .ok (.ret v)=>Q v s' | .ok _=>False | .error e=>Er e s')
      | .again c'=>c'.quiet=true∧codeAny (model prog w) A c' (fun r s'=>match r with | .ok (.ret v)=>Q v s' | .ok _=>False | .error e=>Er e s') s') Er s)
    (ha:argsOk id ⟨self::rest,[]⟩):wpAny (model prog w) A (call (.builtin id) (self::rest)) Q Er s:=
  wpAny_call (codeAny_call_builtin h.plain hb (h.check _ _ _ _ _ _ _ _ hT ha hc))
theorem MR {a I:Addr} {x:Str} {t:Tok} {eg:Str→Bool} {es:Array (Int×Value)} {ep:Nat} {tb:SetTable} {R:Result→Shared→Prop} (hh:A.handled=none) (aT:a≠I)
    (uf:ElemsOf (PySem.strKind prog w) es.toList) (mF:∀ k,eg k=true↔∃ e∈es.toList,(PySem.strKind prog w).is k e.2=true) (hf:tb.fits es.size=true) (hb:es.size < 4096)
    (eh:∀ c∈x.cps.toList,eg ⟨#[c]⟩=false):∀ (k i:Nat) (s:Shared),x.cps.size - i=k→i≤x.cps.size→s.heap.IsStrIter I (strIterType x) x t i→s.heap.get? a=some {cls:=.type "frozenset",data:=.set es ep tb}→
    (∀ h' tk,(∀ b o,b≠I→s.heap.get? b=some o→h'.get? b=some o)→R (.ok (.ret (.bool true))) {s with heap:=h',toks:=tk})→
    codeAny (model prog w) A (.builtin "frozenset.isdisjoint.loop" ⟨[.ref a,.ref I],[]⟩) R s:=by
  have W:=Walks.xI (prog:=prog) (w:=w) (A:=A.in1) hh I x t
  intro k
  induction k with
  | zero=>
    intro i s hk hi fa hg hR
    have gp:i=x.cps.size:=by lia
    subst gp
    refine codeAny_builtin zE ?_
    rw [Around.under_plainId qy _]
    show wpAny _ A.in1 (pyNext (.ref I) >>= _) _ _ s
    refine wpAny_bind (W.done s _ _ fa fun h' tk ly=>?_)
    exact wpAny_pure (hR h' tk fun b o hb e=>ly b o (by simpa using hb) e)
  | succ k ih=>
    intro i s hk hi fa hg hR
    have bq:i < x.cps.size:=by lia
    refine codeAny_builtin zE ?_
    rw [Around.under_plainId qy _]
    show wpAny _ A.in1 (pyNext (.ref I) >>= _) _ _ s
    refine wpAny_bind (W.item i s _ _ bq fa fun v h' tk hP MS ly=>?_)
    obtain ⟨c,u,hc,rfl⟩:=hP
    have gK:=ly a _ (by simpa using aT) hg
    have hS:eg ⟨#[c]⟩=false:=eh c (by
      have:x.cps.toList[i]?=some c:=by rw [Array.getElem?_toList]; exact hc
      exact List.mem_of_getElem? this)
    refine wpAny_bind (wpAny_holding ?_)
    unfold setContains
    have iu:(PySem.strKind prog w).is ⟨#[c]⟩ (.str ⟨#[c]⟩ u)=true:=by simp [PySem.strKind,Value.isStrOf]
    refine wpAny_holding (wpAny_bind ((PySem.strKind prog w).pyHash iu ?_))
    refine wpAny_bind (setFind_any (s:={s with heap:=h',toks:=tk+1}) iu rfl gK rfl uf mF hb hf fun r hr=>?_)
    refine wpAny_pure ?_
    rw [hr,hS]
    simp only [Bool.false_eq_true,if_false]
    refine wpAny_pure ⟨plainId_quiet qy _,ih (i+1) _ (by lia) bq MS gK fun cK il MT=>?_⟩
    exact hR cK il fun b o hb e=>MT b o hb (ly b o (by simpa using hb) e)
theorem MU {a:Addr} {x:Str} {t:Tok} {eg:Str→Bool} {n:Nat} {Q:Value→Shared→Prop} (hh:A.handled=none) (hS:FrozAt (PySem.strKind prog w) s.heap a eg n) (hb:n < 4096) (eh:∀ c∈x.cps.toList,eg ⟨#[c]⟩=false)
    (h:∀ h' tk,(∀ b o,s.heap.get? b=some o→h'.get? b=some o)→Q (.bool true) {s with heap:=h',toks:=tk}):
    wpAny (model prog w) A (call (.builtin "frozenset.isdisjoint") [.ref a,.str x t]) Q Er s:=by
  obtain ⟨es,ep,tb,hg,uf,mF,hn,hf⟩:=hS
  refine MQ zD ⟨_,hg,rfl⟩ MM ?_ (MN _ _)
  unfold Builtin.«frozenset.isdisjoint» Builtin.Frozenset.oneOther
  simp only [List.isEmpty_nil,bind_assoc]
  unfold Builtin.Frozenset.addrOf
  refine wpAny_bind (wpAny_pure ?_)
  try dsimp only
  refine wpAny_bind (wpAny_pure ?_)
  try dsimp only
  rw [if_neg (show ¬ ((Value.str x t==Value.ref a)=true) from Bool.false_ne_true)]
  refine wpAny_bind (m:=typeOf (Value.str x t)) (wpAny_pure ?_)
  rw [if_neg (by decide)]
  refine wpAny_bind (wpAny_pyIter_strU ?_)
  refine wpAny_pure ⟨plainId_quiet qy _,?_⟩
  refine MR (A:=A) hh (Nat.ne_of_lt (Heap.lt_size hg)) uf mF hf (by rw [hn]; exact hb) eh x.cps.size 0 {s with heap:=s.heap.push {cls:=.type (strIterType x),data:=.fields #[.str x t,.int 0 0]}} (by lia) (Nat.zero_le _) ⟨_,Heap.get?_push_size _ rfl,rfl,rfl⟩ (Heap.get?_push_of_some _ hg) fun h' tk hk=>?_
  exact h h' tk fun b o e=>hk b o (Nat.ne_of_lt (Heap.lt_size e)) (Heap.get?_push_of_some _ e)
end
section
variable {g:Gx} {pl:Bool} {D:Nat} {sc:Scope} {E E' E₁ aO:ag} {σ U σ₁ σ₂ aN:Led}
noncomputable abbrev mG (g:Gx) (pl:Bool) (D:Nat) (sc:Scope) (E:ag) (σ:Led) (cL:List Keyword) (ks:List AV) (U:Led):Prop:=
  ∀ pos,Comes g pl D sc E σ (fun c=>evalAll ((backToKw pos (keywordEach cL (c.env sc))).map (·.2))) aY ks E U
theorem ug:mG g pl D sc E σ [] [] σ:=fun ω=>Comes.of fun ω ι m s ω ω ω S R ap ω k=>wpAny_evalAll_nil (k [] ι m s.heap s.toks S R ap (fun ω h=>h) .nil)
theorem qz {n:Option Str} {e:Expr} {p:Pos} {cL:List Keyword} {a:AV} {ks:List AV} (h:Ev g pl D sc E σ e a σ₁) (t:mG g pl D sc E σ₁ cL ks σ₂):mG g pl D sc E σ (⟨n,e,p⟩::cL) (a::ks) σ₂:=by
  refine fun pos=>Comes.of fun c ι m s Q Er ok S R ap ht k=>?_
  show wpAny g.M c.A (evalAll ((eval e (c.env sc) >>= fun v=>standAt pos >>= fun ω=>pure v)::(backToKw pos (keywordEach cL (c.env sc))).map (·.2))) Q Er s
  refine wpAny_evalAll_cons (wpAny_bind (h.on c ι m s _ _ ok S R ap ht fun v ar m₁ ah ax av ai aq aj ak hv=>wpAny_bind (wpAny_standAt (wpAny_pure ?_))))
  refine (t pos).on c ar m₁ _ _ _ ok ai aq aj av fun vs aG m₂ aB a9 a8 aw aC ay aA aM=>?_
  exact k (v::vs) aG m₂ aB a9 aw aC ay (fun p hp=>aA p (ak p hp)) (.cons (hv.mono aA) aM)
theorem MV {x:Str} {p pos:Pos} {e:Expr} {es:List Expr} {as ks:List AV} {f:Addr} {cL:List Keyword} {kn:List Str} {P:AV→Led→Prop}
    (e0:nsIn g.K mainGlobals x=some (some (.ref f))) (hk:keepIn g.K (.ref f)=true) (dq:ee g pl D sc E σ (e::es) as σ₁) (mH:mG g pl D sc E σ₁ cL ks σ₂) (cP:ei g pl D (.ref f) as kn ks σ₂ P)
    (hn:autoParam (sc.names.lookup x=some .globalImplicit) aK) (hd:autoParam ((x==("__debug__":Str))=false) aK)
    (he:autoParam (∀ env,starEach (e::es) env=(false,eval e env)::starEach es env) aI)
    (cW:autoParam (∀ pos env,((backTo pos (starEach (e::es) env)).any (·.1)||(backToKw pos (keywordEach cL env)).any (·.1.isNone))=false) aJ)
    (jq:autoParam (∀ pos env,(backToKw pos (keywordEach cL env)).all (·.1.isSome)=true) aJ)
    (ou:autoParam (∀ pos env,(backToKw pos (keywordEach cL env)).filterMap (·.1)=kn) aJ):
    sM g pl D sc E σ (.Call (.Name x p) (e::es) cL pos) fun b E' U=>P b U∧E'=E:=by
  refine .mk fun c ι m s Q Er ok S R' ap ht k=>?_
  refine wpAny_Call_Name_kw ((cH e0 hn hd).on c ι m s _ _ ok S R' ap ht fun v ar m₁ ah ax av ai aq aj ak hv=>?_)
  refine hv.is ?_
  obtain ⟨h₀,dR⟩:=ai
  refine callWith_KW (ok.kh dR) hk (jq _ _) ((dq pos).on c ar m₁ _ _ _ ok ⟨h₀,dR⟩ aq aj av fun vs aG m₂ aB a9 a8 aw aC ay aA aM=>?_) (cW _ _) (he _)
  refine (mH pos).on c aG m₂ _ _ _ ok aw aC ay a8 fun ws br cD bu bx ck bj cI bp bo jw=>?_
  obtain ⟨nP,ow⟩:=bj
  rw [ou]
  refine ⟨ok.kh ow,?_⟩
  refine wpAny_with_toks (n:=1) ck (cP c sc br cD _ _ _ _ _ ok ⟨nP,ow⟩ bp ck (aM.mono bo) jw fun v b iS U eO jE dM eS fb oy hP iv=>?_)
  exact k v b E U iS cD eO jE iv dM (cI.mono fb) eS (fun p hp=>fb p (bo p (aA p (ak p hp)))) oy ⟨hP,rfl⟩
theorem zF {x:Str} {p pos:Pos} {e:Expr} {es:List Expr} {as ks:List AV} {f:Addr} {cL:List Keyword} {kn:List Str} {r:AV}
    (e0:nsIn g.K mainGlobals x=some (some (.ref f))) (hk:keepIn g.K (.ref f)=true) (dq:ee g pl D sc E σ (e::es) as σ₁) (mH:mG g pl D sc E σ₁ cL ks σ₂) (cP:ei g pl D (.ref f) as kn ks σ₂ fun x y=>x=r∧y=aN)
    (hn:autoParam (sc.names.lookup x=some .globalImplicit) aK) (hd:autoParam ((x==("__debug__":Str))=false) aK)
    (he:autoParam (∀ env,starEach (e::es) env=(false,eval e env)::starEach es env) aI)
    (cW:autoParam (∀ pos env,((backTo pos (starEach (e::es) env)).any (·.1)||(backToKw pos (keywordEach cL env)).any (·.1.isNone))=false) aJ)
    (jq:autoParam (∀ pos env,(backToKw pos (keywordEach cL env)).all (·.1.isSome)=true) aJ)
    (ou:autoParam (∀ pos env,(backToKw pos (keywordEach cL env)).filterMap (·.1)=kn) aJ):
    Ev g pl D sc E σ (.Call (.Name x p) (e::es) cL pos) r aN:=
  (MV e0 hk dq mH cP hn hd he cW jq ou).det fun ω ω ω h=>⟨h.1.1,h.2,h.1.2⟩
theorem MW (x y:Str) (i:Int) (t u v:Tok) (k:Nat) (rest:List Nat) (h:Builtin.Str.occurrences x y (fromIndex x.length i) x.length 1=k::rest):Gives (Builtin.«str.index» ⟨[.str x t,.str y u,.int i v],[]⟩) (.int k):=by
  show Gives (match Builtin.Str.occurrences x y (fromIndex x.length i) (min x.length x.length) 1 with | k::_=>retInt k | []=>(do rule "str.index.not-found"; raiseError "ValueError" "substring not found")) _
  rw [Nat.min_self,h]
  exact .of_eq rfl
theorem MX {l:List Nat} {c k n:Nat} (hr:gJ (· != c) l k n) (hn:l[n]?=some c):∃ r,Builtin.Str.occurrences (S l) (S [c]) (fromIndex (S l).length (k:Int)) (S l).length 1=n::r:=by
  have hk:fromIndex (S l).length (k:Int)=k:=by unfold fromIndex; rw [if_neg (by lia)]; lia
  have oz:n < l.length:=(List.getElem?_eq_some_iff.mp hn).1
  have hg:∀ v,v < l.length→Array.getD (S l).cps v 0=l[v]?.getD 0:=fun v hv=>by simp
  rcases StrLaws.find3_spec (S l) c (k:Int) with ⟨h1,h2⟩ | ⟨j,h1,h2,h3,h4,h5⟩
  · exfalso
    refine h2 n (by rw [hk]; exact hr.1) (by rw [bD]; exact oz) ?_
    rw [hg n oz,hn]; rfl
  · rw [bD] at h3
    rw [hk] at h2 h5
    rw [hg j h3] at h4
    have ue:j=n:=by
      have h6:¬ j < n:=fun bq=>by
        obtain ⟨d,hd,hp⟩:=hr.2 j h2 bq
        rw [hd] at h4; simp at h4 hp; exact hp h4
      have h7:¬ n < j:=fun bq=>h5 n hr.1 bq (by rw [hg n oz,hn]; rfl)
      lia
    subst ue
    unfold Txt.find3 at h1
    revert h1
    generalize Builtin.Str.occurrences (S l) (S [c]) (fromIndex (S l).length ↑k) (S l).length 1=o
    cases o with
    | nil=>intro h1; exact absurd h1 (by simp)
    | cons a r=>
      intro h1
      have h6:(a:Int)=(j:Int):=h1
      have h7:a=j:=by lia
      exact ⟨r,by rw [h7]⟩
theorem MY {l:List Nat} {c k n:Nat} (hr:gJ (· != c) l k n) (hn:l[n]?=some c):Fn g pl D (.builtin "str.index") [T l,T [c],.int k] σ (.int n) σ:=by
  intro C sc ι m s vs Q Er ok S ap ht aM kk
  refine aM.ll fun ω ω ω h1 h2 h3=>?_
  refine h1.is fun ω=>?_; refine h2.is fun ω=>?_; refine h3.is fun ω=>?_
  obtain ⟨r,ho⟩:=MX hr hn
  exact call_gives F.slot_str_index (typeIs_str _ _ _) F.entry_str_index (F.args_str_index_3 _ _ _) (MW _ _ _ _ _ _ n r ho) (kk _ ι s.heap _ S ap (fun ω h=>h) (.int _ _))
theorem MZ {o e:Expr} {apos pos:Pos} {a:Addr} {cs x:List Nat} (ho:Ev g true D sc E σ o (.val (.ref a)) σ₁) (hS:(a,dj cs)∈g.sets) (he:Ev g true D sc E σ₁ e (T x) σ₂) (eh:∀ c∈x,cs.contains c=false)
    (fa:autoParam (∀ env,starEach [e] env=(false,eval e env)::starEach [] env) aI)
    (hm:autoParam (∀ env,∃ pl,eval (.Call (.Attribute o "isdisjoint" apos) [e] [] pos) env=(do
      let ov ←eval o env
      standAt apos.atName
      let (f,first) ←holding [ov] (getMethod ov "isdisjoint" pl)
      callWith pos f first (backTo pos (starEach [e] env)) [])) aE):
    Ev g true D sc E σ (.Call (.Attribute o "isdisjoint" apos) [e] [] pos) (.bool true) σ₂:=by
  refine Comes.of fun c ι m s Q Er ok S R' ap ht k=>?_
  obtain ⟨dK,hm⟩:=hm (c.env sc)
  refine MethodCall_ (ho.on c ι m s _ _ ok S R' ap ht fun v ar m₁ ah ax av ai aq aj ak hv=>?_) hm
  refine hv.is ?_
  have hf:∀ {h:Heap} {m ι σ},St g c (ι++σ) m h→∃ n,n < 4096∧FrozAt (PySem.strKind g.prog g.w) h a (dj cs) n:=fun S=>by
    obtain ⟨h₀,I⟩:=S
    obtain ⟨n,hn,es,ep,t,e1,e2⟩:=ok.gd.st _ hS
    exact ⟨n,hn,es,ep,t,I.fr.keep _ _ (I.bl.stays _ _ e1),e2⟩
  obtain ⟨n₁,_,Xq,Xr,uh,iw,_⟩:=hf ai
  refine getMethod_builtin (T:="frozenset") ⟨_,iw,rfl⟩ MP zD MO (fun b hb=>?_) ?_
  · cases hb; exact ⟨_,iw,rfl⟩
  refine callWith_method1 ((au he aU fa pos).on c ar m₁ _ _ _ ok ai aq aj av fun vs aG m₂ aB a9 a8 aw aC ay aA aM=>?_) (fa _) rfl
  refine aM.dS fun v hv=>?_
  refine hv.is fun ω=>?_
  obtain ⟨Xt,mI,M0⟩:=hf aw
  refine MU (eg:=dj cs) ok.hn M0 mI (fun d hd=>?_) fun h' tk hk=>?_
  · rw [xR] at hd
    have:=zC cs d
    rw [eh d hd] at this
    exact this
  · obtain ⟨h₀,I⟩:=aw
    exact k _ aG m₂ h' tk (I.to ⟨I.fr.ns.at' fun o e=>hk _ o e,fun b o e=>hk b o (I.fr.keep b o e),I.fr.above⟩ fun p hp=>⟨hk _ _ (I.nw p hp).1,(I.nw p hp).2⟩) aC ay (fun p hp=>aA p (ak p hp)) (.bool _)
end
noncomputable def gL:List Nat:=[0,1,2,3,4,5,6,7,8,10,11,12,13,14,15,16,17,18,19,20,21,22,23,24,25,26,27,28,29,30,31,127]
noncomputable def eo:List Nat:=[32,9]
noncomputable def iT:List Nat:=[97,98,99,100,101,102,103,104,105,106,107,108,109,110,111,112,113,114,115,116,117,118,119,120,121,122,65,66,67,68,69,70,71,72,73,74,75,76,77,78,79,80,81,82,83,84,85,86,87,88,89,90,48,49,50,51,52,53,54,55,56,57,45,95]
noncomputable def oA:List Nat:=iT++[34,39]
structure SF (g:Gx):Prop where
  zG:(324,dj gL)∈g.sets
  ws:(330,dj eo)∈g.sets
  bare:(339,dj iT)∈g.sets
  init:(347,dj oA)∈g.sets
section
variable {g:Gx} {pl:Bool} {D:Nat} {sc:Scope} {E E' E₁ aO:ag} {σ U σ₁ σ₂ aN:Led}
theorem M1 (kf:KF g) (sf:SF g) {l:List Nat} {c k n:Nat} {b:Bool} (hr:gJ (· != c) l k n) (hn:l[n]?=some c) (hl:l.length≤100000) (eh:∀ d∈(l.drop k).take (n - k),gL.contains d=false):
    ei g true (D+1) (.ref 552) [T l,.int k,T [c]] ["error_on","error_on_eof"] [.val (.ref 324),.bool b] σ fun x y=>x=.int n∧y=σ:=by
  have oz:n < l.length:=(List.getElem?_eq_some_iff.mp hn).1
  refine oo (bs:=[T l,.int k,T [c],.val (.ref 324),.bool b]) (rest:=["new_pos"]) (ps:=["src","pos","expect","error_on","error_on_eof"]) [("src",some (T l)),("pos",some (.int k)),("expect",some (T [c])),("error_on",some (.val (.ref 324))),("error_on_eof",some (.bool b)),("new_pos",none)] kf.yi ?_ ?_
  · intro doc pm an bb ct
    refine .plain fun ι vs ws hv hw=>?_
    refine hv.ll fun v u w h1 h2 h3=>?_
    refine hw.eN fun x y h4 h5=>?_
    exact ⟨[v,u,w,x,y],.cons h1 (.cons h2 (.cons h3 (.cons h4 (.cons h5 .nil)))),rfl⟩
  · refine aZ (eQ (bI (ba (jm aa KU (au aa (au aa aU)) (MY hr hn))) bh)) ?_
    refine aZ (cE (jn (b:=true) (dw (MZ aa sf.zG (mD aa aa aa hr.1 (by lia) (by lia)) eh) (.bool _))) bh) ?_
    exact bC (bO (cb aa)) (.inl ⟨_,rfl,rfl,rfl⟩)
theorem M3 (kf:KF g) (sf:SF g) {l:List Nat} {k n:Nat} (hr:gJ (· != 39) l (k+1) n) (hn:l[n]?=some 39) (hl:l.length≤100000) (eh:∀ d∈(l.drop (k+1)).take (n - (k+1)),gL.contains d=false):
    Fn g true (D+2) (.ref 658) [T l,.int k] σ (.tup [.int ((n+1:Nat):Int),T ((l.drop (k+1)).take (n - (k+1)))]) σ:=by
  have oz:n < l.length:=(List.getElem?_eq_some_iff.mp hn).1
  refine gI (ps:=["src","pos"]) (rest:=["start_pos"]) [("src",some (T l)),("pos",some (.int k)),("start_pos",none)] kf.yq ?_ ?_
  · intro doc pm an bb ct vs hl
    obtain ⟨v,u,rfl⟩:=ig hl
    rfl
  · refine aZ (fB (bE (n:=1)) iR) ?_
    refine aZ (ba aa) ?_
    refine aZ (ba (zF kf.yF kf.yj (au aa (au aa (au (bK (l:=[39])) aU))) (qz (cH kf.yO) (qz iJ ug)) (M1 kf sf hr hn hl eh))) ?_
    exact bC (bO (cb (fm (au (bP aa (bE (n:=1)) kr) (au (mD aa aa aa hr.1 (by lia) (by lia)) aU))))) ⟨rfl,rfl⟩
end
theorem ui:Slot "mappingproxy" "__getitem__" "mappingproxy.__getitem__":=
  .of (owner:="mappingproxy") (n:="__getitem__") (by rw [typeLookup_type,builtinLookup_eq_fast]; kernel_rfl) (by decide+kernel) (by decide+kernel) (by decide+kernel)
    (by first | exact .inl (by decide+kernel) | exact .inr (by decide+kernel)) (by rw [isSubtype_type]; kernel_rfl)
theorem M4:entryFor table "mappingproxy.__getitem__"=some Builtin.«mappingproxy.__getitem__»:=entryFor_of_tree (by kernel_rfl)
theorem M5 (a b:Value):argsOk "mappingproxy.__getitem__" ⟨[a,b],[]⟩:=by unfold argsOk; kernel_rfl
section
variable {prog:Program} {w:World} {A:Around} {Er:Value→Shared→Prop} {s:Shared}
theorem M6 {p d:Addr} {o:Obj} {k:Str} {tk:Tok} {f:Str→Option Value} {v:Value} {Q:Value→Shared→Prop} (hp:s.heap.get? p=some o) (hc:o.cls=.type "mappingproxy") (hd:o.data=.fields #[.ref d]) (hm:s.heap.MapOf (PySem.strKind prog w) d f) (hv:f k=some v)
    (h:Q v {s with toks:=s.toks+1}):wpAny (model prog w) A (getItem (.ref p) (.str k tk)) Q Er s:=by
  have hT:s.TypeIs (.ref p) "mappingproxy":=⟨_,hp,hc⟩
  unfold getItem
  try with_reducible refine wpAny_holding ?_
  refine wpAny_bind (wpAny_sequenceKey hT (by decide) ?_)
  refine wpAny_bind (wpAny_callSpecial?_slot (name:=Str.ofString "__getitem__") hT ui
    (wpAny_call_entry ui hT M4 ?_ (M5 _ _)))
  unfold Builtin.«mappingproxy.__getitem__»
  refine wpAny_bind (m:=slotArgs "__getitem__" 1 _) (wpAny_of_eq (a:=(Value.ref p,[Value.str k tk])) (by first | rfl | kernel_rfl!) ?_)
  dsimp only
  refine wpAny_bind (wpAny_field hp hd (x:=.ref d) rfl ?_)
  have iu:(PySem.strKind prog w).is k (.str k tk)=true:=by simp [PySem.strKind,Value.isStrOf]
  refine wpAny_bind (wpAny_getItem_of iu hm hv ?_)
  exact wpAny_pure ⟨v,rfl,wpAny_pure h⟩
end
section
variable {g:Gx} {pl:Bool} {D:Nat} {sc:Scope} {E E' E₁ aO:ag} {σ U σ₁ σ₂ aN:Led}
theorem M7 {v i:Expr} {p:Pos} {x:Str} {f:Str→Option Value} {a:AV} {u:Value} (hK:∃ sl,g.K.lookup 354=some ⟨.type "mappingproxy",none,.fields #[.ref 353],sl⟩) (hM:(353,f)∈g.eK) (hv:Ev g pl D sc E σ v (.val (.ref 354)) σ₁) (hi:Ev g pl D sc E σ₁ i (.str x) σ₂)
    (hf:f x=some u) (hu:∀ ι,Rep ι u a)
    (hs:autoParam (∀ t,subscripted i false (.ref 354) (.str x t)=operate [.ref 354,.str x t] (getItem (.ref 354) (.str x t))) aV):Ev g pl D sc E σ (.Subscript v i p) a σ₂:=by
  refine Comes.of fun c ι m s Q Er ok S R ap ht kk=>?_
  refine Subscript_ (hv.on c ι m s _ _ ok S R ap ht fun qA ar m₁ ah ax av ai aq aj ak hX=>?_)
  refine hi.on c ar m₁ _ _ _ ok ai aq aj av fun qB aG m₂ aB a9 a8 aw aC ay aA bB=>?_
  refine hX.isVal (bB.isStr fun t=>?_)
  obtain ⟨sl,hK⟩:=hK
  obtain ⟨h₀,I⟩:=aw
  have hp:=(ok.kh I) _ _ hK
  obtain ⟨o,es,ep,h1,h2⟩:=ok.gd.mt _ hM
  have hm:aB.MapOf (PySem.strKind g.prog g.w) 353 f:=⟨o,es,ep,I.fr.keep _ _ (I.bl.stays _ _ h1),h2⟩
  refine tail_any (T:="mappingproxy") ⟨_,hp,rfl⟩ ui.lookup (M6 hp rfl rfl hm hf ?_) (hs t)
  exact kk u aG m₂ aB _ ⟨h₀,I⟩ aC ay (fun p hp=>aA p (ak p hp)) (hu _)
end
noncomputable def encC (c:Nat):List Nat:=if c=92 then [92,92] else if c=34 then [92,34] else if c=10 then [92,110] else [c]
noncomputable def encL (x:List Nat):List Nat:=x.flatMap encC
noncomputable def fG (f:Str→Option Value):Prop:=(∃ t,f (S [92,34])=some (.str (S [34]) t))∧(∃ t,f (S [92,92])=some (.str (S [92]) t))∧∃ t,f (S [92,110])=some (.str (S [10]) t)
section
variable {g:Gx} {pl:Bool} {D:Nat} {sc:Scope} {E E' E₁ aO:ag} {σ U σ₁ σ₂ aN:Led}
theorem M8 {pos:Pos}:Ex g pl D sc E σ (.Continue pos) .cont E σ:=Comes.of fun ω ι m s ω ω ω S R ap ω k=>wpAny_Continue (k _ ι m s.heap s.toks S R ap (fun ω h=>h) .cont)
theorem M9 {pos:Pos}:Ex g pl D sc E σ (.Break pos) .brk E σ:=Comes.of fun ω ι m s ω ω ω S R ap ω k=>wpAny_Break (k _ ι m s.heap s.toks S R ap (fun ω h=>h) .brk)
theorem Na (kf:KF g) {f:Str→Option Value} (hM:(353,f)∈g.eK) (hf:fG f) {l:List Nat} {k c:Nat} (hc:c=92∨c=34∨c=10) (hl:l.length≤100000) {rest:List Nat} (hk:l.drop k=encC c++rest):
    Fn g pl (D+1) (.ref 637) [T l,.int k] σ (.tup [.int ((k+2:Nat):Int),T [c]]) σ:=by
  obtain ⟨d,hd,Nb,hu,hU⟩:∃ d,encC c=[92,d]∧(∃ t,f (S [92,d])=some (.str (S [c]) t))∧([92,d]==[92,117])=false∧([92,d]==[92,85])=false:=by
    rcases hc with rfl | rfl | rfl
    · exact ⟨92,rfl,hf.2.1,rfl,rfl⟩
    · exact ⟨34,rfl,hf.1,rfl,rfl⟩
    · exact ⟨110,rfl,hf.2.2,rfl,rfl⟩
  have hlen:k+2≤l.length:=by
    have:=congrArg List.length hk
    rw [hd,List.length_drop] at this
    simp at this; lia
  have et:(l.drop k).take (k+2 - k)=[92,d]:=by rw [hk,hd,Nat.add_sub_cancel_left]; rfl
  refine (oo (P:=fun x y=>x=.tup [.int ((k+2:Nat):Int),T [c]]∧y=σ) (kn:=[]) (ks:=[]) (as:=[T l,.int k]) (bs:=[T l,.int k,.bool false]) (ps:=["src","pos","multiline"]) (rest:=["escape_id"]) [("src",some (T l)),("pos",some (.int k)),("multiline",some (.bool false)),("escape_id",none)] kf.yo ?_ ?_).toG.det fun ω ω h=>h
  · exact fun doc pm an bb ct=>.to fun s ι vs kx hv=>hv.eN fun v u h1 h2=>⟨[v,u,.bool false],.cons h1 (.cons h2 (.cons (.bool _) .nil)),nY.to ⟨_,rfl,fun ω ω ω ω ω ω=>rfl⟩ kx kf.yB⟩
  · refine aZ (ba (a:=T [92,d]) ((mD aa aa (bP aa (bE (n:=2)) kr) (by lia) hlen (by lia)).cast (by rw [et]))) ?_
    refine aZ (fB (bE (n:=2)) iR) ?_
    refine aZ (cE (iL (xD (dw aa (.bool _)))) bh) ?_
    refine aZ (cE ((bw aa (bK (l:=[92,117])) dH).cast hu) bh) ?_
    refine aZ (cE ((bw aa (bK (l:=[92,85])) dH).cast hU) bh) ?_
    obtain ⟨t,ht⟩:=Nb
    exact bC (bO (eQ (bO (cb (fm (au aa (au (M7 (a:=T [c]) kf.yA hM (cH kf.yP) aa ht fun ω=>.str _ _) aU))))))) (.inl ⟨_,rfl,rfl,rfl⟩)
end
theorem Nc (c:Nat):1≤(encC c).length:=by unfold encC; split <;> (try split) <;> (try split) <;> simp
theorem zH (a b:List Nat):encL (a++b)=encL a++encL b:=by unfold encL; rw [List.flatMap_append]
theorem zI (c:Nat):encL [c]=encC c:=by simp [encL]
theorem zJ:∀ x:List Nat,x.length≤(encL x).length
  | []=>by simp
  | c::x=>by
    have:=Nc c
    have:=zJ x
    show x.length+1≤(encC c++encL x).length
    rw [List.length_append]; lia
section
variable {g:Gx} {pl:Bool} {D:Nat} {sc:Scope} {E E' E₁ aO:ag} {σ U σ₁ σ₂ aN:Led}
theorem Nd (kf:KF g) (sf:SF g) {f:Str→Option Value} (hM:(353,f)∈g.eK) (hf:fG f) {l x rest:List Nat} {k:Nat} (hl:l.length≤100000) (hk:l.drop k=encL x++34::rest) (eh:∀ c∈x,c≠10→gL.contains c=false):
    ei g true (D+2) (.ref 672) [T l,.int k] ["multiline"] [.bool false] σ fun a U=>a=.tup [.int ((k+(encL x).length+1:Nat):Int),T x]∧U=σ:=by
  refine oo (as:=[T l,.int k]) (bs:=[T l,.int k,.bool false]) (ps:=["src","pos","multiline"]) (rest:=["error_on","parse_escapes","result","start_pos","char","parsed_escape"])
    [("src",some (T l)),("pos",some (.int k)),("multiline",some (.bool false)),("error_on",none),("parse_escapes",none),("result",none),("start_pos",none),("char",none),("parsed_escape",none)] kf.yt ?_ ?_
  · intro doc pm an bb ct
    refine .plain fun ι vs ws hv hw=>?_
    refine hv.eN fun v u h1 h2=>?_
    refine hw.dS fun y h3=>?_
    exact ⟨[v,u,y],.cons h1 (.cons h2 (.cons h3 .nil)),rfl⟩
  refine aZ (cE (dw aa (.bool _)) (bI (ba (cH kf.yN)) (bI (ba (cH kf.yH)) bh))) ?_
  refine aZ (ba (bK (l:=[]))) ?_
  refine aZ (ba aa) ?_
  refine dX (tN (fun n E' U=>U=σ∧∃ lC fZ p s r o1 o2,n=fZ.length∧x=lC++fZ∧p=k+(encL lC).length∧s≤p∧p≤l.length∧r++(l.drop s).take (p - s)=lC∧l.drop p=encL fZ++34::rest∧
    E'=([("src",some (T l)),("pos",some (.int (p:Nat))),("multiline",some (.bool false)),("error_on",some (.val (.ref 324))),("parse_escapes",some (.val (.ref 637))),("result",some (T r)),("start_pos",some (.int (s:Nat))),("char",o1),("parsed_escape",o2)]:ag)) ?_ (k:=x.length)
    ⟨rfl,[],x,k,k,[],none,none,rfl,rfl,rfl,Nat.le_refl _,?_,by simp,hk,rfl⟩)
  · rintro n _ _ ⟨rfl,lC,fZ,p,s,r,o1,o2,rfl,hx,hp,zK,jy,hr,hd,rfl⟩
    have Xu:r.length+(p - s)≤100000+100000:=by
      have:=congrArg List.length hr
      rw [List.length_append,List.length_take,List.length_drop] at this
      have h2:=zJ lC
      lia
    have iU:∀ (c:Nat) (t:List Nat),l.drop p=c::t→l[p]?=some c:=fun c t h=>by
      have:=congrArg (fun a:List Nat=>a[0]?) h
      simpa [List.getElem?_drop] using this
    cases fZ with
    | nil=>
      have hc:=iU 34 rest hd
      refine aZ (eQ (bI (ba (dU aa aa hc (by lia))) bh)) ?_
      refine bC (bO (kj ((bw aa (bK (l:=[34])) dH).cast rfl) (bO (kj (jn (b:=false) (dw aa (.bool _))) (bO (cb (fm (au (bP aa (bE (n:=1)) kr) (au (bP aa (mD aa aa aa zK jy (by lia)) (e8 ?_)) aU))))))))) (.inr (.inr ⟨_,rfl,.inl ⟨_,rfl,?_,rfl⟩⟩))
      · rw [List.length_take,List.length_drop]; lia
      · rw [hr,hp]
        rw [List.append_nil] at hx
        rw [hx]
    | cons c fZ=>
      have Nf:c∈x:=by rw [hx]; simp
      have cg:l.drop p=encC c++(encL fZ++34::rest):=by
        rw [hd]
        show (encC c++encL fZ)++_=_
        rw [List.append_assoc]
      by_cases ku:c=92∨c=34∨c=10
      · obtain ⟨d,he⟩:∃ d,encC c=[92,d]:=by
          rcases ku with rfl | rfl | rfl
          · exact ⟨92,rfl⟩
          · exact ⟨34,rfl⟩
          · exact ⟨110,rfl⟩
        have hc:l[p]?=some 92:=iU 92 (d::(encL fZ++34::rest)) (by rw [cg,he]; rfl)
        have kz:p+2≤l.length:=by
          have:=congrArg List.length cg
          rw [he,List.length_drop] at this
          simp at this; lia
        refine aZ (eQ (bI (ba (dU aa aa hc (by lia))) bh)) ?_
        refine aZ (cE ((bw aa (bK (l:=[34])) dH).cast rfl) bh) ?_
        refine bC (xC (kj ((bw aa (bK (l:=[92])) dH).cast rfl) (bI (fB (mD aa aa aa zK jy (by lia)) (qk (x:=r) (y:=(l.drop s).take (p - s)) ?_)) (bI (mC (y5 (.there (.there (.there (.there .here)))) kf.yp (au aa (au aa aU)) (Na kf hM hf ku hl cg))) (bI (fB aa (qk (x:=r++(l.drop s).take (p - s)) (y:=[c]) ?_)) (bI (ba aa) (xC M8))))))) (.inl ⟨.inr rfl,fZ.length,by simp,rfl,lC++[c],fZ,p+2,p+2,r++(l.drop s).take (p - s)++[c],_,_,rfl,by rw [hx]; simp,?_,Nat.le_refl _,kz,?_,?_,rfl⟩)
        · rw [List.length_take,List.length_drop]; lia
        · rw [List.length_append,List.length_take,List.length_drop]; simp; lia
        · rw [zH,zI,he,List.length_append,hp]; simp; lia
        · rw [hr]; simp
        · have:=congrArg (List.drop 2) cg
          rw [List.drop_drop,he] at this
          simpa using this
      · have he:encC c=[c]:=by
          unfold encC
          rw [if_neg (fun e=>ku (.inl e)),if_neg (fun e=>ku (.inr (.inl e))),if_neg (fun e=>ku (.inr (.inr e)))]
        have hc:l[p]?=some c:=iU c (encL fZ++34::rest) (by rw [cg,he]; rfl)
        have Ng:p < l.length:=(List.getElem?_eq_some_iff.mp hc).1
        refine aZ (eQ (bI (ba (dU aa aa hc (by lia))) bh)) ?_
        refine aZ (cE ((bw aa (bK (l:=[34])) dH).cast ?_) bh) ?_
        · rw [beq_eq_false_iff_ne]; intro e; exact ku (.inr (.inl (by simpa using e)))
        refine aZ (cE ((bw aa (bK (l:=[92])) dH).cast ?_) bh) ?_
        · rw [beq_eq_false_iff_ne]; intro e; exact ku (.inl (by simpa using e))
        refine aZ (cE ((bw aa aa (jC sf.zG)).cast (eh c Nf fun e=>ku (.inr (.inr e)))) bh) ?_
        refine bC (bI (fB (bE (n:=1)) iR) bh) (.inl ⟨.inl rfl,fZ.length,by simp,rfl,lC++[c],fZ,p+1,s,r,_,_,rfl,by rw [hx]; simp,?_,by lia,Ng,?_,?_,rfl⟩)
        · rw [zH,zI,he,List.length_append,hp]; simp; lia
        · rw [←hr,List.append_assoc]
          congr 1
          have:p+1 - s=(p - s)+1:=by lia
          rw [this,List.take_add_one,List.getElem?_drop,show s+(p - s)=p by lia,hc]
          rfl
        · have:=congrArg (List.drop 1) cg
          rw [List.drop_drop,he] at this
          simpa using this
  · have:=congrArg List.length hk
    rw [List.length_drop] at this
    simp at this
    lia
end
section
variable {g:Gx} {pl:Bool} {D:Nat} {sc:Scope} {E E' E₁ aO:ag} {σ U σ₁ σ₂ aN:Led}
theorem Nh:typeLookup (.type "tuple") (dunderI "add")=pure none:=by rw [typeLookup_type,builtinLookup_eq_fast]; kernel_rfl
theorem Ni {x y:List AV} (hx:x≠[]) (hy:y≠[]) (hz:x.length+y.length≤sizeLine):k7 g pl D sc E σ .Add (.tup x) (.tup y) (.tup (x++y)) σ:=by
  intro v u; refine .mk fun c ι m s Q Er ok ⟨h₀,I⟩ R ap ht pr k=>?_
  obtain ⟨h1,h2⟩:=pr
  cases h1 with | @tup r vs _ fk j4=>cases h2 with | @tup Nj ws _ jh j6=>
  have g1:=(I.nw _ (List.mem_append_left _ fk)).1
  have g2:=(I.nw _ (List.mem_append_left _ jh)).1
  have e1:vs≠[]:=by rintro rfl; have:=j4.length; cases x <;> simp_all
  have e2:ws≠[]:=by rintro rfl; have:=j6.length; cases y <;> simp_all
  refine PyProof.Rows.inplaceOp_concat (T:="tuple") ⟨_,g1,rfl⟩ ⟨_,g2,rfl⟩ Nh noFill_tuple_add seq_tuple_add ?_
  refine call_meets PySem.F.slot_tuple_add ⟨_,g1,rfl⟩ PySem.F.entry_tuple_add (PySem.F.args_tuple_add_2 _ _) (tuple_addW2 r Nj vs.toArray ws.toArray _ _ none none #[] #[] (by simpa using e1) (by simpa using e2) (by rw [List.size_toArray,List.size_toArray,j4.length,j6.length]; exact hz)) ⟨g1,g2,?_⟩
  have e:vs.toArray++ws.toArray=(vs++ws).toArray:=by simp
  rw [e]
  exact k _ ((s.heap.objs.size,cV (vs++ws))::ι) m _ _ (I.to (I.fr.push _) (I.nw.push I.fr _)) (R.mono fun p hp=>.tail _ hp) (ap.cons fun q hq=>I.fresh q (List.mem_append_right _ hq)) (fun p hp=>.tail _ hp) (.tup (.head _) ((j4.mono fun p hp=>.tail _ hp).append (j6.mono fun p hp=>.tail _ hp)))
theorem Nk (kf:KF g) (sf:SF g) {f:Str→Option Value} (hM:(353,f)∈g.eK) (hf:fG f) {l x rest:List Nat} {k:Nat} (hl:l.length≤100000) (hk:l.drop (k+1)=encL x++34::rest) (eh:∀ c∈x,c≠10→gL.contains c=false):
    Fn g true (D+3) (.ref 615) [T l,.int k] σ (.tup [.int ((k+1+(encL x).length+1:Nat):Int),T x]) σ:=by
  refine gI (ps:=["src","pos"]) (rest:=[]) [("src",some (T l)),("pos",some (.int k))] kf.ym ?_ ?_
  · intro doc pm an bb ct vs hl
    obtain ⟨v,u,rfl⟩:=ig hl
    rfl
  · refine aZ (fB (bE (n:=1)) iR) ?_
    exact bC (bO (cb (zF kf.yJ kf.yu (au aa (au aa aU)) (qz iJ ug) (Nd kf sf hM hf hl hk eh)))) ⟨rfl,rfl⟩
end
inductive iy (l:List Nat) (k:Nat) (x:List Nat):Nat→Prop
  | bare {e:Nat} {rest:List Nat}:x≠[]→(∀ c∈x,iT.contains c=true)→iT.contains e=false→l.drop k=x++e::rest→iy l k x (k+x.length)
  | lit {rest:List Nat}:(∀ c∈x,c≠39∧gL.contains c=false)→l.drop k=39::(x++39::rest)→iy l k x (k+1+x.length+1)
  | basic {rest:List Nat}:(∀ c∈x,c≠10→gL.contains c=false)→l.drop k=34::(encL x++34::rest)→iy l k x (k+1+(encL x).length+1)
theorem gM {l t:List Nat} {k c:Nat} (h:l.drop k=c::t):l[k]?=some c:=by
  have:=congrArg (fun a:List Nat=>a[0]?) h
  simpa [List.getElem?_drop] using this
theorem gO {l a t:List Nat} {k:Nat} (h:l.drop k=a++t):l.drop (k+a.length)=t:=by
  rw [←List.drop_drop,h,List.drop_left' rfl]
theorem qC {l a t:List Nat} {k:Nat} {p:Nat→Bool} (h:l.drop k=a++t) (hp:∀ c∈a,p c=true):gJ p l k (k+a.length):=by
  refine ⟨by lia,fun j h1 h2=>?_⟩
  have e:l[j]?=a[j - k]?:=by
    have:=congrArg (fun b:List Nat=>b[j - k]?) h
    simp only [List.getElem?_drop] at this
    rw [show k+(j - k)=j by lia] at this
    rw [this,List.getElem?_append_left (by lia)]
  have bq:j - k < a.length:=by lia
  exact ⟨a[j - k],by rw [e]; exact List.getElem?_eq_getElem bq,hp _ (List.getElem_mem bq)⟩
theorem uj {l a t:List Nat} {k:Nat} (h:l.drop k=a++t):(l.drop k).take (k+a.length - k)=a:=by
  rw [h,Nat.add_sub_cancel_left,List.take_left' rfl]
section
variable {g:Gx} {pl:Bool} {D:Nat} {sc:Scope} {E E' E₁ aO:ag} {σ U σ₁ σ₂ aN:Led}
theorem Nl {x:Str} {p:Pos} {v:Value} {a:AV} (e:nsIn g.K mainGlobals x=some (some v)) (hr:∀ ι,Rep ι v a) (hk:autoParam (sc.names.lookup x=some .globalImplicit) aK) (hd:autoParam ((x==("__debug__":Str))=false) aK):Ev g pl D sc E σ (.Name x p) a σ:=
  Comes.of fun c ι m s ω ω ok S R ap ht k=>(cH e hk hd).on c ι m s _ _ ok S R ap ht fun v' ae m' h' ao ω S' R' aX bk hv=>by
    refine hv.is ?_
    exact k v ae m' h' ao S' R' aX bk (hr _)
theorem zL (kf:KF g) (sf:SF g) {f:Str→Option Value} (hM:(353,f)∈g.eK) (hf:fG f) {l x:List Nat} {k n:Nat} (hl:l.length≤100000) (h:iy l k x n):
    Fn g true (D+4) (.ref 608) [T l,.int k] σ (.tup [.int (n:Nat),T x]) σ:=by
  refine gI (ps:=["src","pos"]) (rest:=["char","start_pos"]) [("src",some (T l)),("pos",some (.int k)),("char",none),("start_pos",none)] kf.yl ?_ ?_
  · intro doc pm an bb ct vs hl
    obtain ⟨v,u,rfl⟩:=ig hl
    rfl
  cases h with
  | @bare e rest hx hb he hd=>
    obtain ⟨c,y,rfl⟩:∃ c y,x=c::y:=by cases x with | nil=>exact absurd rfl hx | cons c y=>exact ⟨c,y,rfl⟩
    have hlen:=congrArg List.length hd
    simp only [List.length_drop,List.length_append,List.length_cons] at hlen
    have tM:k+(c::y).length≤l.length:=by rw [List.length_cons]; lia
    refine aZ (eQ (bI (ba (dU aa aa (gM hd) (by lia))) bh)) ?_
    refine bC (bO (kj ((bw aa (cH kf.nU) (jC sf.bare)).cast (hb c (by simp))) (bI (ba aa) (bI (ba (cj kf.ie kf.ib (au aa (au aa (au (cH kf.nU) aU))) (jD kf sf.bare (qC hd hb) (gM (gO hd)) he hl))) (bO (cb (fm (au aa (au (mD aa aa aa (by lia) tM (by lia)) aU))))))))) ⟨?_,rfl⟩
    rw [uj hd]
  | @lit rest hx hd=>
    have hlen:=congrArg List.length hd
    rw [List.length_drop,List.length_cons,List.length_append,List.length_cons] at hlen
    have mJ:l.drop (k+1)=x++39::rest:=by rw [←List.drop_drop,hd]; rfl
    refine aZ (eQ (bI (ba (dU aa aa (gM hd) (by lia))) bh)) ?_
    refine aZ (cE ((bw aa (cH kf.nU) (jC sf.bare)).cast (by decide+kernel)) bh) ?_
    refine bC (bO (kj ((bw aa (bK (l:=[39])) dH).cast (by decide)) (bO (cb (cj kf.yI kf.yr (au aa (au aa aU)) (M3 kf sf (k:=k) (n:=k+1+x.length) (qC mJ fun c hc=>by simpa using (hx c hc).1) (gM (gO mJ)) hl (fun d cg=>?_))))))) ⟨?_,rfl⟩
    · rw [uj mJ] at cg; exact (hx d cg).2
    · rw [uj mJ]
  | @basic rest hx hd=>
    have hlen:=congrArg List.length hd
    rw [List.length_drop,List.length_cons,List.length_append,List.length_cons] at hlen
    have mJ:l.drop (k+1)=encL x++34::rest:=by rw [←List.drop_drop,hd]; rfl
    refine aZ (eQ (bI (ba (dU aa aa (gM hd) (by lia))) bh)) ?_
    refine aZ (cE ((bw aa (cH kf.nU) (jC sf.bare)).cast (by decide+kernel)) bh) ?_
    refine aZ (cE ((bw aa (bK (l:=[39])) dH).cast (by decide)) bh) ?_
    exact bC (bO (kj ((bw aa (bK (l:=[34])) dH).cast (by decide)) (bO (cb (cj kf.yG kf.yn (au aa (au aa aU)) (Nk kf sf hM hf hl mJ hx)))))) ⟨rfl,rfl⟩
inductive kB (l:List Nat):Nat→List (List Nat)→Nat→Prop
  | done {p e:Nat}:l[p]?=some e→e≠46→kB l p [] p
  | more {p q m p' n e e':Nat} {x:List Nat} {xs:List (List Nat)}:l[p]?=some 46→gJ eo.contains l (p+1) q→l[q]?=some e→eo.contains e=false→iy l q x m→gJ eo.contains l m p'→l[p']?=some e'→eo.contains e'=false→kB l p' xs n→kB l p (x::xs) n
inductive kC (l:List Nat) (k:Nat):List (List Nat)→Nat→Prop
  | mk {x:List Nat} {xs:List (List Nat)} {m p n e:Nat}:iy l k x m→gJ eo.contains l m p→l[p]?=some e→eo.contains e=false→kB l p xs n→kC l k (x::xs) n
theorem uk (kf:KF g) (sf:SF g) {f:Str→Option Value} (hM:(353,f)∈g.eK) (hf:fG f) {l:List Nat} {xs:List (List Nat)} {k n:Nat} (hl:l.length≤100000) (gw:xs.length≤1000) (h:kC l k xs n):
    Fn g true (D+5) (.ref 601) [T l,.int k] σ (.tup [.int (n:Nat),.tup (xs.map T)]) σ:=by
  obtain ⟨h1,h2,h3,h4,h5⟩:=h
  rename_i x xs m p e
  obtain ⟨Xv,Nm⟩:=kf.yV
  refine gI (ps:=["src","pos"]) (rest:=["key_part","key","char"]) [("src",some (T l)),("pos",some (.int k)),("key_part",none),("key",none),("char",none)] kf.yk ?_ ?_
  · intro doc pm an bb ct vs hl
    obtain ⟨v,u,rfl⟩:=ig hl
    rfl
  refine aZ (mC (cj kf.tD kf.tm (au aa (au aa aU)) (zL kf sf hM hf hl h1))) ?_
  refine aZ (ba (fm (au aa aU))) ?_
  refine aZ (ba (cj kf.ie kf.ib (au aa (au aa (au (cH kf.iN) aU))) (jD kf sf.ws h2 h3 h4 hl))) ?_
  refine dX (tN (fun r E' U=>U=σ∧∃ pre post q o1 o2,r=post.length∧x::xs=pre++post∧pre≠[]∧kB l q post n∧
    E'=([("src",some (T l)),("pos",some (.int (q:Nat))),("key_part",o1),("key",some (.tup (pre.map T))),("char",o2)]:ag)) ?_ (k:=xs.length) ⟨rfl,[x],xs,p,_,_,rfl,rfl,by simp,h5,rfl⟩)
  rintro r _ _ ⟨rfl,pre,post,q,o1,o2,rfl,qD,aT,hr,rfl⟩
  cases hr with
  | @done _ e h6 h7=>
    refine aZ (eQ (bI (ba (dU aa aa h6 (by lia))) bh)) ?_
    refine bC (bO (kj ((bw aa (bK (l:=[46])) ju).cast ?_) (bO (cb (fm (au aa (au aa aU))))))) (.inr (.inr ⟨_,rfl,?_,rfl⟩))
    · simp [h7]
    · rw [List.append_nil] at qD; rw [qD]
  | @more _ q' m' p' _ e e' y ys h6 h7 h8 h9 Nn Np um uo Nq=>
    have hlen:=congrArg List.length qD
    rw [List.length_append,List.length_cons,List.length_cons] at hlen
    refine aZ (eQ (bI (ba (dU aa aa h6 (by lia))) bh)) ?_
    refine aZ (cE ((bw aa (bK (l:=[46])) ju).cast (by decide)) bh) ?_
    refine aZ (fB (bE (n:=1)) iR) ?_
    refine aZ (ba (cj kf.ie kf.ib (au aa (au aa (au (cH kf.iN) aU))) (jD kf sf.ws h7 h8 h9 hl))) ?_
    refine aZ (mC (cj kf.tD kf.tm (au aa (au aa aU)) (zL kf sf hM hf hl Nn))) ?_
    have zM:pre.length+1≤1000:=by simp at gw; lia
    refine aZ (fB (z:=.tup ((pre++[y]).map T)) (fm (au aa aU)) (by rw [List.map_append]; exact Ni (x:=pre.map T) (y:=[T y]) (by simpa using aT) (by simp) (by simp [sizeLine]; lia))) ?_
    refine aZ (cE ((bw (b:=.int 1000) (jj kf.js (by decide+kernel) (by decide+kernel) (au aa aU) (K0 (by simp; lia))) (Nl Nm fun ω=>.int _ _) Kb).cast ?_) bh) ?_
    · simp; lia
    refine bC (bI (ba (cj kf.ie kf.ib (au aa (au aa (au (cH kf.iN) aU))) (jD kf sf.ws Np um uo hl))) bh) (.inl ⟨.inl rfl,ys.length,by simp,rfl,pre++[y],ys,p',_,_,rfl,by rw [qD]; simp,by simp,Nq,rfl⟩)
end
section
variable {g:Gx} {pl:Bool} {D:Nat} {sc:Scope} {E E' E₁ aO:ag} {σ U σ₁ σ₂ aN:Led}
theorem Nr (kf:KF g) {l:List Nat} {k c:Nat} (hc:l[k]?=some c) (aT:c≠35) (hl:l.length≤100000):Fn g pl (D+1) (.ref 559) [T l,.int k] σ (.int k) σ:=by
  refine gI (ps:=["src","pos"]) (rest:=["char"]) [("src",some (T l)),("pos",some (.int k)),("char",none)] kf.te ?_ ?_
  · intro doc pm an bb ct vs hl
    obtain ⟨v,u,rfl⟩:=ig hl
    rfl
  · refine aZ (eQ (bI (ba (dU aa aa hc (by lia))) bh)) ?_
    refine aZ (cE ((bw aa (bK (l:=[35])) dH).cast (by simpa using aT)) bh) ?_
    exact bC (bO (cb aa)) ⟨rfl,rfl⟩
end
section
variable {g:Gx} {pl:Bool} {D:Nat} {sc:Scope} {E E' E₁ aO:ag} {σ U σ₁ σ₂ aN:Led} {X:Value} {PX:ag→Led→Led→Option Value→Prop} {P:Fl→ag→Led→Prop}
theorem CX.imp {α β:Type} {tr:Cx→Sem α} {R:Led→α→β→Prop} {P:β→ag→Led→Prop} {zN:ag→Led→Led→Option Value→Prop} (h:CX g pl D sc E σ tr R P X PX) (hp:∀ E' U ι a0,PX E' U ι a0→zN E' U ι a0):CX g pl D sc E σ tr R P X zN:=
  .mk fun c ι m s Q Er ok S Rr ap ht k kx=>h.on c ι m s Q Er ok S Rr ap ht k fun e a0 E' U ae m' h h' ao aQ S' R' aX bk y q=>kx e a0 E' U ae m' h h' ao aQ S' R' aX bk y (hp E' U ae a0 q)
theorem Nt {pos:Pos}:Ex g pl D sc E σ (.Pass pos) .next E σ:=Comes.of fun c ι m s Q Er ok S R ap ht k=>wpAny_Pass (k .next ι m s.heap s.toks S R ap (fun ω h=>h) .next)
theorem Nu {t:Expr} {body:List Stmt} {pos:Pos} (J:Nat→ag→Led→Prop)
    (step:∀ n E₁ σ₁,J n E₁ σ₁→zi g pl D sc E₁ σ₁ t never X PX∨(∃ σ₂,cv g pl D sc E₁ σ₁ t true σ₂∧b0 g pl D sc E₁ σ₂ body fun fl E' U=>fl=.next∧∃ m,m < n∧J m E' U))
    {n:Nat} (h0:J n E σ):fD g pl D sc E σ (.While t body [] pos) P X PX:=by
  refine .mk fun c ι m s Q Er ok S R ap ht ω kx=>?_
  refine wpAny_While ?_
  refine codeAny_whileLoop (WhileInv g c ι s J) ?_ n ⟨E,σ,ι,m,s.heap,s.toks,rfl,ht,S,R,ap,fun ω h=>h,h0⟩
  rintro n s' ⟨E₁,σ₁,ar,m₁,ah,ax,rfl,av,ai,aq,aj,ak,hJ⟩
  rcases step n E₁ σ₁ hJ with h1 | ⟨σ₂,h1,h2⟩
  · refine h1.on c ar m₁ _ _ _ ok ai aq aj av (fun ω ω ω ω ω ω ω ω ω ω ω ω ω ω q=>q.elim) fun e a0 aO σ₂ aG m₂ h aB a9 a8 aw aC ay aA y lz=>?_
    refine qr (s:={s with heap:=aB,toks:=a9}) ok aw y fun h3 aP T vs a1 a2 a3 v0 F3=>?_
    refine zh (s:={s with heap:=h3,toks:=a9}) (L:=c.L) rfl F3 fun h4 F4=>?_
    exact kx e a0 aO σ₂ aG m₂ h h4 a9 a8 aw aC ay (fun p hp=>aA p (ak p hp)) (F4.fy v0 a1 a2 a3) lz
  · refine h1.on c ar m₁ _ _ _ ok ai aq aj av fun v aG m₂ aB a9 a8 aw aC ay aA hv=>?_
    subst hv
    refine h2.on c aG m₂ _ _ _ ok aw aC ay a8 fun v b gD aN br cD bu bx ck bj cI bp bo hv hP=>?_
    obtain ⟨rfl,n',bq,qE⟩:=hP
    refine hv.kZ ?_
    exact ⟨n',bq,gD,aN,br,cD,bu,bx,rfl,ck,bj,cI,bp,fun p hp=>bo p (aA p (ak p hp)),qE⟩
theorem uq:isSubtype (.type "IndexError") (.type "BaseException")=pure true:=by rw [isSubtype_type]; kernel_rfl
theorem ur:isSubtype (.type ((Manifest.find? "IndexError").elim "type" fun y=>y.metatype)) (.type "tuple")=pure false:=by rw [isSubtype_type]; kernel_rfl
theorem uu:isSubtype (.type "IndexError") (.type "IndexError")=pure true:=by rw [isSubtype_type]; kernel_rfl
theorem uv:bootBuiltins "IndexError"=some (.type "IndexError"):=by kernel_rfl
theorem uw {v i:Expr} {p:Pos} {x:List Nat} {k:Nat} (hv:Ev g true D sc E σ v (T x) σ₁) (hi:Ev g true D sc E σ₁ i (.int k) σ₂) (hk:x.length≤k) (ly:k < 2 ^ 62)
    (hs:autoParam (∀ t u,subscripted i false (.str (S x) t) (.int k u)=operate [.str (S x) t,.int k u] (getItem (.str (S x) t) (.int k u))) aW):
    lx g true D sc E σ (.Subscript v i p) never (.type "IndexError") (fun E' U ω ω=>E'=E∧U=σ₂):=Me (x:=S x) hv hi (show (S x).length≤k from hk) ly hs
theorem Nv (kf:KF g) {l cs:List Nat} {a:Addr} {k:Nat} (hS:(a,dj cs)∈g.sets) (hr:gJ cs.contains l k l.length) (hl:l.length≤100000):
    Fn g true (D+1) (.ref 545) [T l,.int k,.val (.ref a)] σ (.int l.length) σ:=by
  refine gI (ps:=["src","pos","chars"]) (rest:=[]) [("src",some (T l)),("pos",some (.int k)),("chars",some (.val (.ref a)))] kf.tc ?_ ?_
  · intro doc pm an bb ct vs hl
    obtain ⟨v,u,w,rfl⟩:=nW hl
    rfl
  · refine cJ (P₁:=fun fl E' U=>fl=.next∧U=σ∧E'=([("src",some (T l)),("pos",some (.int l.length)),("chars",some (.val (.ref a)))]:ag))
      (tW (PX:=fun E' U ω ω=>U=σ∧E'=([("src",some (T l)),("pos",some (.int l.length)),("chars",some (.val (.ref a)))]:ag)) (n8 (Nu
      (fun m E' U=>U=σ∧∃ j,m=l.length - j∧k≤j∧j≤l.length∧E'=([("src",some (T l)),("pos",some (.int (j:Nat))),("chars",some (.val (.ref a)))]:ag)) ?_ (n:=l.length - k) ⟨rfl,k,rfl,Nat.le_refl _,hr.1,rfl⟩)) ?_ kf.qj uv (by decide+kernel) uq ur uu) ?_
    · rintro m _ _ ⟨rfl,j,rfl,ud,ue,rfl⟩
      by_cases bq:j < l.length
      · obtain ⟨c,h1,h2⟩:=hr.2 j ud bq
        refine .inr ⟨_,(bw (dU aa aa h1 (by lia)) aa (jC hS)).cast h2,?_⟩
        exact bC (bI (fB (bE (n:=1)) iR) bh) ⟨rfl,l.length - (j+1),by lia,rfl,j+1,rfl,by lia,by lia,rfl⟩
      · have:j=l.length:=by lia
        subst this
        refine .inl (Mf ?_)
        exact (uw aa aa (Nat.le_refl _) (by lia)).imp fun E' U ω ω hp=>⟨hp.2,hp.1⟩
    · rintro _ _ _ _ ⟨rfl,rfl⟩
      exact bC (bI Nt bh) ⟨rfl,rfl,rfl⟩
    · rintro _ _ _ ⟨rfl,rfl,rfl⟩
      exact bC (bO (cb aa)) ⟨rfl,rfl⟩
end
section
variable {g:Gx} {pl:Bool} {D:Nat} {sc:Scope} {E E' E₁ aO:ag} {σ U σ₁ σ₂ aN:Led}
theorem Nw (kf:KF g) {l:List Nat} (hl:l.length≤100000):Fn g true (D+1) (.ref 559) [T l,.int l.length] σ (.int l.length) σ:=by
  refine gI (ps:=["src","pos"]) (rest:=["char"]) [("src",some (T l)),("pos",some (.int l.length)),("char",none)] kf.te ?_ ?_
  · intro doc pm an bb ct vs hl
    obtain ⟨v,u,rfl⟩:=ig hl
    rfl
  · refine cJ (P₁:=fun fl E' U=>fl=.next∧U=σ∧E'=([("src",some (T l)),("pos",some (.int l.length)),("char",some .none)]:ag))
      (tW (PX:=fun E' U ω ω=>E'=([("src",some (T l)),("pos",some (.int l.length)),("char",none)]:ag)∧U=σ) (n8 (zj (uw aa aa (Nat.le_refl _) (by lia)))) ?_ kf.qj uv (by decide+kernel) uq ur uu) ?_
    · rintro _ _ _ _ ⟨rfl,rfl⟩
      exact bC (bI (ba xq) bh) ⟨rfl,rfl,rfl⟩
    · rintro _ _ _ ⟨rfl,rfl,rfl⟩
      refine aZ (cE (bw aa (bK (l:=[35])) Kd) bh) ?_
      exact bC (bO (cb aa)) ⟨rfl,rfl⟩
end
section
variable {g:Gx} {pl:Bool} {D:Nat}
theorem St.Nx {c:Cx} {news more:Led} {m:Str→Option Value} {h:Heap} (S:St g c news m h) (hm:∀ p∈more,h.get? p.1=some p.2∧c.L < p.1):St g c (more++news) m h:=
  let ⟨h₀,I⟩:=S
  ⟨h₀,I.fr,List.forall_mem_append.mpr ⟨fun p hp=>⟨(hm p hp).1,Nat.ne_of_gt (hm p hp).2,Heap.get?_none_of_le (Nat.le_trans I.fr.above (Nat.le_of_lt (hm p hp).2))⟩,I.nw⟩,I.bl,I.fo⟩
theorem Ny {L:Addr} {cm:Str→Option Value} {cs:List (Str×Addr)} {cells:Led} (h:CellsAre cm cs cells):(∀ n c,(n,c)∈cs→L < c)→∀ p∈cells,L < p.1:=by
  induction h with
  | nil=>exact fun ω ω hp=>nomatch hp
  | cons _ _ ih=>exact fun e9=>List.forall_mem_cons.mpr ⟨e9 _ _ (.head _),ih fun n c hm=>e9 n c (.tail _ hm)⟩
theorem zO {f:Addr} {od:Option Addr} {ia:Array (Option Value)} {oc:Value} {name qual:Str} {params:Arguments} {body:List Stmt} {sc:Scope} {dV kV doc pm bb ct:Value} {an:Option Addr} {ps:List Str} {as:List AV} {σ U:Led} {r:AV}
    (ho:g.K.lookup f=some ⟨oc,od,.func (fnOf name qual params body sc dV kV doc pm an bb ct),ia⟩) (cy:codeIn g.K bb qual=true)
    (hb:∀ (s:Shared) (vs:List Value),vs.length=as.length→BindsTo s (fnOf name qual params body sc dV kV doc pm an bb ct) ⟨vs,[]⟩ (ps.zip vs))
    (jF:∀ n,∀ x∈ps,sc.names.lookup x=some .cell∧((cellsFrom n sc.names []).lookup x).isSome=true) (oB:((cellsFrom 0 sc.names []).map (·.1)).Nodup)
    (du:∀ (c:Cx) (ι cells:Led) (m:Str→Option Value) (s:Shared) (vs:List Value) (Q:Flow→Shared→Prop) (Er:Value→Shared→Prop),c.Ok g sc pl D→St g c ((cells++ι)++σ) m s.heap→Ap c (cells++ι) σ→0 < s.toks→aY ι vs as→
      c.cl=cellsFrom (c.L+1) sc.names []→CellsAre (bindC (c.env sc).kindOf (ps.zip vs) fun ω=>none) c.cl cells→
      (∀ v ae m' h' ao,0 < ao→St g c (ae++U) m' h'→Ap c ae U→(∀ p∈cells++ι,p∈ae)→Rep ae v r→Q (.ret v) {s with heap:=h',toks:=ao})→wpAny g.M c.A (execs body (c.env sc)) Q Er s)
    (tP:sc.isCoroutine=false) (tQ:sc.isGenerator=false) (hk:sc.kind=.function):Fn g pl (D+1) (.ref f) as σ r U:=by
  intro c ji ι m s vs Q Er ok ⟨h₀,I⟩ ap ht aM k
  refine wpAny_call ?_
  have kx:=ok.kh I
  refine codeAny_call_function (fd:=fnOf name qual params body sc dV kV doc pm an bb ct) (body:=body) (Nat.lt_of_le_of_lt (Nat.le_add_right _ _) (Nat.lt_trans ok.dp (by decide))) (kx _ _ ho) rfl tP tQ rfl (codeRec_of kx cy) (hb s vs aM.length _ _ _ _ ?_)
  refine wpAny_with_toks (n:=1) ht (wpAny_newFunctionEnv_cells hk (fun x hx=>.inr (jF _ _ (List.of_mem_zip hx).1)) fun Xw he s' x=>fun et=>?_)
  subst he
  obtain ⟨ah,tk,rfl⟩:=x.toInCall.same
  have cx:=x.toInCall.keep
  refine ⟨((ok.tp I).nolimit.keeps I.fr.keep).keeps cx,codeAny_func ?_⟩
  have ⟨cells,NC,Y⟩:=Cl.news (h₀:=s.heap) (Nat.le_refl _) fun n a hm=>⟨x.cell n a (lookup_of_mem_nodup (cellsFrom_names sc.names 0 (s.heap.objs.size+1) [] [] rfl▸oB) hm),x.above n a hm⟩
  have e9:=Ny Y x.above
  have ⟨oL,hL,ai⟩:=sI ok I qual f bb sc (cellsFrom (s.heap.objs.size+1) sc.names []) x.toInCall.ns cx
  have aw:=St.Nx ai (more:=cells) fun p hp=>⟨(NC p hp).1,e9 p hp⟩
  rw [←List.append_assoc] at aw
  exact du _ ι cells _ {s with heap:=ah,toks:=tk} vs _ _ (ok.into hk) aw ⟨List.forall_mem_append.mpr ⟨fun p hp q hq=>Nat.ne_of_gt (Nat.lt_trans (Heap.lt_size (I.nw q (List.mem_append_right _ hq)).1) (e9 p hp)),ap.apart⟩,ap.once,fun p hp=>List.mem_append_right _ (ap.hx p hp)⟩ et aM rfl Y fun v ae m' h' ao aQ S' aX bk=>
    k _ ae h' ao (pZ I hL S') aX fun p hp=>bk p (List.mem_append_right _ hp)
end
section
variable {g:Gx} {pl:Bool} {D:Nat} {σ:Led}
theorem boot_float:bootBuiltins "float"=some (.type "float"):=by kernel_rfl
theorem qF (n:Nat):cellsFrom n (bz (af 73)).names []=[(("parse_float":Str),n)]:=by kernel_rfl
theorem Nz {ι:Led} {m:Str→Option Value}:bF ι [] m:=⟨List.nodup_nil,fun ω ω h=>(nomatch h),fun ω h=>(nomatch h)⟩
theorem NA (kf:KF g):Fn g pl (D+1) (.ref 700) [.val (.type "float")] σ (.val (.type "float")) σ:=by
  obtain ⟨oc,od,ia,doc,pm,an,bb,ct,hl,hc⟩:=kf.yw
  refine zO (ps:=["parse_float"]) hl hc (fun s vs e=>?_) (fun n x hx=>?_) (by rw [qF]; simp) ?_ (by decide+kernel) (by decide+kernel) (by decide+kernel)
  · obtain ⟨v,rfl⟩:=jt e
    exact BindsTo.of_eq rfl
  · rw [List.mem_singleton] at hx
    subst hx
    exact ⟨by decide+kernel,by rw [qF]; simp⟩
  intro c ι cells m s vs Q Er ok S ap ht aM jF Y k
  rw [jF,qF] at Y
  obtain ⟨o,rfl,hd⟩:=Y.one
  obtain ⟨v,rfl⟩:=jt aM.length
  cases aM with | cons hv _=>
  obtain ⟨_,rfl⟩:=hv.inv
  refine wpAny_execs_cons ((show Ex g pl D (bz (af 73)) [] σ _ .next [] σ from lr).on c _ m s _ _ ok S Nz ap ht fun v ar m₁ ah ax av ai aq aj ak hv=>?_)
  refine hv.kZ ?_
  refine wpAny_execs_cons (wpAny_If (wpAny_isTrue_Compare1 ?_ (by rfl)))
  obtain ⟨h₀,I⟩:=ai
  refine nameX_C (cl:=c.cl) I.nw (c:=c.L+1) (by rw [jF,qF]; rfl) (List.mem_append_left _ (ak _ (.head _))) hd ?_ ok.kind (by unfold Env.kindOf; kernel_rfl) (by decide+kernel)
  refine nameX_B I.fr (ok.kx I) (topRead_of (ok.tp I)) kf.tK boot_float (by decide+kernel) ?_ ok.kind (by unfold Env.kindOf; kernel_rfl) (by decide+kernel)
  refine wpAny_is_self (by rfl) (wpAny_truthy_bool ?_)
  rw [if_pos rfl]
  refine wpAny_execs_cons (wpAny_Return_some ?_)
  refine nameX_B I.fr (ok.kx I) (topRead_of (ok.tp I)) kf.tK boot_float (by decide+kernel) ?_ ok.kind (by unfold Env.kindOf; kernel_rfl) (by decide+kernel)
  exact k _ ar m₁ ah ax av ⟨h₀,I⟩ aj ak (.val _)
end
section
variable {g:Gx} {pl:Bool} {D:Nat} {sc:Scope} {E E' E₁ aO:ag} {σ U σ₁ σ₂ aN:Led}
noncomputable abbrev cG (g:Gx) (o:Obj) (kvs:List (Str×Value)):Prop:=o.IsDictOf (PySem.strKind g.prog g.w) kvs
theorem strOf {k:Str} {v:Value} {g:Gx} (h:(PySem.strKind g.prog g.w).is k v=true):∃ t,v=.str k t:=by
  obtain ⟨t,e⟩:=PySem.Value.isStrOf_shape h
  exact ⟨t,e⟩
theorem NB {e:Expr} {x:Str} {px pos:Pos} {body:List Stmt} {d:Addr} {o:Obj} {kvs:List (Str×Value)} {P:Fl→ag→Led→Prop} (J:Nat→ag→Led→Prop) (he:Ev g true D sc E σ e (.val (.ref d)) σ₁) (hd:(d,o)∈σ₁) (ho:cG g o kvs) (lo:(d==sysModules)=false)
    (hJ:∀ i E σ,J i E σ→(d,o)∈σ) (h0:J 0 E σ₁) (fv:lg g true D sc x body (kvs.map fun q=>.str q.1) P J) (gm:∀ E' U,J kvs.length E' U→P .next E' U)
    (hk:autoParam (sc.names.lookup x=some .local) aK) (hs:autoParam (∀ env v,foldedSetIterable e env v=pure v) aJ):dg g true D sc E σ (.For (.Name x px) e body [] pos) P:=by
  refine .mk fun c ι m s Q Er ok S R ap ht k=>?_
  refine wpAny_For (he.on c ι m s _ _ ok S R ap ht fun v ar m₁ ah ax av ai aq aj ak hv=>?_) (hs _)
  refine hv.is ?_
  obtain ⟨h₀,V⟩:=ai
  have hg:=(V.nw _ (List.mem_append_right _ hd)).1
  obtain ⟨ep,ha⟩:=KdkAt.of ho
  have hD:=ha.dictAt hg
  refine wpAny_pyIter_dict lo hD ?_
  have aT:d≠ah.objs.size:=Nat.ne_of_lt (Heap.lt_size hg)
  have hW:=Walks.dictKeys (prog:=g.prog) (w:=g.w) (knd:=PySem.strKind g.prog g.w) (A:=c.A) ok.hn ah.objs.size d aT kvs ep
  refine sS (P:=P) (σ:=σ₁) (m:=m₁) (xs:=kvs.map fun q=>.str q.1) (h₀:=h₀) J ok ok.nQ (I:=ah.objs.size) (fp:=[ah.objs.size,d]) (V:=fun i v=>∃ k x,kvs[i]?=some (k,x)∧(PySem.strKind g.prog g.w).is k v=true) (cq:=fun i h=>h.IsKeyIter ah.objs.size d i kvs.length ep∧h.DictAt (PySem.strKind g.prog g.w) d kvs ep) ⟨?_,fun i h st=>?_,fun i v hi hV=>?_,fun b hb=>?_⟩ (V.next (V.fr.push _) fun p hp=>⟨Heap.get?_push_of_some _ (V.nw p hp).1,(V.nw p hp).2⟩) (next_is_new V.fr) ?_ (fun p hp e=>V.fresh p hp e.symm) ⟨⟨_,Heap.get?_push_size _ rfl,rfl,rfl⟩,ha.dictAt (Heap.get?_push_of_some _ hg)⟩ aq aj av hk h0 fv (by rw [List.length_map]; exact gm) ?_
  · rw [List.length_map]; exact hW
  · obtain ⟨o,ho,hc,_⟩:=st.1
    exact ⟨o,ho,mw (by rw [hc]; decide) (by rw [hc]; decide)⟩
  · obtain ⟨kk,x,h1,h2⟩:=hV
    obtain ⟨t,rfl⟩:=strOf h2
    exact ⟨.str kk,by rw [List.getElem?_map,h1]; rfl,.str _ _⟩
  · have dY:b=ah.objs.size∨b=d:=by simpa using hb
    rcases dY with rfl | rfl
    · exact .inl rfl
    · exact .inr (.inr (.inr ⟨o,hJ⟩))
  · exact fun e=>absurd V.fr.ns.lt (by rw [←e]; exact Nat.lt_irrefl _)
  · intro f b E' U ae m' h' ao aQ S' R' aX bk hf hP
    exact k f b E' U ae m' h' ao aQ S' R' aX (fun p hp=>bk p (ak p hp)) hf hP
theorem iV {v i:Expr} {p:Pos} {d:Addr} {o:Obj} {kvs:List (Str×Value)} {x:Str} {u:Value} (hv:Ev g pl D sc E σ v (.val (.ref d)) σ₁) (hi:Ev g pl D sc E σ₁ i (.str x) σ₂) (hd:(d,o)∈σ₂) (ho:cG g o kvs) (hx:valueAt kvs x=some u)
    (hs:autoParam (∀ d t,subscripted i false (.ref d) (.str x t)=operate [.ref d,.str x t] (getItem (.ref d) (.str x t))) aW) (hg:autoParam (∀ d r,letTemporaryGo v (.ref d) r=pure ()) aW):
    Ev g pl D sc E σ (.Subscript v i p) (.val u) σ₂:=by
  refine Comes.of fun c ι m s Q Er ok S R ap ht kk=>?_
  refine Subscript_ (hv.on c ι m s _ _ ok S R ap ht fun qA ar m₁ ah ax av ai aq aj ak hX=>?_)
  refine hi.on c ar m₁ _ _ _ ok ai aq aj av fun qB aG m₂ aB a9 a8 aw aC ay aA bB=>?_
  refine hX.isVal (bB.isStr fun t=>?_)
  obtain ⟨h₀,I⟩:=aw
  have iu:(PySem.strKind g.prog g.w).is x (.str x t)=true:=by simp [PySem.strKind,Value.isStrOf]
  exact kda_item I.nw (List.mem_append_right _ hd) ho iu hx (kk _ aG m₂ aB _ ⟨h₀,I⟩ aC ay (fun p hp=>aA p (ak p hp)) (.val _)) (hs d t) (hg d)
end
section
variable {g:Gx} {pl:Bool} {D:Nat} {sc:Scope} {E E' E₁ aO:ag} {σ U σ₁ σ₂ aN:Led}
theorem ux {x:Str} {d:Addr} {o:Obj} {kvs:List (Str×Value)} (hd:(d,o)∈σ) (ho:cG g o kvs) (lo:(d==sysModules)=false):bN g pl D sc E σ (compareOp .In) Rep (.str x) (.val (.ref d)) (.bool (valueAt kvs x).isSome) σ:=by
  intro v u; refine .mk fun c ι m s Q Er ok ⟨h₀,I⟩ R ap ht pr k=>?_
  obtain ⟨h1,h2⟩:=pr
  refine h1.is fun ω=>?_; refine h2.is ?_
  exact kda_in (knd:=PySem.strKind g.prog g.w) (k:=x) I.nw (List.mem_append_right _ hd) ho lo (by simp [PySem.strKind,Value.isStrOf]) _ rfl (k _ ι m s.heap _ ⟨h₀,I⟩ R ap (fun p h=>h) (.bool _))
theorem ND {e:Expr} {p p':Pos} {d:Addr} {o:Obj} {kvs:List (Str×Value)} (he:Ev g pl D sc E σ e (.val (.ref d)) σ₁) (hd:(d,o)∈σ₁) (ho:cG g o kvs) (lo:(d==sysModules)=false) (kD:∀ h:Heap,g.K.In h→((h.objs.size:Addr)==sysModules)=false)
    (hm:autoParam (behindInMarks .Eq (.Dict [] [] p')=false) aR):cv g pl D sc E σ (.Compare e [.Eq] [.Dict [] [] p'] p) (kvs.length==0) σ₁:=by
  refine Comes.of fun c ι m s Q Er ok S R' ap ht k=>?_
  refine wpAny_isTrue_Compare1 (he.on c ι m s _ _ ok S R' ap ht fun v ar m₁ ah ax av ai aq aj ak hv=>?_) hm
  refine hv.is ?_
  refine wpAny_Dict_empty ?_
  obtain ⟨h₀,I⟩:=ai
  have hg:=(I.nw _ (List.mem_append_right _ hd)).1
  refine keq_eq (knd:=PySem.strKind g.prog g.w) (ka:=kvs) (kb:=[]) (r:=true) lo (kD ah (ok.kh I)) (Heap.dictOf_iff.mpr ⟨o,Heap.get?_push_of_some _ hg,ho⟩) (Heap.DictOf.new _) (by have:=ok.un; unfold cLine; lia) (fun hl=>?_) ?_
  · have:kvs=[]:=List.length_eq_zero_iff.mp hl
    subst this
    exact .nil
  · rw [Bool.and_true]
    refine wpAny_truthy_bool (k _ ar m₁ _ _ (I.to (I.fr.push _) fun p hp=>⟨Heap.get?_push_of_some _ (I.nw p hp).1,(I.nw p hp).2⟩) aq aj ak rfl)
end
set_option genInjectivity false in
inductive Tr
  | node (kids:List (List Nat×Tr))
mutual
noncomputable def Tr.depth:Tr→Nat
  | .node kids=>gx kids+1
noncomputable def gx:List (List Nat×Tr)→Nat
  | []=>0
  | (_,t)::r=>max t.depth (gx r)
end
mutual
noncomputable def cz:Tr→List (List Nat)→List (List (List Nat))
  | .node [],way=>[way]
  | .node (k::ks),way=>cX (k::ks) way
noncomputable def cX:List (List Nat×Tr)→List (List Nat)→List (List (List Nat))
  | [],_=>[]
  | (n,t)::r,way=>cz t (way++[n])++cX r way
end
mutual
inductive f5 (g:Gx) (σ:Led):Addr→Tr→Prop
  | node {d:Addr} {o:Obj} {kvs:List (Str×Value)} {kids:List (List Nat×Tr)}:(d,o)∈σ→cG g o kvs→(d==sysModules)=false→kE g σ kvs kids→f5 g σ d (.node kids)
inductive kE (g:Gx) (σ:Led):List (Str×Value)→List (List Nat×Tr)→Prop
  | nil:kE g σ [] []
  | cons {n:List Nat} {r:Addr} {t:Tr} {kvs:List (Str×Value)} {kids:List (List Nat×Tr)}:f5 g σ r t→kE g σ kvs kids→kE g σ ((S n,.ref r)::kvs) ((n,t)::kids)
end
theorem kE.length {g:Gx} {σ:Led}:∀ {kvs:List (Str×Value)} {kids:List (List Nat×Tr)},kE g σ kvs kids→kvs.length=kids.length
  | _,_,.nil=>rfl
  | _,_,.cons _ h=>by rw [List.length_cons,List.length_cons,h.length]
theorem kE.get {g:Gx} {σ:Led}:∀ {kvs:List (Str×Value)} {kids:List (List Nat×Tr)},kE g σ kvs kids→∀ {i:Nat} {q:Str×Value},kvs[i]?=some q→∃ n r t,q=(S n,.ref r)∧kids[i]?=some (n,t)∧f5 g σ r t
  | _,_,.nil,i,q,h=>by simp at h
  | _,_,.cons ht hk,0,q,h=>by cases h; exact ⟨_,_,_,rfl,rfl,ht⟩
  | _,_,.cons ht hk,i+1,q,h=>by simpa using hk.get (by simpa using h)
theorem NF {kvs:List (Str×Value)} {k:Str} {v:Value} {i:Nat} (hn:(kvs.map (·.1)).Nodup) (h:kvs[i]?=some (k,v)):valueAt kvs k=some v:=by
  unfold valueAt
  induction kvs generalizing i with
  | nil=>simp at h
  | cons q kvs ih=>
    rw [List.map_cons,List.nodup_cons] at hn
    cases i with
    | zero=>cases h; simp
    | succ i=>
      have h':kvs[i]?=some (k,v):=by simpa using h
      have aT:¬ q.1=k:=fun e=>hn.1 (e▸List.mem_map_of_mem (f:=(·.1)) (List.mem_of_getElem? h'))
      rw [List.find?_cons_of_neg (by simpa using aT)]
      exact ih hn.2 h'
theorem zP {n:List Nat} {t:Tr}:∀ {kids:List (List Nat×Tr)} {i:Nat},kids[i]?=some (n,t)→t.depth≤gx kids
  | [],i,h=>by simp at h
  | (m,u)::r,0,h=>by cases h; unfold gx; lia
  | (m,u)::r,i+1,h=>by
    have:=zP (kids:=r) (i:=i) (by simpa using h)
    unfold gx; lia
theorem zQ (way:List (List Nat)):∀ a b:List (List Nat×Tr),cX (a++b) way=cX a way++cX b way
  | [],b=>by simp [cX]
  | (n,t)::a,b=>by simp [cX,zQ way a b]
mutual
noncomputable def jG:Tr→Nat
  | .node []=>1
  | .node (k::ks)=>f6 (k::ks)
noncomputable def f6:List (List Nat×Tr)→Nat
  | []=>0
  | (_,t)::r=>jG t+f6 r
end
mutual
theorem uy:∀ (t:Tr) (w:List (List Nat)),(cz t w).length=jG t
  | .node [],w=>by simp [cz,jG]
  | .node (k::ks),w=>by unfold cz jG; exact uz (k::ks) w
theorem uz:∀ (l:List (List Nat×Tr)) (w:List (List Nat)),(cX l w).length=f6 l
  | [],w=>by simp [cX,f6]
  | (n,t)::r,w=>by unfold cX f6; rw [List.length_append,uy t,uz r]
end
theorem zR {n:List Nat} {t:Tr}:∀ {kids:List (List Nat×Tr)} {i:Nat},kids[i]?=some (n,t)→jG t≤f6 kids
  | [],i,h=>by simp at h
  | (m,u)::r,0,h=>by cases h; unfold f6; lia
  | (m,u)::r,i+1,h=>by
    have:=zR (kids:=r) (i:=i) (by simpa using h)
    unfold f6; lia
theorem zS:∀ (kids:List (List Nat×Tr)) (i:Nat),f6 (kids.take i)≤f6 kids
  | [],i=>by simp [f6]
  | (m,u)::r,0=>by simp [f6]
  | (m,u)::r,i+1=>by
    have:=zS r i
    rw [List.take_succ_cons]; unfold f6; lia
theorem NG (kids:List (List Nat×Tr)) (w:List (List Nat)):cz (.node kids) w=if kids.length==0 then [w] else cX kids w:=by
  cases kids <;> simp [cz]
theorem NH (kids:List (List Nat×Tr)) (h:kids.length≠0):jG (.node kids)=f6 kids:=by
  cases kids with
  | nil=>simp at h
  | cons k ks=>simp [jG]
noncomputable abbrev kH (l:List (List (List Nat))):AV:=.lst (l.map TL)
section
variable {g:Gx} {pl:Bool} {D:Nat} {sc:Scope} {E E' E₁ aO:ag} {σ U σ₁ σ₂ aN:Led}
theorem NI {x y:List (List (List Nat))} (hz:x.length+y.length≤16777216):bN g pl D sc E σ (binaryOp .Add) Rep (kH x) (kH y) (kH (x++y)) σ:=by
  have:=pW (g:=g) (pl:=pl) (D:=D) (sc:=sc) (E:=E) (σ:=σ) (x:=x.map TL) (y:=y.map TL) (by rw [List.length_map,List.length_map]; exact hz)
  rwa [←List.map_append] at this
theorem zT (kf:KF g) (kD:∀ h:Heap,g.K.In h→((h.objs.size:Addr)==sysModules)=false):∀ (n:Nat) {D:Nat} {t:Tr} {d:Addr} {way:List (List Nat)},f5 g σ d t→t.depth≤n→way.length+n≤1000→jG t≤100000→
    Fn g true (D+n) (.ref 843) [.val (.ref d),TL way] σ (kH (cz t way)) σ
  | 0,D,.node kids,_,_,_,h,_,_=>by unfold Tr.depth at h; lia
  | n+1,D,.node kids,d,way,h,NJ,Xx,hlen=>by
    cases h with | @node _ o kvs _ hd ho lo hk=>
    have oB:(kvs.map (·.1)).Nodup:=by obtain ⟨_,_,_,_,_,_,h⟩:=ho; exact h
    have oC:=hk.length
    refine gI (D:=D+n) (ps:=["nest","way"]) (rest:=["told","name"]) [("nest",some (.val (.ref d))),("way",some (TL way)),("told",none),("name",none)] kf.ye ?_ ?_
    · intro doc pm an bb ct vs hl
      obtain ⟨v,u,rfl⟩:=ig hl
      rfl
    rw [NG]
    refine iQ (b:=kvs.length==0) (σ₁:=σ) (ND aa hd ho lo kD) (fun e=>?_) fun e=>?_
    · exact bC (bO (cb (j7 (au aa aU)))) ⟨by simp,by rw [←oC,if_pos e]; rfl,rfl⟩
    have zU:kids.length≠0:=by rw [←oC]; simpa using e
    have uA:=NH kids zU
    rw [uA] at hlen
    refine aZ (ba (a:=kH []) (j7 aU)) ?_
    refine cJ (NB (P:=fun fl E' U=>fl=.next∧U=σ∧∃ q,E'=([("nest",some (.val (.ref d))),("way",some (TL way)),("told",some (kH (cX kids way))),("name",q)]:ag))
      (fun i E' U=>U=σ∧∃ q,E'=([("nest",some (.val (.ref d))),("way",some (TL way)),("told",some (kH (cX (kids.take i) way))),("name",q)]:ag)) aa hd ho lo (fun i E' U h=>by rw [h.1]; exact hd) ⟨rfl,none,by simp [cX]⟩ ?_ ?_) ?_
    · rintro i a _ bU hi ⟨NK,q,rfl⟩
      have NM:=NK.symm
      subst NM
      rw [List.getElem?_map] at hi
      cases hq:kvs[i]? with
      | none=>rw [hq] at hi; cases hi
      | some kv=>
      rw [hq] at hi
      cases hi
      obtain ⟨nm,r,t,rfl,h2,h3⟩:=hk.get hq
      refine ⟨_,.there (.there (.there .here)),?_⟩
      have cg:t.depth≤n:=by
        have:=zP h2
        unfold Tr.depth at NJ; lia
      have hc:=zR h2
      have ht:=zS kids i
      refine bC (bI (ba (a:=kH (cX (kids.take (i+1)) way)) ((bP aa (cj kf.tv kf.s8 (au (iV aa aa hd ho (NF oB hq)) (au (bP aa (t9 aa) (t8 (by simp; lia))) aU)) (zT kf kD n (D:=D) (way:=way++[nm]) h3 cg (by simp; lia) (by lia))) (NI (by rw [uz,uy]; lia))).cast ?_)) bh) (.inl ⟨.inl rfl,rfl,_,rfl⟩)
      rw [List.take_add_one,h2,zQ]
      simp [cX]
    · rintro _ _ ⟨rfl,q,rfl⟩
      refine ⟨rfl,rfl,q,?_⟩
      rw [oC,List.take_length]
    · rintro _ _ _ ⟨rfl,rfl,q,rfl⟩
      exact bC (bO (cb aa)) ⟨by rw [if_neg (by simpa using zU)],rfl⟩
end
section
variable {g:Gx} {pl:Bool} {D:Nat} {sc:Scope} {E E' E₁ aO:ag} {σ U σ₁ σ₂ aN:Led}
theorem zV {v i:Expr} {p:Pos} {l:List AV} {k:Int} {j:Nat} {a:AV} (hv:Ev g pl D sc E σ v (.tup l) σ₁) (hi:Ev g pl D sc E σ₁ i (.int k) σ₂) (h1:-2 ^ 63≤k) (h2:k < 2 ^ 63) (hj:seqIndex? k l.length=some j) (ha:l[j]?=some a)
    (hs:autoParam (∀ t u,subscripted i false (.ref t) (.int k u)=operate [.ref t,.int k u] (getItem (.ref t) (.int k u))) aW):Ev g pl D sc E σ (.Subscript v i p) a σ₂:=by
  refine Comes.of fun c ι m s Q Er ok S R ap ht kk=>?_
  refine Subscript_ (hv.on c ι m s _ _ ok S R ap ht fun qA ar m₁ ah ax av ai aq aj ak hX=>?_)
  refine hi.on c ar m₁ _ _ _ ok ai aq aj av fun qB aG m₂ aB a9 a8 aw aC ay aA bB=>?_
  refine hX.isTup fun r vs hm hr=>bB.isInt fun u=>?_
  obtain ⟨h₀,I⟩:=aw
  obtain ⟨x,hx,uB⟩:=(hr.mono aA).get ha
  exact item_tupleT ⟨_,(I.nw _ (List.mem_append_left _ (aA _ hm))).1,rfl,_,rfl⟩ h1 h2 (by rw [hr.length]; exact hj) hx (kk _ aG m₂ aB _ ⟨h₀,I⟩ aC ay (fun p hp=>aA p (ak p hp)) uB) (hs _ _)
theorem gP {x:Str} {d:Addr} {o:Obj} {kvs:List (Str×Value)} (hd:(d,o)∈σ) (ho:cG g o kvs) (lo:(d==sysModules)=false):bN g pl D sc E σ (compareOp .NotIn) Rep (.str x) (.val (.ref d)) (.bool (!(valueAt kvs x).isSome)) σ:=by
  intro v u; refine .mk fun c ι m s Q Er ok ⟨h₀,I⟩ R ap ht pr k=>?_
  obtain ⟨h1,h2⟩:=pr
  refine h1.is fun ω=>?_; refine h2.is ?_
  exact wpAny_notIn_of (knd:=PySem.strKind g.prog g.w) (k:=x) (by simp [PySem.strKind,Value.isStrOf]) lo (kda_dict I.nw (List.mem_append_right _ hd) ho).mapOf (k _ ι m s.heap _ ⟨h₀,I⟩ R ap (fun p h=>h) (.bool _))
end
theorem NN (o:Obj) (f:Array Value→Array Value):(o.mapSeq f).dict=o.dict:=by
  obtain ⟨c,d,dt,sl⟩:=o; cases dt <;> rfl
section
variable {prog:Program} {w:World} {A:Around} {Er:Value→Shared→Prop} {s:Shared}
theorem zW {l:Addr} {o:Obj} {ys:List Value} {x:Value} {Q:Value→Shared→Prop} (ho:s.heap.get? l=some o) (hl:dQ o ys) (bX:ys.length≤sizeLine)
    (hQ:∀ h' o',h'.get? l=some o'→dQ o' (ys++[x])→Heap.SameBut l s.heap h'→Q .none {s with heap:=h'}):wpAny (model prog w) A (call (.builtin "list.append") [.ref l,x]) Q Er s:=by
  obtain ⟨hc,NO,n,hd⟩:=hl
  obtain ⟨n',cg⟩:=Obj.data_mapSeq hd (·.push x)
  refine wpAny_call_entry slot_list_append ⟨o,ho,hc⟩ entry_list_append ?_ (args_list_append _ _)
  show wpAny _ _ (updateSeq l (·.push x) >>= fun ω=>ret .none) _ _ s
  refine wpAny_bind ?_
  refine wpAny_updateSeq ho hd (wpAny_pure ⟨.none,rfl,hQ _ _ (Heap.get?_update_self _ ho (Obj.isFreed_of_seq cg)) ⟨(Obj.cls_mapSeq ..).trans hc,(NN _ _).trans NO,n',?_⟩ (Heap.SameBut.update ..)⟩) (by simp; lia)
  rw [cg]; simp
end
inductive zX (g:Gx) (c:Cx) (ι σ:Led) (s:Shared) (L V I:Addr) (m:Str→Option Value) (xs:List AV) (f:Nat→AV) (cq:Nat→Heap→Prop) (n:Nat) (s':Shared):Prop
  | mk (i:Nat) (h':Heap) (ao:Nat) (ae:Led) (bQ cf:Obj) (f7:Str→Option Value) (ys:List Value) (eE:Heap):n=xs.length - i→i≤xs.length→s'={s with heap:=h',toks:=ao}→0 < ao→cq i h'→Inv g c (ae++(L,bQ)::(V,cf)::σ) m eE h'→eE.get? I=none→(∀ p∈ae++(L,bQ)::(V,cf)::σ,p.1≠I)→Ap c ae ((L,bQ)::(V,cf)::σ)→(∀ p∈ι,p∈ae)→dQ bQ ys→aY ae ys ((List.range i).map f)→h'.Ns V f7→zX g c ι σ s L V I m xs f cq n s'
section
variable {g:Gx} {pl:Bool} {D:Nat} {sc:Scope} {E E' E₁ aO:ag} {σ U σ₁ σ₂ aN:Led}
theorem NP {c:Cx} {ι:Led} {m mV:Str→Option Value} {s:Shared} {x:Str} {px:Pos} {elt iter:Expr} {scope:Scope} {pos:Pos} {cenv:Env} {V L I:Addr} {xs:List AV} {f:Nat→AV} {fp:List Addr} {Vp:Nat→Value→Prop} {cq:Nat→Heap→Prop} {Rz:Result→Shared→Prop} {oL oV:Obj}
    (ok:c.Ok g sc true D) (W:Walks g.prog g.w c.A I fp [I] xs.length Vp cq) (hP:∀ i v,i < xs.length→Vp i v→∃ a,xs[i]?=some a∧Rep ι v a) (hI:∀ i h,cq i h→∃ o,h.get? I=some o∧k9 o)
    (nK:∀ b∈fp,b=I∨(∃ o,(b,o)∈ι)∨∃ o,c.base.get? b=some o) (j8:cenv.locals=V) (NQ:cenv.scope.kind=.function) (NR:cenv.kindOf x=some .local)
    (jH:∀ (i:Nat) (a:AV) (v:Value) (ae:Led) (bQ cf:Obj) (m':Str→Option Value) (s':Shared) (Q:Value→Shared→Prop) (Er:Value→Shared→Prop),xs[i]?=some a→St g c (ae++(L,bQ)::(V,cf)::σ) m s'.heap→Ap c ae ((L,bQ)::(V,cf)::σ)→0 < s'.toks→(∀ p∈ι,p∈ae)→Rep ae v a→
      s'.heap.Ns V (fun y=>if y=x then some v else m' y)→
      (∀ u fE cK il,St g c (fE++(L,bQ)::(V,cf)::σ) m cK→Ap c fE ((L,bQ)::(V,cf)::σ)→(∀ p∈ae,p∈fE)→Rep fE u (f i)→Q u {s' with heap:=cK,toks:=il})→wpAny g.M c.A (eval elt cenv) Q Er s')
    (S:St g c (ι++(L,oL)::(V,oV)::σ) m s.heap) (ap:Ap c ι ((L,oL)::(V,oV)::σ)) (hL:dQ oL []) (hV:s.heap.Ns V mV) (hIn:∀ p∈ι++(L,oL)::(V,oV)::σ,p.1≠I) (lh:I≠c.L) (NS:∃ h₀,Inv g c (ι++(L,oL)::(V,oV)::σ) m h₀ s.heap∧h₀.get? I=none)
    (st:cq 0 s.heap) (ht:0 < s.toks) (gw:xs.length≤sizeLine)
    (k:∀ ae bQ cf f7 ys h' ao,0 < ao→St g c (ae++(L,bQ)::(V,cf)::σ) m h'→Ap c ae ((L,bQ)::(V,cf)::σ)→(∀ p∈ι,p∈ae)→dQ bQ ys→aY ae ys ((List.range xs.length).map f)→h'.Ns V f7→Rz (.ok .next) {s with heap:=h',toks:=ao}):
    codeAny g.M c.A (.compLoop (.ListComp elt [⟨.Name x px,iter,[],0⟩] scope pos) 0 (.ref I) (.ref L) cenv) Rz s:=by
  obtain ⟨h₀,fu,nM⟩:=NS
  refine codeAny_compLoop_list (zX g c ι σ s L V I m xs f cq)
    ?_ xs.length ⟨0,s.heap,s.toks,ι,oL,oV,mV,[],h₀,rfl,Nat.zero_le _,rfl,ht,st,fu,nM,hIn,ap,fun ω h=>h,hL,.nil,hV⟩ (by intro _; rfl)
  rintro n s' ⟨i,h',ao,ae,bQ,cf,f7,ys,eE,rfl,hi,rfl,aQ,nN,V',nO,mu,aX,bk,qG,jI,lD⟩
  have next:∀ ah:Heap,(∀ b o,b∉[I]→h'.get? b=some o→ah.get? b=some o)→Inv g c (ae++(L,bQ)::(V,cf)::σ) m eE ah:=fun ah cx=>
    have cx:=fun b o hb=>cx b o (mt List.mem_singleton.mp hb)
    V'.next ⟨V'.fr.ns.at' fun o=>cx _ o lh.symm,fun b o e=>cx b o (fun q=>by cases (q▸nO).symm.trans e) (V'.fr.keep b o e),V'.fr.above⟩ fun p hp=>⟨cx _ _ (mu p hp) (V'.nw p hp).1,(V'.nw p hp).2⟩
  have zY:V∉[I]:=mt List.mem_singleton.mp (mu (V,cf) (List.mem_append_right _ (.tail _ (.head _))))
  have mK:L≠V:=fun e=>(List.nodup_cons.mp aX.once).1 (e▸.head _)
  have NT:ys.length=i:=by rw [jI.length,List.length_map,List.length_range]
  rcases Nat.lt_or_eq_of_le hi with bq | rfl
  · refine wpAny_with_toks (n:=1) aQ (W.item i _ _ _ bq nN fun v ah ax NU j9 cx av=>?_)
    have eM:=next ah cx
    have ⟨a,ha,hv⟩:=hP i v bq NU
    have ⟨o,ho,eh⟩:=hI _ _ j9
    have sT:Inv g c (((I,o)::ae)++(L,bQ)::(V,cf)::σ) m eE ah:=eM.next eM.fr (List.forall_mem_cons.mpr ⟨⟨ho,lh,nO⟩,eM.nw⟩)
    have aj:Ap c ((I,o)::ae) ((L,bQ)::(V,cf)::σ):=aX.cons fun q hq e=>mu q (List.mem_append_right _ hq) e.symm
    refine PySem.wpAny_assign_Name (wpAny_storeName_local NR (by rw [j8]; exact lD.at' fun o e=>cx V o zY e) (fun aB mI aA=>?_) (by rw [NQ]; rfl))
    rw [j8] at mI aA
    have ⟨lE,_,_,qH,_⟩:=mI
    have aw:=sT.st.put aj (.tail _ (.head _)) aA qH
    have ay:Ap c ((I,o)::ae) (putL ((L,bQ)::(V,cf)::σ) V lE):=aj.put
    have eP:putL ((L,bQ)::(V,cf)::σ) V lE=(L,bQ)::(V,lE)::σ:=by
      show (if L=V then _ else (L,bQ))::putL ((V,cf)::σ) V lE=_
      rw [if_neg mK,lu (List.nodup_cons.mp aj.once).2]
    rw [eP] at aw ay
    refine wpAny_with_toks (n:=1) (Nat.succ_pos _) (jH i a v ((I,o)::ae) bQ lE f7 _ _ _ ha aw ay (Nat.succ_pos _) (fun p hp=>.tail _ (bk p hp)) (hv.mono fun p hp=>.tail _ (bk p hp)) mI fun u br bu bx bj bp bo hu ck=>?_)
    have NV:bu.get? L=some bQ:=have ⟨_,J⟩:=bj; (J.nw _ (List.mem_append_right _ (.head _))).1
    refine zW NV qG (NT▸Nat.le_of_lt (Nat.lt_of_lt_of_le bq gw)) fun eO zZ uC NW fb=>?_
    have dM:=bj.put bp (.head _) fb uC
    have eS:Ap c br (putL ((L,bQ)::(V,lE)::σ) L zZ):=bp.put
    rw [lu bp.once] at dM eS
    have ⟨NX,jJ⟩:=dM
    have lj:=jJ.nw _ (List.mem_append_left _ (bo _ (.head _)))
    have nl:=fun p hp=>(jJ.nw p (List.mem_append_left _ hp)).1
    have uD:∀ p∈ae,p∈br:=fun p hp=>bo p (.tail _ hp)
    refine ⟨xs.length - (i+1),Nat.sub_lt_sub_left bq (Nat.lt_succ_self _),i+1,eO,bx,off br I,zZ,lE,_,ys++[u],NX,rfl,bq,rfl,ck,W.frame _ _ _ j9 fun b hb o' e=>?_,jJ.next jJ.fr (List.forall_mem_append.mpr ⟨fun p hp=>jJ.nw p (List.mem_append_left _ (iM.mp hp).1),fun p hp=>jJ.nw p (List.mem_append_right _ hp)⟩),lj.2.2,List.forall_mem_append.mpr ⟨fun p hp=>(iM.mp hp).2,fun p hp e=>eS.apart _ (bo _ (.head _)) p hp e.symm⟩,
      ⟨fun p hp=>eS.apart p (iM.mp hp).1,eS.once,fun p e=>by cases ok.nQ.symm.trans e⟩,fun p hp=>iM.mpr ⟨uD p (bk p hp),hIn p (List.mem_append_left _ hp)⟩,NW,?_,mI.at' fun o e=>(jJ.nw _ (List.mem_append_right _ (.tail _ (.head _)))).1.trans (qH.symm.trans e)⟩
    · rcases nK b hb with rfl | ⟨hB,hm⟩ | ⟨hB,hm⟩
      · exact lj.1.trans (ho.symm.trans e)
      · exact (nl _ (uD _ (bk _ hm))).trans ((eM.nw _ (List.mem_append_left _ (bk _ hm))).1.symm.trans e)
      · exact (jJ.fr.keep _ _ (jJ.bl.stays _ _ hm)).trans ((eM.fr.keep _ _ (eM.bl.stays _ _ hm)).symm.trans e)
    · rw [List.range_succ,List.map_append]
      exact ((jI.mono uD).append (.cons hu .nil)).ind .nil fun h ω m=>.cons (h.off fun p hp e=>Option.some.inj (lj.1.symm.trans (e▸nl p hp))▸eh) m
  · exact wpAny_with_toks (n:=1) aQ (W.done _ _ _ nN fun ah ax cx av=>k ae bQ cf f7 ys ah ax av (next ah cx).st aX bk qG jI (lD.at' fun o e=>cx V o zY e))
end
section
variable {g:Gx} {pl:Bool} {D:Nat} {sc:Scope} {E E' E₁ aO:ag} {σ U σ₁ σ₂ aN:Led}
noncomputable abbrev lF (g:Gx) (c:Cx) (ι σ:Led) (m:Str→Option Value) (sc scope:Scope) (cl:List (Str×Addr)) (x:Str) (elt:Expr) (xs:List AV) (f:Nat→AV):Prop:=
  ∀ (V L:Addr) (i:Nat) (a:AV) (v:Value) (ae:Led) (bQ cf:Obj) (m':Str→Option Value) (s':Shared) (Q:Value→Shared→Prop) (Er:Value→Shared→Prop),xs[i]?=some a→St g c (ae++(L,bQ)::(V,cf)::σ) m s'.heap→Ap c ae ((L,bQ)::(V,cf)::σ)→0 < s'.toks→(∀ p∈ι,p∈ae)→Rep ae v a→
    s'.heap.Ns V (fun y=>if y=x then some v else m' y)→
    (∀ u fE cK il,St g c (fE++(L,bQ)::(V,cf)::σ) m cK→Ap c fE ((L,bQ)::(V,cf)::σ)→(∀ p∈ae,p∈fE)→Rep fE u (f i)→Q u {s' with heap:=cK,toks:=il})→wpAny g.M c.A (eval elt (compEnvC scope cl V (c.env sc))) Q Er s'
theorem z0 {c:Cx} {ι:Led} {m:Str→Option Value} {s:Shared} {x:Str} {px:Pos} {elt iter:Expr} {scope:Scope} {cl:List (Str×Addr)} {pos:Pos} {I:Addr} {xs:List AV} {f:Nat→AV} {fp:List Addr} {Vp:Nat→Value→Prop} {cq:Nat→Heap→Prop} {Er:Value→Shared→Prop} {h₀:Heap} {use:Option (Value→Sem Unit)} {Q:Value→Shared→Prop}
    (ok:c.Ok g sc true D) (W:Walks g.prog g.w c.A I fp [I] xs.length Vp cq) (hP:∀ i v,i < xs.length→Vp i v→∃ a,xs[i]?=some a∧Rep ι v a) (hI:∀ i h,cq i h→∃ o,h.get? I=some o∧k9 o)
    (nK:∀ b∈fp,b=I∨(∃ o,(b,o)∈ι)∨∃ o,c.base.get? b=some o) (jv:∀ y∈scope.names,y.2≠.cell) (fH:scope.kind=.function) (hx:scope.names.lookup x=some .local)
    (jH:lF g c ι σ m sc scope cl x elt xs f)
    (fu:Inv g c (ι++σ) m h₀ s.heap) (nM:h₀.get? I=none) (hIn:∀ p∈ι++σ,p.1≠I) (lh:I≠c.L) (ap:Ap c ι σ) (st:cq 0 s.heap) (ht:0 < s.toks) (gw:xs.length≤sizeLine)
    (k:∀ L V ae bQ cf f7 ys h' ao,0 < ao→St g c (ae++(L,bQ)::(V,cf)::σ) m h'→Ap c ae ((L,bQ)::(V,cf)::σ)→(∀ p∈ι,p∈ae)→dQ bQ ys→aY ae ys ((List.range xs.length).map f)→h'.Ns V f7→compPost g.M c.A Er use Q (.ref L) V (.ok .next) {s with heap:=h',toks:=ao}):
    wpAny g.M c.A (newList []) (fun acc iW=>wpAny g.M c.A (newFunctionEnv scope (c.env sc).globals cl [] (c.env sc).qual none .none (some (c.env sc))) (fun cenv oE=>
      codeAny g.M c.A (.compStart (.ListComp elt [⟨.Name x px,iter,[],0⟩] scope pos) 0 (.ref I) acc {cenv with scope:=relabel scope (c.env sc)}) (compPost g.M c.A Er use Q acc cenv.locals) oE) Er iW) Er s:=by
  refine wpAny_newObj_type (hd:=by size_fits) (wpAny_newFunctionEnv jv (by intro y hy; simp at hy) (fun ah qI qJ=>?_) fH)
  dsimp only at qI qJ ⊢
  generalize qK:s.heap.push {cls:=.type "list",dict:=none,data:=.seq ([]:List Value).toArray}=H1 at qI qJ ⊢
  have hV:H1.objs.size=s.heap.objs.size+1:=by rw [←qK,Heap.size_push]
  have mK:s.heap.objs.size≠H1.objs.size:=by rw [hV]; exact (Nat.succ_ne_self _).symm
  obtain ⟨SL,Xy⟩:=St.opened ⟨h₀,fu⟩ ap {cls:=.type "list",dict:=none,data:=.seq ([]:List Value).toArray}
  rw [qK] at SL
  have hold:∀ b o,s.heap.get? b=some o→ah.get? b=some o:=fun b o e=>by
    have hb:=Heap.lt_size e
    exact qJ.extBut b o (by rw [hV]; exact Nat.ne_of_lt (Nat.lt_succ_of_lt hb)) (Heap.get?_push_of_some _ (qK▸Heap.get?_push_of_some _ e))
  obtain ⟨oV,Xz,XA,qH,XB,XC,XD⟩:=id qI
  have uE:c.L < s.heap.objs.size:=fu.fr.ns.lt
  have uC:ah.get? s.heap.objs.size=some {cls:=.type "list",dict:=none,data:=.seq ([]:List Value).toArray}:=qJ.extBut _ _ mK (Heap.get?_push_of_some _ (qK▸Heap.get?_push_size _ rfl))
  have eM:Inv g c (ι++(s.heap.objs.size,g9 [])::(H1.objs.size,oV)::σ) m h₀ ah:=by
    refine fu.next ⟨fu.fr.ns.at' fun o e=>hold _ o e,fun b o e=>hold b o (fu.fr.keep b o e),fu.fr.above⟩ fun p hp=>?_
    have old:∀ p∈ι++σ,ah.get? p.1=some p.2∧p.1≠c.L∧h₀.get? p.1=none:=fun p hp=>⟨hold _ _ (fu.nw p hp).1,(fu.nw p hp).2⟩
    rcases List.mem_append.mp hp with hp | hp
    · exact old p (List.mem_append_left _ hp)
    · rcases List.mem_cons.mp hp with rfl | hp
      · exact ⟨uC,Nat.ne_of_gt uE,next_is_new fu.fr⟩
      · rcases List.mem_cons.mp hp with rfl | hp
        · exact ⟨qH,by rw [hV]; exact Nat.ne_of_gt (Nat.lt_succ_of_lt uE),Heap.get?_none_of_le (by rw [hV]; exact Nat.le_trans fu.fr.above (Nat.le_succ_of_le (Nat.le_of_lt uE)))⟩
        · exact old p (List.mem_append_right _ hp)
  have lt:∀ p∈ι++σ,p.1 < s.heap.objs.size:=fun p hp=>Heap.lt_size (fu.nw p hp).1
  have aj:Ap c ι ((s.heap.objs.size,g9 [])::(H1.objs.size,oV)::σ):=by
    refine ⟨fun p hp q hq=>?_,?_,ap.hx⟩
    · have bq:=lt p (List.mem_append_left _ hp)
      rcases List.mem_cons.mp hq with rfl | hq
      · exact Nat.ne_of_lt bq
      · rcases List.mem_cons.mp hq with rfl | hq
        · exact Nat.ne_of_lt (by show p.1 < H1.objs.size; rw [hV]; exact Nat.lt_succ_of_lt bq)
        · exact ap.apart p hp q hq
    · rw [List.map_cons,List.map_cons,List.nodup_cons,List.nodup_cons]
      refine ⟨fun hm=>?_,fun hm=>?_,ap.once⟩
      · rcases List.mem_cons.mp hm with e | hm
        · exact mK e
        · obtain ⟨p,hp,e⟩:=List.mem_map.mp hm
          exact absurd (lt p (List.mem_append_right _ hp)) (by rw [e]; exact Nat.lt_irrefl _)
      · obtain ⟨p,hp,e⟩:=List.mem_map.mp hm
        have:=lt p (List.mem_append_right _ hp)
        rw [e,hV] at this
        exact absurd this (Nat.not_lt.mpr (Nat.le_succ _))
  obtain ⟨oI,NY,_⟩:=hI 0 _ st
  have z1:I < s.heap.objs.size:=Heap.lt_size NY
  have NZ:∀ p∈ι++(s.heap.objs.size,g9 [])::(H1.objs.size,oV)::σ,p.1≠I:=fun p hp=>by
    rcases List.mem_append.mp hp with hp | hp
    · exact hIn p (List.mem_append_left _ hp)
    · rcases List.mem_cons.mp hp with rfl | hp
      · exact Nat.ne_of_gt z1
      · rcases List.mem_cons.mp hp with rfl | hp
        · exact Nat.ne_of_gt (by show I < H1.objs.size; rw [hV]; exact Nat.lt_succ_of_lt z1)
        · exact hIn p (List.mem_append_right _ hp)
  have j9:cq 0 ah:=W.frame 0 _ _ st fun b hb o e=>hold b o e
  have loop:codeAny g.M c.A (.compLoop (.ListComp elt [⟨.Name x px,iter,[],0⟩] scope pos) 0 (.ref I) (.ref s.heap.objs.size) (compEnvC scope cl H1.objs.size (c.env sc))) (compPost g.M c.A Er use Q (.ref s.heap.objs.size) H1.objs.size) {s with heap:=ah,toks:=s.toks+([]:List (Str×Value)).length}:=
    NP (cenv:=compEnvC scope cl H1.objs.size (c.env sc)) ok W hP hI nK rfl fH (lookup_relabel_local hx) (jH H1.objs.size s.heap.objs.size) ⟨h₀,eM⟩ aj (pT []) qI NZ lh ⟨h₀,eM,nM⟩ j9 ht gw fun ae bQ cf f7 ys h' ao aQ S' aX bk qG jI lD=>k _ _ ae bQ cf f7 ys h' ao aQ S' aX bk qG jI lD
  exact codeAny_compStart_list loop (W.self 0 _ _ _ j9 loop)
end
section
variable {g:Gx} {pl:Bool} {D:Nat} {sc:Scope} {E E' E₁ aO:ag} {σ U σ₁ σ₂ aN:Led}
theorem z2 {c:Cx} {ι:Led} {m:Str→Option Value} {h h':Heap} {L V:Addr} {oL oV:Obj} {ys:List Value} {l:List AV} (S:St g c (ι++(L,oL)::(V,oV)::σ) m h) (ap:Ap c ι ((L,oL)::(V,oV)::σ)) (hs:Heap.SameBut V h h') (hL:dQ oL ys) (hr:aY ι ys l):
    St g c (((L,oL)::ι)++σ) m h'∧Ap c ((L,oL)::ι) σ∧Rep ((L,oL)::ι) (.ref L) (.lst l):=by
  obtain ⟨h₀,I⟩:=S
  have hV:=I.nw (V,oV) (List.mem_append_right _ (.tail _ (.head _)))
  have once:=ap.once
  rw [List.map_cons,List.map_cons,List.nodup_cons,List.nodup_cons] at once
  have mK:L≠V:=fun e=>once.1 (e▸.head _)
  refine ⟨⟨h₀,I.fr.change hs hV.2.1 hV.2.2,fun p hp=>?_,I.bl,I.fo⟩,⟨fun p hp q hq=>?_,once.2.2,fun p hp=>.tail _ (ap.hx p hp)⟩,.lst (.head _) hL (hr.mono fun p hp=>.tail _ hp)⟩
  · have go:∀ p∈ι++(L,oL)::(V,oV)::σ,p.1≠V→h'.get? p.1=some p.2∧p.1≠c.L∧h₀.get? p.1=none:=fun p hp hn=>⟨(hs.2 _ hn).trans (I.nw p hp).1,(I.nw p hp).2⟩
    rcases List.mem_append.mp hp with hp | hp
    · rcases List.mem_cons.mp hp with rfl | hp
      · exact go _ (List.mem_append_right _ (.head _)) mK
      · exact go _ (List.mem_append_left _ hp) (ap.apart p hp (V,oV) (.tail _ (.head _)))
    · exact go _ (List.mem_append_right _ (.tail _ (.tail _ hp))) fun e=>once.2.1 (e▸List.mem_map_of_mem (f:=(·.1)) hp)
  · rcases List.mem_cons.mp hp with rfl | hp
    · exact fun e=>once.1 (.tail _ (e▸List.mem_map_of_mem (f:=(·.1)) hq))
    · exact ap.apart p hp q (.tail _ (.tail _ hq))
theorem N0 {c:Cx} {ι:Led} {m:Str→Option Value} {s:Shared} {x:Str} {px:Pos} {elt iter:Expr} {scope:Scope} {cl:List (Str×Addr)} {pos:Pos} {l:List AV} {f:Nat→AV} {v:Value} {Er:Value→Shared→Prop} {use:Option (Value→Sem Unit)} {Q:Value→Shared→Prop}
    (ok:c.Ok g sc true D) (jv:∀ y∈scope.names,y.2≠.cell) (fH:scope.kind=.function) (hx:scope.names.lookup x=some .local)
    (jH:lF g c ι σ m sc scope cl x elt l f) (S:St g c (ι++σ) m s.heap) (ap:Ap c ι σ) (ht:0 < s.toks) (hv:Rep ι v (.lst l)) (gw:l.length≤sizeLine)
    (k:∀ L V ae bQ cf f7 ys h' ao,0 < ao→St g c (ae++(L,bQ)::(V,cf)::σ) m h'→Ap c ae ((L,bQ)::(V,cf)::σ)→(∀ p∈ι,p∈ae)→dQ bQ ys→aY ae ys ((List.range l.length).map f)→h'.Ns V f7→compPost g.M c.A Er use Q (.ref L) V (.ok .next) {s with heap:=h',toks:=ao}):
    wpAny g.M c.A (pyIter v) (fun it cw=>wpAny g.M c.A (newList []) (fun acc iW=>wpAny g.M c.A (newFunctionEnv scope (c.env sc).globals cl [] (c.env sc).qual none .none (some (c.env sc))) (fun cenv oE=>
      codeAny g.M c.A (.compStart (.ListComp elt [⟨.Name x px,iter,[],0⟩] scope pos) 0 it acc {cenv with scope:=relabel scope (c.env sc)}) (compPost g.M c.A Er use Q acc cenv.locals) oE) Er iW) Er cw) Er s:=by
  refine hv.jf fun r ω vs hm ho hr=>?_
  obtain ⟨h₀,V⟩:=S
  have hg:=(V.nw _ (List.mem_append_left _ hm)).1
  have hl:s.heap.IsList r vs.toArray:=⟨_,hg,ho.1,ho.2.2⟩
  refine wpAny_pyIter_list hl ?_
  have aT:r≠s.heap.objs.size:=Nat.ne_of_lt (Heap.lt_size hg)
  have hW:=Walks.list (prog:=g.prog) (w:=g.w) (A:=c.A) ok.hn s.heap.objs.size r aT vs.toArray
  have hlen:vs.toArray.size=l.length:=by rw [List.size_toArray]; exact hr.length
  rw [hlen] at hW
  refine z0 (s:={s with heap:=s.heap.push {cls:=.type "list_iterator",data:=.fields #[.ref r,.int 0 0]}}) ok hW (fun i u hi hV=>?_) (fun i h st=>?_) (fun b hb=>?_) jv fH hx jH (V.next (V.fr.push _) fun p hp=>⟨Heap.get?_push_of_some _ (V.nw p hp).1,(V.nw p hp).2⟩) (next_is_new V.fr) (fun p hp e=>V.fresh p hp e.symm) ?_ ap ⟨⟨_,Heap.get?_push_size _ rfl,rfl,rfl⟩,hl.at fun o e=>Heap.get?_push_of_some _ e⟩ ht gw k
  · have lD:vs[i]?=some u:=by simpa using hV
    obtain ⟨u',h1,h2⟩:=hr.get (i:=i) (List.getElem?_eq_getElem hi)
    rw [h1] at lD; cases lD
    exact ⟨_,List.getElem?_eq_getElem hi,h2⟩
  · obtain ⟨o,ho,hc,_⟩:=st.1
    exact ⟨o,ho,mw (by rw [hc]; decide) (by rw [hc]; decide)⟩
  · have dY:b=s.heap.objs.size∨b=r:=by simpa using hb
    rcases dY with rfl | rfl
    · exact .inl rfl
    · exact .inr (.inl ⟨_,hm⟩)
  · exact fun e=>absurd V.fr.ns.lt (by rw [←e]; exact Nat.lt_irrefl _)
end
section
variable {g:Gx} {pl:Bool} {D:Nat} {sc:Scope} {E E' E₁ aO:ag} {σ U σ₁ σ₂ aN:Led}
theorem z3 (n:Nat):Builtin.Range.rangeSize 0 (n:Int) 1=(n:Int):=by
  unfold Builtin.Range.rangeSize
  rw [if_pos (by decide)]
  split <;> lia
theorem N2 {n:Nat} (hn:n≤1000):Builtin.Range.small 0 (n:Int) 1=true:=by
  unfold Builtin.Range.small
  rw [z3]
  unfold Builtin.Range.rangeFitsLong
  have h1:(n:Int)≤1000:=by lia
  have h2:(0:Int)≤n:=by lia
  simp
  lia
theorem z4 {ι:Led}:∀ {ts:List Str} {vs:List Value},aY ι vs (ts.map AV.str)→∃ l:List (Str×Tok),vs=strValues l∧l.map (·.1)=ts
  | [],_,.nil=>⟨[],rfl,rfl⟩
  | t::ts,_,.cons h r=>by
    refine h.is fun tk=>?_
    obtain ⟨l,rfl,h2⟩:=z4 r
    exact ⟨(t,tk)::l,rfl,by rw [List.map_cons,h2]⟩
theorem N3 {x:Str} {ts:List Str} (oG:JoinOk x ts=true):Fn g pl D (.builtin "str.join") [.str x,.lst (ts.map AV.str)] σ (.str (Txt.join x ts)) σ:=by
  intro c sc ι m s vs Q Er ok S ap ht aM k
  refine aM.eN fun ω ω h1 h2=>?_
  refine h1.is fun ω=>?_
  refine h2.jf fun r o us hm ho hr=>?_
  obtain ⟨l,rfl,hl⟩:=z4 hr
  obtain ⟨h₀,I⟩:=S
  exact SC.join ⟨_,(I.nw _ (List.mem_append_left _ hm)).1,ho.1,ho.2.2⟩ hl oG fun t' tk=>k _ ι s.heap tk I.st ap (fun ω h=>h) (.str _ _)
theorem N4 {c:Cx} {ι:Led} {m:Str→Option Value} {s:Shared} {x:Str} {px:Pos} {elt iter:Expr} {scope:Scope} {cl:List (Str×Addr)} {pos:Pos} {n:Nat} {f:Nat→AV} {r:Addr} {t u v:Tok} {Er:Value→Shared→Prop} {use:Option (Value→Sem Unit)} {Q:Value→Shared→Prop}
    (ok:c.Ok g sc true D) (jv:∀ y∈scope.names,y.2≠.cell) (fH:scope.kind=.function) (hx:scope.names.lookup x=some .local)
    (jH:lF g c ι σ m sc scope cl x elt ((List.range n).map fun i:Nat=>AV.int (i:Int)) f) (S:St g c (ι++σ) m s.heap) (ap:Ap c ι σ) (ht:0 < s.toks) (hv:IsRange s.heap r 0 n 1 t u v) (hn:n≤1000)
    (k:∀ L V ae bQ cf f7 ys h' ao,0 < ao→St g c (ae++(L,bQ)::(V,cf)::σ) m h'→Ap c ae ((L,bQ)::(V,cf)::σ)→(∀ p∈ι,p∈ae)→dQ bQ ys→aY ae ys ((List.range n).map f)→h'.Ns V f7→compPost g.M c.A Er use Q (.ref L) V (.ok .next) {s with heap:=h',toks:=ao}):
    wpAny g.M c.A (pyIter (.ref r)) (fun it cw=>wpAny g.M c.A (newList []) (fun acc iW=>wpAny g.M c.A (newFunctionEnv scope (c.env sc).globals cl [] (c.env sc).qual none .none (some (c.env sc))) (fun cenv oE=>
      codeAny g.M c.A (.compStart (.ListComp elt [⟨.Name x px,iter,[],0⟩] scope pos) 0 it acc {cenv with scope:=relabel scope (c.env sc)}) (compPost g.M c.A Er use Q acc cenv.locals) oE) Er iW) Er cw) Er s:=by
  obtain ⟨h₀,V⟩:=S
  refine wpAny_pyIter_range hv (N2 hn) ?_
  have bX:=z3 n
  have hlen:((List.range n).map fun i:Nat=>AV.int (i:Int)).length=n:=by simp
  have hW:=(Walks.range (prog:=g.prog) (w:=g.w) (A:=c.A) ok.hn s.heap.objs.size 0 1 n)
  rw [←hlen] at hW
  rw [←hlen] at k
  refine z0 (s:={s with heap:=s.heap.push {cls:=.type "range_iterator",data:=.fields #[rawInt 0,rawInt (Builtin.Range.rangeSize 0 n 1),rawInt 1]}}) ok hW (fun i u hi hV=>?_) (fun i h st=>?_) (fun b hb=>.inl (by simpa using hb)) jv fH hx jH (V.next (V.fr.push _) fun p hp=>⟨Heap.get?_push_of_some _ (V.nw p hp).1,(V.nw p hp).2⟩) (next_is_new V.fr) (fun p hp e=>V.fresh p hp e.symm) ?_ ap ?_ ht (by rw [hlen]; unfold sizeLine; lia) k
  · obtain ⟨t,rfl⟩:=hV
    refine ⟨.int (i:Int),?_,?_⟩
    · rw [List.getElem?_map,List.getElem?_range (by rw [hlen] at hi; exact hi)]; rfl
    · have:(0:Int)+(i:Int) * 1=(i:Int):=by lia
      rw [this]; exact .int _ _
  · exact ⟨_,st,by exact fun e=>(by injection e with e; revert e; decide),by exact fun e=>(by injection e with e; revert e; decide)⟩
  · exact fun e=>absurd V.fr.ns.lt (by rw [←e]; exact Nat.lt_irrefl _)
  · show IsRangeIter _ _ _ _ _
    rw [hlen,bX]
    simpa using Heap.get?_push_size _ rfl
end
noncomputable def iA (z:List Nat):List (List Nat)→List Nat
  | []=>[]
  | [x]=>x
  | x::y::r=>x++z++iA z (y::r)
noncomputable def f9 (names:List (List Nat)) (turn:Nat):List (List Nat):=(List.range names.length).map fun k=>cR (names.getD k []) ((k+turn) % 3)
noncomputable def cT (names:List (List Nat)) (turn:Nat):List Nat:=iA [32,46,9] (f9 names turn)
theorem uF (z x:List Nat):∀ (ls:List (List Nat)),iA z (x::ls)=x++ls.flatMap fun y=>z++y
  | []=>by simp [iA]
  | y::r=>by
    rw [iA,uF z y r]
    simp [List.append_assoc]
theorem z5 (z:List Nat):∀ (ls:List (List Nat)) (a:List Nat),(ls.map S).foldl (fun acc p=>acc++(S z).cps++p.cps) a.toArray=(a++ls.flatMap fun y=>z++y).toArray
  | [],a=>by simp
  | y::r,a=>by
    rw [List.map_cons,List.foldl_cons]
    have:a.toArray++(S z).cps++(S y).cps=(a++(z++y)).toArray:=by
      show a.toArray++z.toArray++y.toArray=_
      simp
    rw [this,z5 z r]
    simp [List.append_assoc]
theorem N5 (z:List Nat):∀ (ls:List (List Nat)),Txt.join (S z) (ls.map S)=S (iA z ls)
  | []=>rfl
  | x::ls=>by
    rw [uF]
    show (⟨(ls.map S).foldl (fun acc p=>acc++(S z).cps++p.cps) (S x).cps⟩:Str)=_
    rw [show (S x).cps=x.toArray from rfl,z5]
section
variable {g:Gx} {pl:Bool} {D:Nat} {σ:Led}
noncomputable def N6 (s:Stmt):Expr:=if h:s.ctorIdx=3 then Stmt.Return.elim s h fun o ω=>o.getD default else default
noncomputable def N7 (e:Expr):Expr:=if h:e.ctorIdx=16 then Expr.Call.elim e h fun ω l ω ω=>l.headD default else default
noncomputable def qL:Expr:=N7 (N6 ((bZ (af 96)).headD (.Pass ⟨0,0,0,0⟩)))
noncomputable def oH {α:Type} (d:α) (f:Expr→Comprehension→Scope→Pos→α):α:=if h:qL.ctorIdx=8 then Expr.ListComp.elim qL h fun e l s p=>match l with
  | []=>d
  | q::_=>f e q s p else d
noncomputable def jK:Scope:=oH default fun ω ω s ω=>s
noncomputable def uG:Expr:=oH default fun e ω ω ω=>e
noncomputable def N8:Expr:=oH default fun ω q ω ω=>q.iter
noncomputable def N9:Pos:=oH default fun ω q ω ω=>if h:q.target.ctorIdx=23 then Expr.Name.elim q.target h fun ω p=>p else default
noncomputable def Oa:Pos:=oH default fun ω ω ω p=>p
theorem Ob:qL=.ListComp uG [⟨.Name "k" N9,N8,[],0⟩] jK Oa:=by kernel_rfl
theorem mL (n:Nat):cellsFrom n (bz (af 96)).names []=[(("turn":Str),n+1),(("names":Str),n)]:=by kernel_rfl
theorem Oc (c:Cx) (h:c.cl=cellsFrom (c.L+1) (bz (af 96)).names []):closureFor jK (c.env (bz (af 96)))=pure [(("turn":Str),c.L+1+1),(("names":Str),c.L+1)]:=by
  rw [mL] at h
  show closureFor jK (envX c.nm (bz (af 96)) c.L c.f c.cd c.cl)=_
  rw [h]
  kernel_rfl
theorem Od (c:Cx):(relabel jK (c.env (bz (af 96)))).names=[((".0":Str),.local),("k",.local),("_law_written",.globalImplicit),("names",.cell),("turn",.cell)]:=by kernel_rfl
noncomputable abbrev uH (c:Cx) (V:Addr):Env:=compEnvC jK [(("turn":Str),c.L+1+1),(("names":Str),c.L+1)] V (c.env (bz (af 96)))
theorem oJ (c:Cx) (V:Addr) (x:Str):(uH c V).kindOf x=([((".0":Str),NameKind.local),("k",.local),("_law_written",.globalImplicit),("names",.cell),("turn",.cell)]:List (Str×NameKind)).lookup x:=by
  show (relabel jK (c.env (bz (af 96)))).names.lookup x=_
  rw [Od]
theorem Oe (i turn:Nat):((i:Int)+(turn:Int))=((i+turn:Nat):Int):=by lia
theorem Of (n:Nat):Int.fmod (n:Int) 3=((n % 3:Nat):Int):=by
  rw [Int.fmod_eq_emod_of_nonneg _ (by decide)]; lia
theorem Og (kf:KF g) {c:Cx} {ι σ:Led} {m:Str→Option Value} {names:List (List Nat)} {turn:Nat} {oN oT:Obj} {vN vT:Value} (ok:c.Ok g (bz (af 96)) true (D+1)) (hlen:∀ x∈names,x.length≤1000) (hn:names.length≤1000)
    (hN:(c.L+1,oN)∈ι) (hT:(c.L+1+1,oT)∈ι) (dN:oN.data=.cell (some vN)) (dT:oT.data=.cell (some vT)) (rN:Rep ι vN (TL names)) (rT:Rep ι vT (.int turn)):
    lF g c ι σ m (bz (af 96)) jK [(("turn":Str),c.L+1+1),(("names":Str),c.L+1)] "k" uG ((List.range names.length).map fun i:Nat=>AV.int (i:Int)) (fun k=>T (cR (names.getD k []) ((k+turn) % 3))):=by
  intro V L i a v ae oL oV m' s Q Er hi S ap ht hs hv cN k
  have jB:i < names.length:=by
    have:=(List.getElem?_eq_some_iff.mp hi).1
    simpa using this
  rw [List.getElem?_map,List.getElem?_range jB] at hi
  cases hi
  obtain ⟨tk,rfl⟩:=hv.inv
  show wpAny g.M c.A (eval uG (uH c V)) Q Er s
  obtain ⟨h₀,I⟩:=id S
  refine wpAny_Call_NameR (nameG_K I.fr (ok.kx I) (topRead_of (ok.tp I)) kf.yD ?_ rfl (by show jK.kind=.function; kernel_rfl) (by rw [oJ]; kernel_rfl) (by kernel_rfl))
  refine callWith_K (ok.kh I) kf.yb (spliced_more ?_ (by rfl)) (by rfl) (by rfl)
  have kI:(uH c V).scope.kind=.function:=by show jK.kind=.function; kernel_rfl
  have gN:=(I.nw _ (List.mem_append_left _ (hs _ hN))).1
  have gT:=(I.nw _ (List.mem_append_left _ (hs _ hT))).1
  obtain ⟨r,o,us,rfl,hm,ho,hr⟩:=rN.inv
  obtain ⟨tT,rfl⟩:=rT.inv
  have hg:=(I.nw _ (List.mem_append_left _ (hs _ hm))).1
  have hl:s.heap.IsList r us.toArray:=⟨_,hg,ho.1,ho.2.2⟩
  obtain ⟨u,hu,Oh⟩:=hr.get (i:=i) (a:=T (names.getD i [])) (by rw [List.getElem?_map,List.getElem?_eq_getElem jB]; simp [List.getD_eq_getElem?_getD,List.getElem?_eq_getElem jB])
  refine Subscript_ (wpAny_Name (wpAny_loadName_cell kI (by rw [oJ]; kernel_rfl) rfl ⟨oN,gN,dN⟩ ?_) (by kernel_rfl))
  refine wpAny_Name (wpAny_loadName_local kI (by rw [oJ]; kernel_rfl) cN (if_pos rfl) ?_) (by kernel_rfl)
  refine item_litK hl (by lia) (by lia) (by simpa using hu) ?_ (by with_unfolding_all rfl)
  refine spliced_more (wpAny_BinOp (wpAny_BinOp ?_)) (by rfl)
  refine wpAny_Name (wpAny_loadName_local kI (by rw [oJ]; kernel_rfl) cN (if_pos rfl) ?_) (by kernel_rfl)
  refine wpAny_Name (wpAny_loadName_cell kI (by rw [oJ]; kernel_rfl) rfl ⟨oT,gT,dT⟩ ?_) (by kernel_rfl)
  refine add_int ?_
  refine wpAny_Constant_int ?_
  refine mod_int' (by decide) ?_
  refine spliced_none ⟨ok.kh I,?_⟩
  rw [Oe,Of]
  have hx:(names.getD i []).length≤1000:=hlen _ (by rw [List.getD_eq_getElem?_getD,List.getElem?_eq_getElem jB]; exact List.getElem_mem jB)
  refine ML kf (D:=D) (pl:=true) (σ:=(L,oL)::(V,oV)::σ) hx c (bz (af 96)) ae m _ _ _ _ ok S ap ?_ (.cons (Oh.mono fun p hp=>hs p hp) (.cons (.int _ _) .nil)) fun v br bu bx bj bp bo b8=>?_
  · exact Nat.succ_pos _
  · exact k v br bu bx bj bp bo b8
theorem boot_range:bootBuiltins "range"=some (.type "range"):=by kernel_rfl
theorem z6 (z:List Nat):∀ (ls:List (List Nat)),(iA z ls).length≤(ls.map List.length).sum+ls.length * z.length
  | []=>by simp [iA]
  | [x]=>by simp [iA]
  | x::y::r=>by
    have:=z6 z (y::r)
    simp only [iA,List.length_append,List.map_cons,List.sum_cons,List.length_cons] at this ⊢
    have e:(r.length+1+1) * z.length=(r.length+1) * z.length+z.length:=by rw [Nat.succ_mul]
    lia
theorem Oi (kf:KF g) {names:List (List Nat)} {turn:Nat} (hlen:∀ x∈names,x.length≤1000) (hn:names.length≤1000) (oG:JoinOk (S [32,46,9]) ((f9 names turn).map S)=true):Fn g true (D+2) (.ref 836) [TL names,.int turn] σ (T (cT names turn)) σ:=by
  obtain ⟨oc,od,ia,doc,pm,an,bb,ct,hl,hc⟩:=kf.yc
  refine zO (ps:=["names","turn"]) hl hc (fun s vs e=>?_) (fun n x hx=>?_) (by rw [mL]; decide+kernel) ?_ (by decide+kernel) (by decide+kernel) (by decide+kernel)
  · obtain ⟨v,u,rfl⟩:=ig e
    exact BindsTo.of_eq rfl
  · rcases List.mem_cons.mp hx with rfl | hx
    · exact ⟨by decide+kernel,by rw [mL]; simp⟩
    · rw [List.mem_singleton] at hx
      subst hx
      exact ⟨by decide+kernel,by rw [mL]; simp⟩
  intro c ι cells m s vs Q Er ok S ap ht aM jF Y k
  rw [jF,mL] at Y
  obtain ⟨oT,oN,rfl,dT,dN⟩:=Y.two
  obtain ⟨vN,vT,rfl⟩:=ig aM.length
  cases aM with | cons rN aM=>
  cases aM with | cons rT _=>
  refine wpAny_execs_cons ?_
  refine wpAny_Return_some ?_
  refine MethodCall_ (wpAny_Constant_str (GM.join ?_)) (by rfl)
  refine callWith_method1 (spliced_more ?_ (by rfl)) (by rfl) (by rfl)
  show wpAny g.M c.A (eval qL (c.env (bz (af 96)))) _ _ _
  rw [Ob,eval_ListComp]
  refine wpAny_comprehension_free (use:=none) rfl (by intro _; rfl) (Oc c jF) (by kernel_rfl) (by decide+kernel) ?_
  obtain ⟨h₀,I⟩:=id S
  refine wpAny_Call_NameR (nameX_B I.fr (ok.kx I) (topRead_of (ok.tp I)) kf.yW boot_range (by decide+kernel) ?_ ok.kind (by unfold Env.kindOf; kernel_rfl) (by kernel_rfl))
  refine PyProof.Rows.callWith_type1 (spliced_more ?_ (by rfl)) (by rfl) (by rfl)
  refine wpAny_Call_NameR (nameX_B I.fr (ok.kx I) (topRead_of (ok.tp I)) kf.js (v:=.builtin "len") (by kernel_rfl) (by decide+kernel) ?_ ok.kind (by unfold Env.kindOf; kernel_rfl) (by kernel_rfl))
  refine PyProof.Rows.callWith_builtin1 (spliced_more ?_ (by rfl)) (by rfl) (by rfl)
  refine nameX_C (cl:=c.cl) I.nw (c:=c.L+1) (by rw [jF,mL]; rfl) (List.mem_append_left _ (List.mem_append_left _ (.tail _ (.head _)))) dN ?_ ok.kind (by unfold Env.kindOf; kernel_rfl) (by decide+kernel)
  refine spliced_none ?_
  have Oj:=rN
  refine Oj.jf fun r o us hm ho hr=>?_
  have hg:=(I.nw _ (List.mem_append_left _ (List.mem_append_right _ hm))).1
  have Ol:s.heap.IsList r us.toArray:=⟨_,hg,ho.1,ho.2.2⟩
  have mx:us.toArray.size=names.length:=by rw [List.size_toArray,hr.length,List.length_map]
  refine Calls.call_len_list Ol (by rw [mx]; lia) ?_
  rw [mx]
  refine spliced_none ?_
  refine call_range_1 ?_
  have ai:∀ o,St g c (([(c.L+1+1,oT),(c.L+1,oN)]++ι)++σ) m (s.heap.push o):=fun o=>⟨h₀,I.fr.push _,fun p hp=>⟨Heap.get?_push_of_some _ (I.nw p hp).1,(I.nw p hp).2⟩,I.bl,I.fo⟩
  refine N4 (D:=D+1) (n:=names.length) (s:={s with heap:=_,toks:=_}) ok (by decide+kernel) (by kernel_rfl) (by kernel_rfl) (Og kf ok hlen hn (List.mem_append_left _ (.tail _ (.head _))) (List.mem_append_left _ (.head _)) dN dT (rN.mono fun p hp=>List.mem_append_right _ hp) (rT.mono fun p hp=>List.mem_append_right _ hp)) (ai _) ap (Nat.succ_pos _) (IsRange.new _ _ _ _ _ _ _) hn fun L V ae oL oV mV ys h' ao aQ S' aX bk hL jI hV=>?_
  refine ⟨mV,hV,fun cK fe=>?_⟩
  obtain ⟨ip,gu,rr⟩:=z2 S' aX fe hL jI
  refine spliced_none ?_
  have e:((List.range names.length).map fun k=>T (cR (names.getD k []) ((k+turn) % 3)))=(((f9 names turn).map Mine.S).map AV.str):=by
    unfold f9; simp [List.map_map,Function.comp_def]
  rw [e] at rr
  refine wpAny_with_toks (n:=1) aQ (N3 (D:=D+1) (pl:=true) (σ:=σ) oG c (bz (af 96)) _ m _ _ _ _ ok ip gu aQ (.cons (.str _ _) (.cons rr .nil)) fun v br bu bx bj bp bo b8=>fun et=>?_)
  rw [N5] at b8
  exact k v br m bu bx et bj bp (fun p hp=>bo p (.tail _ (bk p hp))) b8
end
section
variable {g:Gx} {pl:Bool} {D:Nat} {sc:Scope} {E E' E₁ aO:ag} {σ U σ₁ σ₂ aN:Led}
structure Inst (σ:Led) (x C dx:Addr) (es:List DictEntry) (n:Nat):Prop where
  ob:(x,instObj C dx)∈σ
  di:(dx,dictOf es n)∈σ
theorem Inst.at {c:Cx} {ι:Led} {m:Str→Option Value} {h₀ h:Heap} {x C dx:Addr} {es:List DictEntry} {n:Nat} (i:Inst σ x C dx es n) (I:Inv g c (ι++σ) m h₀ h):InstAt h x (instObj C dx) C (some (dictOf es n)):=
  ⟨(I.nw _ (List.mem_append_right _ i.ob)).1,rfl,rfl,(I.nw _ (List.mem_append_right _ i.di)).1⟩
theorem mM {e:Expr} {pos:Pos} {name:Str} {x C dx:Addr} {es:List DictEntry} {n:Nat} {v:Value} {attr:Option Value} (he:Ev g pl D sc E σ e (.val (.ref x)) σ₁) (i:Inst σ₁ x C dx es n)
    (hg:plainGet g.K C name=true) (hh:hasDictIn g.K C=true) (ha:findIn g.K (.ref C) name=some attr) (hn:noGet g.K attr=true) (hl:getL name es=some (some v)) (hv:handedIn v=true)
    (hm:autoParam (∀ env,eval (.Attribute e name pos) env=(do
      let o ←eval e env
      standAt pos.atName
      let r ←holding [o] (getAttr o name true)
      letTemporaryGo e o r
      pure r)) aI):Ev g pl D sc E σ (.Attribute e name pos) (.val v) σ₁:=by
  refine Comes.of fun c ι m s Q Er ok S R ap ht k=>?_
  refine Attribute_any_ (he.on c ι m s _ _ ok S R ap ht fun u ar m₁ ah ax av ai aq aj ak hu=>?_) (hm _)
  refine hu.is ?_
  obtain ⟨h₀,I⟩:=ai
  exact get_own (s:={s with heap:=ah,toks:=ax}) I.fr (ok.kx I) (i.at I) hg hh ha hn hl hv (k _ ar m₁ ah _ ⟨h₀,I⟩ aq aj ak (.val v))
theorem z7 {d:Addr} {o o':Obj}:∀ {σ:Led},(d,o)∈σ→(σ.map (·.1)).Nodup→PySem.W.Upd d o o' σ (putL σ d o')
  | p::r,hm,hn=>by
    rw [List.map_cons,List.nodup_cons] at hn
    have hr:∀ q∈r,q.1≠p.1:=fun q hq e=>hn.1 (e▸List.mem_map_of_mem (f:=(·.1)) hq)
    rcases List.mem_cons.mp hm with e | hm
    · subst e
      have:putL ((d,o)::r) d o'=(d,o')::r:=lu (List.nodup_cons.mpr hn)
      rw [this]
      exact .head hr
    · have aT:p.1≠d:=fun e=>hr _ hm e.symm
      have:putL (p::r) d o'=p::putL r d o':=by
        show (if p.1=d then (d,o') else p)::putL r d o'=_
        rw [if_neg aT]
      rw [this]
      exact .tail aT (z7 hm hn.2)
theorem Om {c:Cx} {ι σ:Led} {d:Addr} {o o':Obj} (hm:(d,o)∈σ) (ap:Ap c ι σ):PySem.W.Upd d o o' (ι++σ) (ι++putL σ d o'):=by
  have go:∀ l:Led,(∀ p∈l,p.1≠d)→PySem.W.Upd d o o' (l++σ) (l++putL σ d o'):=fun l=>by
    induction l with
    | nil=>exact fun ω=>z7 hm ap.once
    | cons p r ih=>exact fun h=>.tail (h p (.head _)) (ih fun q hq=>h q (.tail _ hq))
  exact go ι fun p hp=>ap.apart p hp _ hm
theorem z8 (name:Str) (oM:Int) (key v:Value):∀ es:List DictEntry,(PySem.W.putL name oM key v es).length≤es.length+1
  | []=>Nat.le_refl _
  | e::r=>by
    unfold PySem.W.putL
    split
    · exact Nat.le_succ _
    · have:=z8 name oM key v r
      simp only [List.length_cons]; lia
end
section
variable {g:Gx} {pl:Bool} {D:Nat} {sc:Scope} {σ U:Led} {P:AV→Led→Prop}
theorem z9 {C fI:Addr} {as:List AV} {P:Addr→Addr→Led→Prop} (hm:makesIn g.K C=true) (hi:findIn g.K (.ref C) "__init__"=some (some (.ref fI))) (hf:typeIn g.K (.ref fI)=some (.type "function"))
    (Oo:∀ x dx:Addr,dx < x→gG g false D (.ref fI) (.val (.ref x)::as) ((x,instObj C dx)::(dx,emptyDict)::σ) fun r U=>r=.none∧P x dx U):gG g pl (D+3) (.ref C) as σ fun r U=>∃ x dx,r=.val (.ref x)∧P x dx U:=by
  intro c sc ι m s vs R ok ⟨h₀,I⟩ ap ht aM k
  refine make_K I.fr I.nw (ok.kh I) hm hi hf fun x dx h' F' N' bq gQ=>?_
  have hw:(Code.builtin "type.__call__" ⟨.ref C::vs,[]⟩).weight≤2:=Nat.le_of_ble_eq_true (by kernel_rfl)
  have hu:(Code.builtin "type.__call__" ⟨.ref C::vs,[]⟩).cUnits≤20:=Nat.le_of_ble_eq_true (by kernel_rfl)
  have dz:(c.A.under (.builtin "type.__call__" ⟨.ref C::vs,[]⟩)).frames=some (c.env sc::c.outer):=by
    have e:(c.A.under (.builtin "type.__call__" ⟨.ref C::vs,[]⟩)).frames=pushEnvs (Code.builtin "type.__call__" ⟨.ref C::vs,[]⟩).envs c.A.frames:=rfl
    rw [e,ok.fr]
    rfl
  have uI:Cx.Ok g {c with A:=c.A.under (.builtin "type.__call__" ⟨.ref C::vs,[]⟩)} sc false D:=
    ⟨ok.gd,dz,ok.kind,by have:=ok.dp; show c.A.depth+_+D < 900; lia,by have:=ok.un; show c.A.units+_+20 * D < 9000; lia,ok.hd,ok.he,(fun e=>nomatch e),by
      have e:(c.A.under (.builtin "type.__call__" ⟨.ref C::vs,[]⟩)).guards=pushGuards (Code.builtin "type.__call__" ⟨.ref C::vs,[]⟩).guards c.A.guards:=rfl
      rw [e,ok.gs]
      rfl⟩
  have S':St g {c with A:=c.A.under (.builtin "type.__call__" ⟨.ref C::vs,[]⟩)} (ι++(x,instObj C dx)::(dx,emptyDict)::σ) m h':=⟨h₀,F',fun p hp=>N' p (by
    rcases List.mem_append.mp hp with hp | hp
    · exact .tail _ (.tail _ (List.mem_append_left _ hp))
    · rcases List.mem_cons.mp hp with rfl | hp
      · exact .head _
      · rcases List.mem_cons.mp hp with rfl | hp
        · exact .tail _ (.head _)
        · exact .tail _ (.tail _ (List.mem_append_right _ hp))),I.bl,I.fo⟩
  have aX:Ap {c with A:=c.A.under (.builtin "type.__call__" ⟨.ref C::vs,[]⟩)} ι ((x,instObj C dx)::(dx,emptyDict)::σ):=by
    refine ⟨fun p hp q hq=>?_,?_,ap.hx⟩
    · have h1:=bq p (List.mem_append_left _ hp)
      rcases List.mem_cons.mp hq with rfl | hq
      · exact Nat.ne_of_lt (Nat.lt_trans h1 gQ)
      · rcases List.mem_cons.mp hq with rfl | hq
        · exact Nat.ne_of_lt h1
        · exact ap.apart p hp q hq
    · rw [List.map_cons,List.map_cons,List.nodup_cons,List.nodup_cons]
      refine ⟨fun hq=>?_,fun hq=>?_,ap.once⟩
      · rcases List.mem_cons.mp hq with e | hq
        · exact Nat.ne_of_gt gQ e
        · obtain ⟨q,h1,h2⟩:=List.mem_map.mp hq
          have:=bq q (List.mem_append_right _ h1)
          rw [h2] at this
          exact absurd (Nat.lt_trans this gQ) (Nat.lt_irrefl _)
      · obtain ⟨q,h1,h2⟩:=List.mem_map.mp hq
        have:=bq q (List.mem_append_right _ h1)
        rw [h2] at this
        exact absurd this (Nat.lt_irrefl _)
  refine Oo x dx gQ _ sc ι m {s with heap:=h'} (.ref x::vs) _ uI S' aX ht (.cons (.val _) aM) fun v r ae U cK ao aQ ip gu hs hr hP=>?_
  obtain ⟨rfl,hP⟩:=hP
  refine hr.is ?_
  exact ⟨rfl,k _ (.val (.ref x)) ae U cK ao aQ (let ⟨a,J⟩:=ip; ⟨a,J.fr,J.nw,J.bl,J.fo⟩) ⟨gu.apart,gu.once,gu.hx⟩ hs (.val _) ⟨x,dx,rfl,hP⟩⟩
end
noncomputable def ff (st:Stmt) (i:Nat):Stmt:=(bZ st).getD i (.Pass ⟨0,0,0,0⟩)
structure KC (g:Gx):Prop where
  Aa:makesIn g.K 427=true
  Ab:makesIn g.K 463=true
  kJ:findIn g.K (.ref 427) "__init__"=some (some (.ref 389))
  Ac:findIn g.K (.ref 463) "__init__"=some (some (.ref 445))
  oO:typeIn g.K (.ref 389)=some (.type "function")
  Ad:typeIn g.K (.ref 445)=some (.type "function")
  fF:fw g.K 389 "__init__" "Flags.__init__" (ff (af 48) 3) .none .none
  fN:fw g.K 445 "__init__" "NestedDict.__init__" (ff (af 49) 0) .none .none
  Ae:fw g.K 403 "finalize_pending" "Flags.finalize_pending" (ff (af 48) 5) .none .none
  Af:fw g.K 417 "set" "Flags.set" (ff (af 48) 7) .none .none
  Ag:fw g.K 424 "is_" "Flags.is_" (ff (af 48) 8) .none .none
  Ah:fw g.K 453 "get_or_create_nest" "NestedDict.get_or_create_nest" (ff (af 49) 1) .none (.ref 446)
  Ai:fw g.K 485 "__new__" "Output.__new__" (ff (af 50) 4) .none .none
  Aj:fw g.K 281 "__get__" "_tuplegetter.__get__" (ff (af 23) 1) (.ref 274) .none
  uJ:findIn g.K (.ref 427) "__setattr__"=some (some (.builtin "object.__setattr__"))
  Ak:findIn g.K (.ref 463) "__setattr__"=some (some (.builtin "object.__setattr__"))
  uK:plainOver g.K 427=true
  Al:plainOver g.K 463=true
  lG:hasDictIn g.K 427=true
  qM:hasDictIn g.K 463=true
  Am:takerIn g.K 427 "_flags"=some none
  An:takerIn g.K 427 "_pending_flags"=some none
  Ao:takerIn g.K 463 "dict"=some none
  iX:∀ nm,plainGet g.K 427 nm=true
  qN:∀ nm,plainGet g.K 463 nm=true
  uL:findIn g.K (.ref 427) "_flags"=some none
  uM:findIn g.K (.ref 427) "_pending_flags"=some none
  uN:findIn g.K (.ref 463) "dict"=some none
  qO:findIn g.K (.ref 427) "is_"=some (some (.ref 424))
  Aq:findIn g.K (.ref 427) "set"=some (some (.ref 417))
  Ar:findIn g.K (.ref 427) "finalize_pending"=some (some (.ref 403))
  As:findIn g.K (.ref 463) "get_or_create_nest"=some (some (.ref 453))
  qP:isFn g.K (.ref 424)=true
  Au:isFn g.K (.ref 417)=true
  Av:isFn g.K (.ref 403)=true
  Aw:isFn g.K (.ref 453)=true
  frozen:∃ t,findIn g.K (.ref 427) "FROZEN"=some (some (.int 0 t))
  explicit:∃ t,findIn g.K (.ref 427) "EXPLICIT_NEST"=some (some (.int 1 t))
  sys:∃ o,g.K.lookup 1=some o
  Ax:∃ o hs t ep,g.K.lookup 446=some o∧o.data=.dict #[⟨hs,.str "access_lists" t,.bool true⟩] ep
section
variable {g:Gx} {pl:Bool} {D:Nat} {sc:Scope} {E E' E₁ aO:ag} {σ U σ₁ σ₂ aN:Led}
noncomputable abbrev lH (g:Gx) (pl:Bool) (D:Nat) (sc:Scope) (E:ag) (σ:Led) (e:Expr) (PV:Value→Led→Prop):Prop:=CG g pl D sc E σ (fun c=>eval e (c.env sc)) Rep (fun a E' U=>E'=E∧∃ v,a=.val v∧PV v U)
theorem qQ {pos:Pos}:lH g pl D sc E σ (.Dict [] [] pos) (fun v U=>∃ d,v=.ref d∧U=(d,emptyDict)::σ):=by
  refine .mk fun c ι m s Q Er ok S R ap ht k=>?_
  refine wpAny_Dict_empty ?_
  obtain ⟨S',aX⟩:=S.opened ap emptyDict
  exact k _ _ E _ ι m _ s.toks ht S' R aX (fun ω h=>h) (.val _) ⟨rfl,_,rfl,_,rfl,rfl⟩
noncomputable abbrev dI (led:Bool):Obj:={cls:=.type "set",dict:=none,data:=.set #[] 0 (.fresh 0 0 led)}
theorem boot_set:bootBuiltins "set"=some (.type "set"):=by kernel_rfl
theorem Ay (kf:KF g) {p pos:Pos} (hn:autoParam (sc.names.lookup ("set":Str)=some .globalImplicit) aK):lH g pl D sc E σ (.Call (.Name "set" p) [] [] pos) (fun v U=>∃ d led,v=.ref d∧U=(d,dI led)::σ):=by
  refine .mk fun c ι m s Q Er ok S R ap ht k=>?_
  refine wpAny_Call_NameR ((gC (g:=g) (pl:=pl) (D:=D) (E:=E) (σ:=σ) kf.yZ boot_set (by decide+kernel) hn (by kernel_rfl)).on c ι m s _ _ ok S R ap ht fun v ar m₁ ah ax av ai aq aj ak hv=>?_)
  refine hv.is ?_
  refine PyProof.Rows.callWith_type0 (call_set_0 fun led=>?_)
  obtain ⟨S',aX⟩:=ai.opened aj (dI led)
  exact k _ _ E _ ar m₁ _ ax av S' aq aX ak (.val _) ⟨rfl,_,rfl,_,led,rfl,rfl⟩
theorem uO {y:Str} {py pos' pos:Pos} {value:Expr} {attr:Str} {x C dx:Addr} {es:List DictEntry} {n:Nat} {PV:Value→Led→Prop} (hE:(y,some (.val (.ref x)))∈E) (hv:lH g pl D sc E σ value PV) (hi:∀ v σ₁,PV v σ₁→Inst σ₁ x C dx es n)
    (hs:findIn g.K (.ref C) "__setattr__"=some (some (.builtin "object.__setattr__"))) (hp:plainOver g.K C=true) (ht:takerIn g.K C attr=some none) (hh:hasDictIn g.K C=true) (hl:(getL attr es).isSome=true) (hz:es.length < 1000)
    (hk:autoParam (sc.names.lookup y=some .local) aK) (hd:autoParam ((y==("__debug__":Str))=false) aK) (eT:autoParam (∀ env,swapsWith value (some (.Attribute (.Name y py) attr pos')) pos.line env=pure false) aI):
    dg g pl D sc E σ (.Assign [.Attribute (.Name y py) attr pos'] value pos) (fun fl E' U=>fl=.next∧E'=E∧∃ v σ₁ t,PV v σ₁∧U=putL σ₁ dx (dictOf (PySem.W.putL attr (PyData.keyHash g.w.params attr) (.str attr t) v es) (putN attr es n))):=by
  refine .mk fun c ι m s Q Er ok S R ap aQ k=>?_
  refine plainObj_wpAny_Assign_Attribute (hv.on c ι m s _ _ ok S R ap aQ fun u a E₁ σ₁ ar m₁ ah ax av ai aq aj ak hu hP=>?_) (eT _)
  obtain ⟨rfl,v,rfl,mO⟩:=hP
  refine hu.is ?_
  refine (nC (g:=g) (pl:=pl) (D:=D) (σ:=σ₁) hE hk hd).on c ar m₁ _ _ _ ok ai aq aj av fun Oq aG m₂ aB a9 a8 aw aC ay aA gn=>?_
  refine gn.is ?_
  obtain ⟨h₀,I⟩:=aw
  refine set_dict (s:={s with heap:=aB,toks:=a9}) (dx:=dx) I.fr (ok.kx I) I.nw ((hi _ _ mO).at I) rfl hs hp ht hh hl rfl (Om (hi _ _ mO).di ay) (Nat.le_trans (z8 _ _ _ _ es) hz) fun h' F' N'=>?_
  exact k .next _ _ _ aG m₂ h' _ (Nat.succ_pos _) (I.to F' N') aC ay.put (fun p hp=>aA p (ak p hp)) .next ⟨rfl,rfl,_,_,_,mO,rfl⟩
end
theorem cn {σ:Led} {x d:Addr} {o o':Obj} (h:(x,o)∈σ) (hx:x≠d):(x,o)∈putL σ d o':=List.mem_map.mpr ⟨_,h,by rw [if_neg hx]⟩
theorem gy {σ:Led} {d:Addr} {o o':Obj} (h:(d,o)∈σ):(d,o')∈putL σ d o':=List.mem_map.mpr ⟨_,h,by rw [if_pos rfl]⟩
noncomputable abbrev ent (g:Gx) (attr:Str) (t:Tok) (v:Value):DictEntry:=⟨PyData.keyHash g.w.params attr,.str attr t,v⟩
section
variable {g:Gx} {pl:Bool} {D:Nat} {σ:Led}
theorem Ot (kf:KF g) (kc:KC g) {x dx:Addr} (hx:dx < x):gG g pl (D+1) (.ref 445) [.val (.ref x)] ((x,instObj 463 dx)::(dx,emptyDict)::σ)
    (fun r U=>r=.none∧∃ d t,U=putL ((d,emptyDict)::(x,instObj 463 dx)::(dx,emptyDict)::σ) dx (dictOf [ent g "dict" t (.ref d)] 1)):=by
  refine qu (ps:=["self"]) (rest:=[]) [("self",some (.val (.ref x)))] kc.fN ?_ ?_
  · intro doc pm an bb ct vs hl
    obtain ⟨v,rfl⟩:=jt hl
    rfl
  · refine dX ((uO (x:=x) (C:=463) (dx:=dx) (es:=[]) (n:=0) (.head _) qQ (fun v σ₁ h=>?_) kc.Ak kc.Al kc.Ao kc.qM rfl (by decide)).mono fun fl E' U h=>?_)
    · obtain ⟨d,rfl,rfl⟩:=h
      exact ⟨.tail _ (.head _),.tail _ (.tail _ (.head _))⟩
    · obtain ⟨rfl,rfl,v,σ₁,t,⟨d,rfl,rfl⟩,rfl⟩:=h
      exact .inr ⟨rfl,rfl,d,t,rfl⟩
theorem Ou (kf:KF g) (kc:KC g):gG g pl (D+4) (.ref 463) [] σ fun r U=>∃ x dx,r=.val (.ref x)∧dx < x∧∃ d t,U=putL ((d,emptyDict)::(x,instObj 463 dx)::(dx,emptyDict)::σ) dx (dictOf [ent g "dict" t (.ref d)] 1):=by
  refine z9 (P:=fun x dx U=>dx < x∧∃ d t,U=putL ((d,emptyDict)::(x,instObj 463 dx)::(dx,emptyDict)::σ) dx (dictOf [ent g "dict" t (.ref d)] 1)) kc.Ab kc.Ac kc.Ad fun x dx hx=>?_
  intro c sc ι m s vs R ok S ap ht aM k
  exact Ot kf kc hx c sc ι m s vs R ok S ap ht aM fun v r ae U h' ao aQ S' aX hs hr hP=>k v r ae U h' ao aQ S' aX hs hr ⟨hP.1,hx,hP.2⟩
noncomputable abbrev jL (g:Gx) (σ:Led) (x dx d S:Addr) (t t':Tok) (led:Bool):Led:=
  putL ((S,dI led)::putL ((d,emptyDict)::(x,instObj 427 dx)::(dx,emptyDict)::σ) dx (dictOf [ent g "_flags" t (.ref d)] 1)) dx (dictOf [ent g "_flags" t (.ref d),ent g "_pending_flags" t' (.ref S)] 2)
theorem Ov (kf:KF g) (kc:KC g) {x dx:Addr} (hx:dx < x):gG g pl (D+1) (.ref 389) [.val (.ref x)] ((x,instObj 427 dx)::(dx,emptyDict)::σ)
    (fun r U=>r=.none∧∃ d S t t' led,U=jL g σ x dx d S t t' led):=by
  have aT:x≠dx:=Nat.ne_of_gt hx
  refine qu (ps:=["self"]) (rest:=[]) [("self",some (.val (.ref x)))] kc.fF ?_ ?_
  · intro doc pm an bb ct vs hl
    obtain ⟨v,rfl⟩:=jt hl
    rfl
  · refine cJ (uO (x:=x) (C:=427) (dx:=dx) (es:=[]) (n:=0) (.head _) qQ (fun v σ₁ h=>?_) kc.uJ kc.uK kc.Am kc.lG rfl (by decide)) ?_
    · obtain ⟨d,rfl,rfl⟩:=h
      exact ⟨.tail _ (.head _),.tail _ (.tail _ (.head _))⟩
    rintro _ _ _ ⟨rfl,rfl,v,σ₁,t,⟨d,rfl,rfl⟩,rfl⟩
    refine dX ((uO (x:=x) (C:=427) (dx:=dx) (es:=[ent g "_flags" t (.ref d)]) (n:=1) (.head _) (Ay kf) (fun v σ₁ h=>?_) kc.uJ kc.uK kc.An kc.lG (by rfl) (by show 1 < 1000; decide)).mono fun fl E' U h=>?_)
    · obtain ⟨S,led,rfl,rfl⟩:=h
      exact ⟨.tail _ (cn (.tail _ (.head _)) aT),.tail _ (gy (.tail _ (.tail _ (.head _))))⟩
    · obtain ⟨rfl,rfl,v,σ₁,t',⟨S,led,rfl,rfl⟩,rfl⟩:=h
      exact .inr ⟨rfl,rfl,d,S,t,t',led,rfl⟩
theorem Ow (kf:KF g) (kc:KC g):gG g pl (D+4) (.ref 427) [] σ fun r U=>∃ x dx,r=.val (.ref x)∧dx < x∧∃ d S t t' led,U=jL g σ x dx d S t t' led:=by
  refine z9 (P:=fun x dx U=>dx < x∧∃ d S t t' led,U=jL g σ x dx d S t t' led) kc.Aa kc.kJ kc.oO fun x dx hx=>?_
  intro c sc ι m s vs R ok S ap ht aM k
  exact Ov kf kc hx c sc ι m s vs R ok S ap ht aM fun v r ae U h' ao aQ S' aX hs hr hP=>k v r ae U h' ao aQ S' aX hs hr ⟨hP.1,hx,hP.2⟩
end
section
variable {g:Gx} {pl:Bool} {D:Nat} {sc:Scope} {E E' E₁ aO:ag} {σ U σ₁ σ₂ aN:Led}
theorem qR {o:Expr} {nm:Str} {apos pos:Pos} {e:Expr} {es:List Expr} {x C dx f:Addr} {ents:List DictEntry} {n:Nat} {as:List AV} {P:AV→Led→Prop} (ho:Ev g pl D sc E σ o (.val (.ref x)) σ₁) (i:Inst σ₁ x C dx ents n)
    (hg:plainGet g.K C nm=true) (hf:findIn g.K (.ref C) nm=some (some (.ref f))) (ht:isFn g.K (.ref f)=true) (hl:getL nm ents=some none) (hk:keepIn g.K (.ref f)=true)
    (dq:ee g pl D sc E σ₁ (e::es) as σ₂) (cP:dW g pl D (.ref f) (.val (.ref x)::as) σ₂ P)
    (he:autoParam (∀ env,starEach (e::es) env=(false,eval e env)::starEach es env) aI) (cW:autoParam (∀ pos env,(backTo pos (starEach es env)).any (·.1)=false) aJ)
    (hm:autoParam (∀ env,∃ pl,eval (.Call (.Attribute o nm apos) (e::es) [] pos) env=(do
      let ov ←eval o env
      standAt apos.atName
      let (f,first) ←holding [ov] (getMethod ov nm pl)
      callWith pos f first (backTo pos (starEach (e::es) env)) [])) aE):
    CG g pl D sc E σ (fun c=>eval (.Call (.Attribute o nm apos) (e::es) [] pos) (c.env sc)) Rep (fun a E' U=>E'=E∧P a U):=by
  refine .mk fun c ι m s Q Er ok S R ap aQ k=>?_
  obtain ⟨dK,hm⟩:=hm (c.env sc)
  refine MethodCall_ (ho.on c ι m s _ _ ok S R ap aQ fun v ar m₁ ah ax av ai aq aj ak hv=>?_) hm
  refine hv.is ?_
  obtain ⟨h₀,I⟩:=ai
  refine method_inst (s:={s with heap:=ah,toks:=ax}) I.fr (ok.kx I) (i.at I) hg hf ht hl ?_
  refine callWith_K (ok.kh I) hk ((dq pos).on c ar m₁ _ _ _ ok ⟨h₀,I⟩ aq aj av fun vs aG m₂ aB a9 a8 aw aC ay aA aM=>?_) (he _) (cW _ _)
  obtain ⟨e7,b9⟩:=aw
  refine ⟨ok.kh b9,wpAny_with_toks (n:=1) a8 (cP c sc aG m₂ _ _ _ _ ok ⟨e7,b9⟩ ay a8 (.cons (.val _) aM) fun v r br aN bu bx bj bp bo b8 hP=>fun et=>?_)⟩
  exact k v r E aN br m₂ bu bx et bj (aC.mono bo) bp (fun p hp=>bo p (aA p (ak p hp))) b8 ⟨rfl,hP⟩
theorem Ox {o:Expr} {nm:Str} {apos pos:Pos} {x C dx f:Addr} {ents:List DictEntry} {n:Nat} {P:AV→Led→Prop} (ho:Ev g pl D sc E σ o (.val (.ref x)) σ₁) (i:Inst σ₁ x C dx ents n)
    (hg:plainGet g.K C nm=true) (hf:findIn g.K (.ref C) nm=some (some (.ref f))) (ht:isFn g.K (.ref f)=true) (hl:getL nm ents=some none) (hk:keepIn g.K (.ref f)=true) (cP:dW g pl D (.ref f) [.val (.ref x)] σ₁ P)
    (hm:autoParam (∀ env,∃ pl,eval (.Call (.Attribute o nm apos) [] [] pos) env=(do
      let ov ←eval o env
      standAt apos.atName
      let (f,first) ←holding [ov] (getMethod ov nm pl)
      callWith pos f first (backTo pos (starEach [] env)) [])) aE):
    CG g pl D sc E σ (fun c=>eval (.Call (.Attribute o nm apos) [] [] pos) (c.env sc)) Rep (fun a E' U=>E'=E∧P a U):=by
  refine .mk fun c ι m s Q Er ok S R ap aQ k=>?_
  obtain ⟨dK,hm⟩:=hm (c.env sc)
  refine MethodCall_ (ho.on c ι m s _ _ ok S R ap aQ fun v ar m₁ ah ax av ai aq aj ak hv=>?_) hm
  refine hv.is ?_
  obtain ⟨h₀,I⟩:=ai
  refine method_inst (s:={s with heap:=ah,toks:=ax}) I.fr (ok.kx I) (i.at I) hg hf ht hl ?_
  refine callWith_K0 (ok.kh I) hk ?_
  refine wpAny_with_toks (n:=1) av (cP c sc ar m₁ _ _ _ _ ok ⟨h₀,I⟩ aj av (.cons (.val _) .nil) fun v r br aN bu bx bj bp bo b8 hP=>fun et=>?_)
  exact k v r E aN br m₁ bu bx et bj (aq.mono bo) bp (fun p hp=>bo p (ak p hp)) b8 ⟨rfl,hP⟩
end
noncomputable def bY (σ:Led):Prop:=(σ.map (·.1)).Nodup∧∀ p∈σ,(p.1==sysModules)=false
theorem bY.fresh {p:Addr×Obj} {σ:Led} (h:bY (p::σ)):∀ q∈σ,q.1≠p.1:=fun q hq e=>(List.nodup_cons.mp (by simpa using h.1:(p.1::σ.map (·.1)).Nodup)).1 (e▸List.mem_map_of_mem (f:=(·.1)) hq)
section
variable {g:Gx} {pl:Bool} {D:Nat} {sc:Scope} {E E' E₁ aO:ag} {σ U σ₁ σ₂ aN:Led} {α β:Type} {tr:Cx→Sem α} {R:Led→α→β→Prop} {P:β→ag→Led→Prop}
theorem St.gR (kc:KC g) {c:Cx} {ι:Led} {m:Str→Option Value} {h:Heap} (ok:c.Ok g sc pl D) (S:St g c (ι++σ) m h) (ap:Ap c ι σ):bY σ:=by
  obtain ⟨h₀,I⟩:=S
  refine ⟨ap.once,fun p hp=>?_⟩
  have hl:=modules_low (ok.tp I).nolimit
  have hn:=(I.nw p (List.mem_append_right _ hp)).2.2
  by_cases e:p.1=sysModules
  · obtain ⟨o,ho⟩:=kc.sys
    have:=ok.kx I _ _ ho
    rw [e] at hn
    have mP:h₀.get? 1=none:=hn
    rw [mP] at this; cases this
  · simpa using e
theorem CG.gR (kc:KC g) (h:CG g pl D sc E σ tr R P):CG g pl D sc E σ tr R (fun b E' U=>P b E' U∧bY U):=
  .mk fun c ι m s Q Er ok S Rr ap ht k=>h.on c ι m s Q Er ok S Rr ap ht fun v b E' U ae m' h' ao aQ S' R' aX hs hr hP=>k v b E' U ae m' h' ao aQ S' R' aX hs hr ⟨hP,S'.gR kc ok aX⟩
theorem CG.iB (kc:KC g) (h:bY σ→CG g pl D sc E σ tr R P):CG g pl D sc E σ tr R P:=
  .mk fun c ι m s Q Er ok S Rr ap ht k=>(h (S.gR kc ok ap)).on c ι m s Q Er ok S Rr ap ht k
theorem uP {o i value:Expr} {pos' pos:Pos} {d:Addr} {od:Obj} {kvs:List (Str×Value)} {x:Str} {PV:Value→Led→Prop} (hv:lH g pl D sc E σ value PV) (hd:∀ v σ₁,PV v σ₁→(d,od)∈σ₁) (Oy:cG g od kvs) (hz:kvs.length≤100000)
    (ho:∀ σ₁,Ev g pl D sc E σ₁ o (.val (.ref d)) σ₁) (hi:∀ σ₁,Ev g pl D sc E σ₁ i (.str x) σ₁) (eT:autoParam (∀ env,swapsWith value (some (.Subscript o i pos')) pos.line env=pure false) aI):
    dg g pl D sc E σ (.Assign [.Subscript o i pos'] value pos) (fun fl E' U=>fl=.next∧E'=E∧∃ v σ₁ o',PV v σ₁∧cG g o' (PySem.stored kvs x v)∧U=putL σ₁ d o'):=by
  refine .mk fun c ι m s Q Er ok S R ap aQ k=>?_
  refine wpAny_Assign_Subscript (hv.on c ι m s _ _ ok S R ap aQ fun u a E₁ σ₁ ar m₁ ah ax av ai aq aj ak hu hP=>?_) (eT _)
  obtain ⟨rfl,v,rfl,mO⟩:=hP
  refine hu.is ?_
  refine (ho σ₁).on c ar m₁ _ _ _ ok ai aq aj av fun Oq aG m₂ aB a9 a8 aw aC ay aA gn=>?_
  refine gn.is ?_
  refine (hi σ₁).on c aG m₂ _ _ _ ok aw aC ay a8 fun Kn br cD bu bx ck bj cI bp bo Oz=>?_
  refine Oz.is fun t=>?_
  have hm:=hd _ _ mO
  have hg:bu.get? d=some od:=by obtain ⟨h₀,I⟩:=bj; exact (I.nw _ (List.mem_append_right _ hm)).1
  refine wpAny_setItem_pairs (knd:=PySem.strKind g.prog g.w) (k:=x) (kvs:=kvs) (by simp [PySem.strKind,Value.isStrOf]) (Heap.dictOf_iff.mpr ⟨od,hg,Oy⟩) (fun h' uQ fe=>?_) (by rw [sizeLine_eq]; lia)
  obtain ⟨o',bW,cg⟩:=Heap.dictOf_iff.mp uQ
  exact k .next _ E₁ _ br cD h' _ (Nat.succ_pos _) (bj.put bp hm fe bW) cI bp.put (fun p hp=>bo p (aA p (ak p hp))) .next ⟨rfl,rfl,_,σ₁,o',mO,cg,rfl⟩
theorem Az {o:Obj} {kvs:List (Str×Value)} (h:cG g o kvs):o.cls=.type "dict":=by
  obtain ⟨es,ep,h1,_⟩:=h
  exact h1.1
theorem kK:cG g emptyDict []:=by
  exact ⟨#[],0,⟨rfl,rfl,rfl⟩,rfl,fun ω he=>by simp at he,Pairs.nil,List.nodup_nil⟩
theorem OA {d:Addr} {o:Obj} (hd:(d,o)∈σ) (hc:o.cls=.type "dict"):Fn g pl D (.builtin "isinstance") [.val (.ref d),.val (.type "list")] σ (.bool false) σ:=by
  intro c sc ι m s vs Q Er ok S ap ht aM k
  refine aM.eN fun ω ω h1 h2=>?_
  refine h1.is ?_; refine h2.is ?_
  have hg:s.heap.get? d=some o:=by obtain ⟨h₀,I⟩:=S; exact (I.nw _ (List.mem_append_right _ hd)).1
  refine IsiPair.dict_list hg hc ?_
  exact k _ ι s.heap _ S ap (fun ω h=>h) (.bool _)
theorem OB {d:Addr} {o:Obj} (hd:(d,o)∈σ) (hc:o.cls=.type "dict"):Fn g pl D (.builtin "isinstance") [.val (.ref d),.val (.type "dict")] σ (.bool true) σ:=by
  intro c sc ι m s vs Q Er ok S ap ht aM k
  refine aM.eN fun ω ω h1 h2=>?_
  refine h1.is ?_; refine h2.is ?_
  have hg:s.heap.get? d=some o:=by obtain ⟨h₀,I⟩:=S; exact (I.nw _ (List.mem_append_right _ hd)).1
  refine IsiPair.dict_dict hg hc ?_
  exact k _ ι s.heap s.toks S ap (fun ω h=>h) (.bool _)
end
noncomputable def gS:List (List Nat)→Tr
  | []=>.node []
  | n::r=>.node [(n,gS r)]
noncomputable def bS:List (List Nat)→List (List Nat)→Tr
  | [],r=>gS r
  | n::ns,[]=>gS (n::ns)
  | n::ns,m::ms=>if n=m then .node [(n,bS ns ms)] else .node [(n,gS ns),(m,gS ms)]
inductive AA (g:Gx) (σ:Led) (d:Addr) (n:List Nat) (F:List Addr) (K:Addr→List Addr→Prop):Prop
  | mk (o:Obj) (d1:Addr) (F1:List Addr):F=d::F1→d∉F1→(d,o)∈σ→cG g o [(S n,.ref d1)]→K d1 F1→AA g σ d n F K
noncomputable def dk (g:Gx) (σ:Led):Addr→List (List Nat)→List Addr→Prop
  | d,[],F=>F=[d]∧∃ o,(d,o)∈σ∧cG g o []
  | d,n::ns,F=>AA g σ d n F (fun d1 F1=>dk g σ d1 ns F1)
section
variable {g:Gx} {σ U:Led}
theorem dk.tree (hN:bY σ):∀ {ns:List (List Nat)} {d:Addr} {F:List Addr},dk g σ d ns F→f5 g σ d (gS ns)
  | [],d,F,h=>by
    obtain ⟨_,o,h1,h2⟩:=h
    exact .node h1 h2 (hN.2 _ h1) .nil
  | n::ns,d,F,h=>by
    obtain ⟨o,d1,F1,_,_,h1,h2,h3⟩:=h
    exact .node h1 h2 (hN.2 _ h1) (.cons (dk.tree hN h3) .nil)
theorem dk.mono:∀ {ns:List (List Nat)} {d:Addr} {F:List Addr},dk g σ d ns F→(∀ p∈σ,p.1∈F→p∈U)→dk g U d ns F
  | [],d,F,h,hm=>by
    obtain ⟨rfl,o,h1,h2⟩:=h
    exact ⟨rfl,o,hm _ h1 (.head _),h2⟩
  | n::ns,d,F,h,hm=>by
    obtain ⟨o,d1,F1,rfl,h0,h1,h2,h3⟩:=h
    exact ⟨o,d1,F1,rfl,h0,hm _ h1 (.head _),h2,h3.mono fun p hp hF=>hm p hp (.tail _ hF)⟩
theorem dk.there:∀ {ns:List (List Nat)} {d:Addr} {F:List Addr},dk g σ d ns F→∀ a∈F,∃ o,(a,o)∈σ
  | [],d,F,h,a,ha=>by
    obtain ⟨rfl,o,h1,h2⟩:=h
    rcases List.mem_cons.mp ha with rfl | ha
    · exact ⟨o,h1⟩
    · cases ha
  | n::ns,d,F,h,a,ha=>by
    obtain ⟨o,d1,F1,rfl,h0,h1,h2,h3⟩:=h
    rcases List.mem_cons.mp ha with rfl | ha
    · exact ⟨o,h1⟩
    · exact h3.there a ha
theorem dk.head:∀ {ns:List (List Nat)} {d:Addr} {F:List Addr},dk g σ d ns F→d∈F
  | [],d,F,h=>by obtain ⟨rfl,_⟩:=h; exact .head _
  | n::ns,d,F,h=>by obtain ⟨o,d1,F1,rfl,_⟩:=h; exact .head _
theorem dk.top:∀ {ns:List (List Nat)} {d:Addr} {F:List Addr},dk g σ d ns F→∃ o kvs,(d,o)∈σ∧cG g o kvs∧kvs.length≤1
  | [],d,F,h=>by obtain ⟨rfl,o,h1,h2⟩:=h; exact ⟨o,_,h1,h2,Nat.zero_le _⟩
  | n::ns,d,F,h=>by obtain ⟨o,d1,F1,rfl,h0,h1,h2,h3⟩:=h; exact ⟨o,_,h1,h2,Nat.le_refl _⟩
noncomputable def Fin (g:Gx) (names:List (List Nat)) (F:List Addr) (d:Addr) (rest:List (List Nat)) (σ U:Led):Prop:=
  f5 g U d (bS names rest)∧(∀ p∈σ,p.1∉F→p∈U)∧(names=[]→∃ F',dk g U d rest F'∧∀ a∈F',a=d∨∀ p∈σ,p.1≠a)
theorem Fin.nil (hN:bY σ) {names:List (List Nat)} {F:List Addr} {d:Addr} (h:dk g σ d names F):Fin g names F d [] σ σ:=by
  refine ⟨?_,fun p hp ω=>hp,fun e=>?_⟩
  · have:=dk.tree hN h
    cases names with
    | nil=>exact this
    | cons n ns=>exact this
  · subst e
    obtain ⟨rfl,h'⟩:=h
    exact ⟨_,⟨rfl,h'⟩,fun a ha=>.inl (by simpa using ha)⟩
theorem Fin.same (hN:bY σ) {n:List Nat} {ns rest:List (List Nat)} {F1:List Addr} {d d1:Addr} {o:Obj} (hF:d∉F1) (hd:(d,o)∈σ) (ho:cG g o [(S n,.ref d1)]) (h:Fin g ns F1 d1 rest σ U):Fin g (n::ns) (d::F1) d (n::rest) σ U:=by
  obtain ⟨h1,h2,_⟩:=h
  refine ⟨?_,fun p hp hn=>h2 p hp fun q=>hn (.tail _ q),fun e=>nomatch e⟩
  rw [bS,if_pos rfl]
  exact .node (h2 _ hd hF) ho (hN.2 _ hd) (.cons h1 .nil)
theorem Fin.branch {x:Addr} {ox:Obj} (hN:bY ((x,ox)::σ)) {n k:List Nat} (uA:n≠k) {ns rest:List (List Nat)} {F1:List Addr} {d d1:Addr} {o o':Obj} (hF:d∉F1) (hd:(d,o)∈σ) (hc:dk g σ d1 ns F1) (ho:cG g o' [(S n,.ref d1),(S k,.ref x)])
    (h:Fin g [] [x] x rest (putL ((x,ox)::σ) d o') U) (eU:bY U):Fin g (n::ns) (d::F1) d (k::rest) σ U:=by
  obtain ⟨h1,h2,_⟩:=h
  have hx:=hN.fresh
  have gQ:d≠x:=hx _ hd
  have keep:∀ p∈σ,p.1≠d→p∈U:=fun p hp hn=>h2 p (cn (x:=p.1) (o:=p.2) (.tail _ hp) hn) (by simpa using hx p hp)
  refine ⟨?_,fun p hp hn=>keep p hp fun e=>hn (e▸.head _),fun e=>nomatch e⟩
  rw [bS,if_neg uA]
  have cg:(d,o')∈U:=h2 (d,o') (gy (.tail _ hd)) (by simpa using gQ)
  refine .node cg ho (eU.2 _ cg) (.cons (dk.tree eU (hc.mono fun p hp OC=>keep p hp fun e=>hF (e▸OC))) (.cons h1 .nil))
theorem Fin.fresh {x:Addr} {ox:Obj} (hN:bY ((x,ox)::σ)) {k:List Nat} {rest:List (List Nat)} {d:Addr} {o o':Obj} (hd:(d,o)∈σ) (ho:cG g o' [(S k,.ref x)])
    (h:Fin g [] [x] x rest (putL ((x,ox)::σ) d o') U) (eU:bY U):Fin g [] [d] d (k::rest) σ U:=by
  obtain ⟨h1,h2,h3⟩:=h
  have hx:=hN.fresh
  have gQ:d≠x:=hx _ hd
  have keep:∀ p∈σ,p.1≠d→p∈U:=fun p hp hn=>h2 p (cn (x:=p.1) (o:=p.2) (.tail _ hp) hn) (by simpa using hx p hp)
  have cg:(d,o')∈U:=h2 (d,o') (gy (.tail _ hd)) (by simpa using gQ)
  refine ⟨.node cg ho (eU.2 _ cg) (.cons h1 .nil),fun p hp hn=>keep p hp fun e=>hn (by simpa using e),fun ω=>?_⟩
  obtain ⟨F',hc,uR⟩:=h3 rfl
  have off:∀ a∈F',∀ p∈σ,p.1≠a:=fun a ha p hp=>by
    rcases uR a ha with rfl | q
    · exact hx p hp
    · by_cases e:p.1=d
      · rw [e]; exact q (d,o') (gy (.tail _ hd))
      · exact q p (cn (x:=p.1) (o:=p.2) (.tail _ hp) e)
  refine ⟨d::F',⟨o',x,F',rfl,fun hm=>off d hm _ hd rfl,cg,ho,hc⟩,fun a ha=>?_⟩
  rcases List.mem_cons.mp ha with rfl | ha
  · exact .inl rfl
  · exact .inr (off a ha)
end
inductive AB (g:Gx) (U:Led) (c:Addr) (kk:List Nat) (key:List (List Nat)) (Z:Led→Prop):Prop
  | mk (o':Obj) (iC:List (Str×Value)) (d1:Addr) (gz:List (List Nat)) (jM:List Addr):(c,o')∈U→cG g o' iC→valueAt iC (S kk)=some (.ref d1)→dk g U d1 gz jM→(∀ bU,Fin g gz jM d1 key U bU→bY bU→Z bU)→AB g U c kk key Z
inductive AD (g:Gx) (En:Addr→Option AV→ag) (key:List (List Nat)) (Z:Led→Prop) (E':ag) (U:Led):Prop
  | mk (c:Addr) (k:Option AV) (ns:List (List Nat)) (F':List Addr):E'=En c k→dk g U c ns F'→(∀ bU,Fin g ns F' c key U bU→bY bU→Z bU)→AD g En key Z E' U
section
variable {g:Gx} {pl:Bool} {D:Nat} {sc:Scope} {E E' E₁ aO:ag} {σ U σ₁ σ₂ aN:Led}
theorem AE (kc:KC g) {pos:Pos}:lH g pl D sc E σ (.Dict [] [] pos) (fun v U=>∃ d,v=.ref d∧U=(d,emptyDict)::σ∧bY U):=
  (qQ.gR kc).mono fun a E' U h=>by
    obtain ⟨⟨rfl,v,rfl,d,rfl,rfl⟩,hN⟩:=h
    exact ⟨rfl,_,rfl,d,rfl,rfl,hN⟩
theorem oP {a b:List Nat} (h:a≠b):S a≠S b:=fun e=>h (by have:=congrArg Str.cps e; simpa [S] using this)
theorem OD (kf:KF g) (kc:KC g) {x dx d:Addr} {t:Tok} {names key:List (List Nat)} {F:List Addr} (i:Inst σ x 463 dx [ent g "dict" t (.ref d)] 1) (hc:dk g σ d names F):
    dW g true (D+1) (.ref 453) [.val (.ref x),.tup (key.map T)] σ (fun r U=>(∃ y,r=.val (.ref y))∧Fin g names F d key σ U∧bY U):=by
  let En:Addr→Option AV→ag:=fun c k=>[("self",some (.val (.ref x))),("key",some (.tup (key.map T))),("access_lists",some (.bool true)),("cont",some (.val (.ref c))),("k",k)]
  refine ei.toG (om (kn:=[]) (ks:=[]) (as:=[.val (.ref x),.tup (key.map T)]) (bs:=[.val (.ref x),.tup (key.map T),.bool true]) (ps:=["self","key","access_lists"]) (rest:=["cont","k"]) [("self",some (.val (.ref x))),("key",some (.tup (key.map T))),("access_lists",some (.bool true)),("cont",none),("k",none)] kc.Ah ?_ ?_)
  · exact fun doc pm an bb ct=>.to fun s ι vs kx hv=>hv.eN fun v u h1 h2=>⟨[v,u,.bool true],.cons h1 (.cons h2 (.cons (.bool _) .nil)),nY.to ⟨_,rfl,fun ω ω ω ω ω ω=>rfl⟩ kx kc.Ax⟩
  · refine aZ (ba (mM aa i (kc.qN _) kc.qM kc.uN rfl (by rfl) rfl)) ?_
    refine cJ (P₁:=fun fl E' U=>fl=.next∧∃ c k,E'=En c k∧Fin g names F d key σ U∧bY U) (CG.iB kc fun uS=>p7
      (fun j E' U=>bY U∧AD g En (key.drop j) (Fin g names F d key σ) E' U) aa ⟨uS,d,none,names,F,rfl,hc,fun ω h ω=>h⟩ ?_ ?_) ?_
    · rintro j a _ σ₁ ha ⟨gb,c,k,ns,F',rfl,d7,eu⟩
      obtain ⟨kk,lI,rfl⟩:∃ kk,key[j]?=some kk∧a=T kk:=by
        rw [List.getElem?_map] at ha
        cases hq:key[j]? with
        | none=>rw [hq] at ha; cases ha
        | some kk=>rw [hq] at ha; cases ha; exact ⟨kk,rfl,rfl⟩
      have kL:key.drop j=kk::key.drop (j+1):=by
        have bq:j < key.length:=(List.getElem?_eq_some_iff.mp lI).1
        rw [List.drop_eq_getElem_cons bq]
        have:=(List.getElem?_eq_some_iff.mp lI).2
        rw [this]
      rw [kL] at eu
      refine ⟨En c (some (T kk)),.there (.there (.there (.there .here))),?_⟩
      refine cJ (P₁:=fun fl E' U=>fl=.next∧E'=En c (some (T kk))∧AB g U c kk (key.drop (j+1)) (Fin g names F d key σ)) ?_ ?_
      · cases ns with
        | nil=>
          obtain ⟨rfl,o,hd,ho⟩:=d7
          refine hY (bw aa aa (gP hd ho (gb.2 _ hd))) (fun ω=>?_) fun hb=>absurd hb (by simp [valueAt])
          refine dX ((uP (AE kc) (fun v U h=>?_) ho (by simp) (fun ω=>aa) (fun ω=>aa)).mono fun fl E' U h=>?_)
          · obtain ⟨y,rfl,rfl,_⟩:=h
            exact .tail _ hd
          · obtain ⟨rfl,rfl,v,σ₂,o',⟨y,rfl,rfl,jN⟩,bW,rfl⟩:=h
            refine ⟨rfl,rfl,o',_,y,[],[y],gy (.tail _ hd),bW,by simp [PySem.stored,valueAt],⟨rfl,emptyDict,cn (.head _) (jN.fresh _ hd).symm,kK⟩,fun bU h lJ=>eu bU (Fin.fresh jN hd bW h lJ) lJ⟩
        | cons n ns=>
          obtain ⟨o,d1,F1,rfl,hF,hd,ho,gU⟩:=d7
          by_cases e:n=kk
          · subst e
            refine CG.mono (hY (P:=fun fl E' U=>fl=.next∧E'=En c (some (T n))∧U=σ₁) (bw aa aa (gP hd ho (gb.2 _ hd))) (fun hb=>absurd hb (by simp [valueAt])) fun ω=>bC bh ⟨rfl,rfl,rfl⟩) fun fl E' U h=>?_
            obtain ⟨rfl,rfl,rfl⟩:=h
            exact ⟨rfl,rfl,o,_,d1,ns,F1,hd,ho,by simp [valueAt],gU,fun bU h lJ=>eu bU (Fin.same gb hF hd ho h) lJ⟩
          · have aT:S n≠S kk:=oP e
            refine hY (bw aa aa (gP hd ho (gb.2 _ hd))) (fun ω=>?_) fun hb=>absurd hb (by simp [valueAt,aT])
            refine dX ((uP (AE kc) (fun v U h=>?_) ho (by simp) (fun ω=>aa) (fun ω=>aa)).mono fun fl E' U h=>?_)
            · obtain ⟨y,rfl,rfl,_⟩:=h
              exact .tail _ hd
            · obtain ⟨rfl,rfl,v,σ₂,o',⟨y,rfl,rfl,jN⟩,bW,rfl⟩:=h
              have fa:PySem.stored [(S n,Value.ref d1)] (S kk) (.ref y)=[(S n,.ref d1),(S kk,.ref y)]:=by simp [PySem.stored,aT]
              rw [fa] at bW
              exact ⟨rfl,rfl,o',_,y,[],[y],gy (.tail _ hd),bW,by simp [valueAt,aT],⟨rfl,emptyDict,cn (.head _) (jN.fresh _ hd).symm,kK⟩,fun bU h lJ=>eu bU (Fin.branch jN e hF hd gU bW h lJ) lJ⟩
      · rintro _ _ σ₂ ⟨rfl,rfl,o',iC,d1,gz,jM,hm,bW,hv,qS,uT⟩
        refine aZ (ba (iV aa aa hm bW hv)) ?_
        obtain ⟨o1,XE,fk,jg,_⟩:=qS.top
        refine aZ (cE (iL (and_cons (b:=true) (c:=false) (dw aa (.bool _)) fun ω=>ql (dw (jj kf.qi (by decide+kernel) (by decide+kernel) (au aa (au (gC kf.y0 (v:=.type "list") (by decide+kernel) (by decide+kernel)) aU)) (OA fk (Az jg))) (.bool _)))) bh) ?_
        refine aZ (cE (jn (dw (jj kf.qi (by decide+kernel) (by decide+kernel) (au aa (au (gC kf.y1 (v:=.type "dict") (by decide+kernel) (by decide+kernel)) aU)) (OB fk (Az jg))) (.bool _))) bh) ?_
        exact (bC bh ⟨rfl,d1,_,gz,jM,rfl,qS,uT⟩:b0 g true D _ _ _ [] (fun fl E' U=>fl=.next∧_)).gR kc |>.mono fun ω ω ω h=>.inl ⟨.inl h.1.1,h.2,h.1.2⟩
    · rintro _ U ⟨eU,c,k,ns,F',rfl,d7,eu⟩
      rw [List.length_map,List.drop_length] at eu
      exact ⟨rfl,c,k,rfl,eu _ (Fin.nil eU d7) eU,eU⟩
    · rintro fl _ U ⟨rfl,c,k,rfl,hf,hN⟩
      exact bC (bO (cb aa)) (.inl ⟨_,rfl,⟨c,rfl⟩,hf,hN⟩)
end
noncomputable abbrev iD (g:Gx) (o:Obj) (S:Int→Bool) (n:Nat):Prop:=o.SetObjOf (PySem.intKind g.prog g.w) S n
section
variable {g:Gx} {pl:Bool} {D:Nat} {sc:Scope} {E E' E₁ aO:ag} {σ U σ₁ σ₂ aN:Led}
theorem uU {led:Bool}:iD g (dI led) (fun ω=>false) 0:=setObjOf_fresh led
theorem AF (k:Int) (t:Tok):(PySem.intKind g.prog g.w).is k (.int k t)=true:=by simp [PySem.intKind,Value.isInt]
theorem uV {k:Int} {a:Addr} {o:Obj} {S:Int→Bool} {n:Nat} (hm:(a,o)∈σ) (ho:iD g o S n) (hn:n < 100):bN g pl D sc E σ (compareOp .In) Rep (.int k) (.val (.ref a)) (.bool (S k)) σ:=by
  intro v u; refine .mk fun c ι m s Q Er ok ⟨h₀,I⟩ R ap ht pr kk=>?_
  obtain ⟨h1,h2⟩:=pr
  refine h1.is fun ω=>?_; refine h2.is ?_
  exact wpAny_inSet_of (knd:=PySem.intKind g.prog g.w) (k:=k) (AF k _) rfl (ho.setOf (I.nw _ (List.mem_append_right _ hm)).1 (by unfold scanBound; lia)) (kk _ ι m s.heap _ ⟨h₀,I⟩ R ap (fun p h=>h) (.bool _))
theorem OE {so arg:Expr} {apos cu pos:Pos} {k:Int} {a:Addr} {o:Obj} {S:Int→Bool} {n:Nat} (hs:Ev g pl D sc E σ so (.val (.ref a)) σ₁) (oQ:ee g pl D sc E σ₁ [arg] [.int k] σ₂) (uW:(a,o)∈σ₁) (hm:(a,o)∈σ₂) (ho:iD g o S n) (hn:n < 100)
    (he:autoParam (∀ env,starEach [arg] env=(false,eval arg env)::starEach [] env) aI)
    (fJ:autoParam (∀ env,∃ pl,eval (.Call (.Attribute so "add" apos) [arg] [] cu) env=(do
      let ov ←eval so env
      standAt apos.atName
      let (f,first) ←holding [ov] (getMethod ov "add" pl)
      callWith cu f first (backTo cu (starEach [arg] env)) [])) aE)
    (hi:autoParam (∀ (c:Cx),interactive (c.env sc)=false) aI) (eT:autoParam (∀ env,swapsWith (.Call (.Attribute so "add" apos) [arg] [] cu) none pos.line env=pure false) aI):
    dg g pl D sc E σ (.Expr (.Call (.Attribute so "add" apos) [arg] [] cu) pos) (fun fl E' U=>fl=.next∧E'=E∧∃ o',iD g o' (fun k'=>S k'||decide (k'=k)) (if S k then n else n+1)∧U=putL σ₂ a o'):=by
  refine .mk fun c ι m s Q Er ok Ss R ap aQ kk=>?_
  refine wpAny_Expr ?_ (hi c) (eT _)
  obtain ⟨dK,fJ⟩:=fJ (c.env sc)
  refine MethodCall_ (hs.on c ι m s _ _ ok Ss R ap aQ fun v ar m₁ ah ax av ai aq aj ak hv=>?_) fJ
  refine hv.is ?_
  have iw:ah.get? a=some o:=by obtain ⟨h₀,I⟩:=ai; exact (I.nw _ (List.mem_append_right _ uW)).1
  refine getMethod_set_add (s:={s with heap:=ah,toks:=ax}) (ho.setOf iw (by unfold scanBound; lia)) ?_
  show wpAny g.M c.A (callWith cu (.builtin "set.add") [.ref a] (backTo cu (starEach [arg] (c.env sc))) []) _ Er _
  refine callWith_method1 ((oQ cu).on c ar m₁ {s with heap:=ah,toks:=ax} _ _ ok ai aq aj av fun vs aG m₂ aB a9 a8 aw aC ay aA aM=>?_) (he _) rfl
  refine aM.dS fun v hv=>?_
  refine hv.is fun u=>?_
  have uX:aB.get? a=some o:=by obtain ⟨h₀,I⟩:=aw; exact (I.nw _ (List.mem_append_right _ hm)).1
  refine call_set_add (s:={s with heap:=aB,toks:=a9}) (knd:=PySem.intKind g.prog g.w) (AF k u) rfl (ho.setOf uX (by unfold scanBound; lia)) (by unfold scanBound; lia) fun h' fe OF=>?_
  obtain ⟨o',bW,cg⟩:=OF.objOf
  exact kk .next _ E _ aG m₂ h' _ (Nat.succ_pos _) (aw.put ay hm fe bW) aC ay.put (fun p hp=>aA p (ak p hp)) .next ⟨rfl,rfl,o',cg,rfl⟩
theorem AG (kf:KF g) {p1 p2:Pos} {c:Cx} {ι:Led} {m:Str→Option Value} {s:Shared} {Q:Value→Shared→Prop} {Er:Value→Shared→Prop} (hn:sc.names.lookup ("set":Str)=some .globalImplicit) (ok:c.Ok g sc pl D) (S:St g c (ι++σ) m s.heap) (R:bF ι E m) (ap:Ap c ι σ) (ht:0 < s.toks)
    (k:∀ s1 l ae m' h' ao,0 < ao→St g c (ae++(s1,dI l)::σ) m' h'→bF ae E m'→Ap c ae ((s1,dI l)::σ)→(∀ p∈ι,p∈ae)→Q (.ref s1) {s with heap:=h',toks:=ao}):wpAny g.M c.A (eval (.Call (.Name "set" p1) [] [] p2) (c.env sc)) Q Er s:=
  (Ay (E:=E) kf hn).on c ι m s Q Er ok S R ap ht fun v a E' U ae m' h' ao aQ S' R' aX hs hv hP=>by
    obtain ⟨rfl,v',rfl,s1,l,rfl,rfl⟩:=hP
    exact hv.is (k s1 l ae m' h' ao aQ S' R' aX hs)
theorem OG {p:Pos} {c:Cx} {ι:Led} {m:Str→Option Value} {s:Shared} {Q:Value→Shared→Prop} {Er:Value→Shared→Prop} (ok:c.Ok g sc pl D) (S:St g c (ι++σ) m s.heap) (R:bF ι E m) (ap:Ap c ι σ) (ht:0 < s.toks)
    (k:∀ d ae m' h' ao,0 < ao→St g c (ae++(d,emptyDict)::σ) m' h'→bF ae E m'→Ap c ae ((d,emptyDict)::σ)→(∀ p∈ι,p∈ae)→Q (.ref d) {s with heap:=h',toks:=ao}):wpAny g.M c.A (eval (.Dict [] [] p) (c.env sc)) Q Er s:=
  (qQ (E:=E)).on c ι m s Q Er ok S R ap ht fun v a E' U ae m' h' ao aQ S' R' aX hs hv hP=>by
    obtain ⟨rfl,v',rfl,d,rfl,rfl⟩:=hP
    exact hv.is (k d ae m' h' ao aQ S' R' aX hs)
theorem OH (kf:KF g) (kc:KC g) {x1 x2 x3:Str} {n1 n2 n3:Nat} {q1 q2 q3 p1 p2 p3 p4 p5 pos:Pos} (hx:[x1,x2,x3].Nodup) (hn:autoParam (sc.names.lookup ("set":Str)=some .globalImplicit) aK):
    lH g pl D sc E σ (.Dict [some (.Constant (.str x1) n1 q1),some (.Constant (.str x2) n2 q2),some (.Constant (.str x3) n3 q3)] [.Call (.Name "set" p1) [] [] p2,.Call (.Name "set" p3) [] [] p4,.Dict [] [] p5] pos)
      (fun v U=>∃ e oe s1 s2 d1 l1 l2,v=.ref e∧cG g oe [(x1,.ref s1),(x2,.ref s2),(x3,.ref d1)]∧U=putL ((d1,emptyDict)::(s2,dI l2)::(s1,dI l1)::(e,emptyDict)::σ) e oe∧bY U∧bY ((d1,emptyDict)::(s2,dI l2)::(s1,dI l1)::(e,emptyDict)::σ)):=by
  refine .mk fun c ι m s Q Er ok S R ap ht k=>?_
  obtain ⟨h₀,I⟩:=S
  refine Dict_made (knd:=PySem.strKind g.prog g.w) I.fr (by rfl) (by rfl) (by simp) (by simp) fun F'=>?_
  have hB:=St.opened (σ:=σ) ⟨h₀,I⟩ ap emptyDict
  refine evalPairs_cons (wpAny_Constant_str (wpAny_bind (AG (E:=E) kf hn ok hB.1 R hB.2 (Nat.succ_pos _) fun s1 l1 aG m₂ aB a9 a8 aw aC ay aA=>wpAny_bind (wpAny_standAt (wpAny_pure ?_)))))
  refine evalPairs_cons (wpAny_Constant_str (wpAny_bind (AG (E:=E) kf hn ok aw aC ay (Nat.succ_pos _) fun s2 l2 iS qT eO jE iv dM oR eS fb=>wpAny_bind (wpAny_standAt (wpAny_pure ?_)))))
  refine evalPairs_cons (wpAny_Constant_str (wpAny_bind (OG (E:=E) ok dM oR eS (Nat.succ_pos _) fun d1 OI OJ OK OL XF uY OM qU ON=>wpAny_bind (wpAny_standAt (wpAny_pure (evalPairs_nil ?_))))))
  have hm:(s.heap.objs.size,emptyDict)∈(d1,emptyDict)::(s2,dI l2)::(s1,dI l1)::(s.heap.objs.size,emptyDict)::σ:=.tail _ (.tail _ (.tail _ (.head _)))
  have hN:=uY.gR kc ok qU
  have hg:OK.get? s.heap.objs.size=some emptyDict:=by obtain ⟨h₀,I⟩:=uY; exact (I.nw _ (List.mem_append_right _ hm)).1
  refine display_done_str (by rfl) (by simpa [strPairs] using hx) (Heap.dictOf_iff.mpr ⟨_,hg,kK⟩) fun h' uQ fe=>?_
  obtain ⟨oe,bW,cg⟩:=Heap.dictOf_iff.mp uQ
  have AH:=uY.put qU hm fe bW
  exact k _ _ _ _ OI OJ h' _ (by show 0 < OL+_; lia) AH OM qU.put (fun p hp=>ON p (fb p (aA p hp))) (.val _) ⟨rfl,_,rfl,_,oe,s1,s2,d1,l1,l2,rfl,cg,rfl,AH.gR kc ok qU.put,hN⟩
end
theorem aY.take {ι:Led}:∀ {vs:List Value} {l:List AV},aY ι vs l→∀ n:Nat,aY ι (vs.take n) (l.take n)
  | _,_,_,0=>.nil
  | _,_,.nil,_+1=>.nil
  | _,_,.cons h t,n+1=>.cons h (t.take n)
section
variable {prog:Program} {w:World} {A:Around} {Er:Value→Shared→Prop} {s:Shared}
theorem OO {sl:Addr} {n:Nat} {u:Tok} {Q:Int×Int×Nat→Shared→Prop} (hs:s.heap.IsSliceOf sl .none (.int (-1) u) .none) (hn:1≤n) (h:Q (0,1,n - 1) s):
    wpAny (model prog w) A (Builtin.Slice.sliceApplied (.ref sl) (pure (n:Int))) Q Er s:=by
  obtain ⟨os,lK,oU,qV⟩:=id hs
  unfold Builtin.Slice.sliceApplied Builtin.Slice.sliceFields
  refine wpAny_bind (wpAny_bind (wpAny_field lK qV (x:=.none) rfl (wpAny_bind (wpAny_field lK qV (x:=.int (-1) u) rfl (wpAny_bind (wpAny_field lK qV (x:=.none) rfl (wpAny_pure ?_)))))))
  refine wpAny_bind (slicePart_none ?_)
  show wpAny _ _ (if ((1:Int)==0)=true then _ else _) _ _ s
  rw [if_neg (by decide)]
  refine wpAny_bind (slicePart_none (wpAny_bind (slicePart_int (wpAny_bind (wpAny_pure ?_)))))
  show wpAny _ _ (match Builtin.Slice.sliceAdjust none (some (-1:Int)) 1 (n:Int) with | (lo,hi)=>pure (lo,(1:Int),Builtin.Slice.slicePlaces lo hi 1)) _ _ s
  have e1:Builtin.Slice.sliceAdjust none (some (-1:Int)) 1 (n:Int)=(0,((n - 1:Nat):Int)):=by
    unfold Builtin.Slice.sliceAdjust
    have h1:¬ ((1:Int) < 0):=by lia
    have h2:((-1:Int) < 0):=by lia
    simp only [h1,h2,if_false,if_true]
    congr 1
    lia
  rw [e1]
  show wpAny _ _ (pure ((0:Int),(1:Int),Builtin.Slice.slicePlaces (0:Int) ((n - 1:Nat):Int) 1)) _ _ s
  have e2:=places_from 0 (n - 1) (Nat.zero_le _)
  simp only [Int.ofNat_zero,Nat.sub_zero] at e2
  have e3:Builtin.Slice.slicePlaces (0:Int) ((n - 1:Nat):Int) 1=n - 1:=e2
  rw [e3]
  exact wpAny_pure h
theorem OP {t sl:Addr} {items:Array Value} {u:Tok} {Q:Value→Shared→Prop} (ht:IsTup s.heap t items) (hs:s.heap.IsSliceOf sl .none (.int (-1) u) .none) (h1:1≤items.size)
    (h:Q (.ref s.heap.objs.size) {s with heap:=s.heap.push (cV (items.toList.take (items.size - 1)))})
    (bX:items.size≤sizeLine):wpAny (model prog w) A (getItem (.ref t) (.ref sl)) Q Er s:=by
  have kL:sizeOk (.seq (items.toList.take (items.size - 1)).toArray):=by
    show (items.toList.take (items.size - 1)).toArray.size≤sizeLine
    rw [List.size_toArray,List.length_take]
    lia
  obtain ⟨os,lK,oU,qV⟩:=id hs
  have OQ:s.TypeIs (.ref sl) "slice":=⟨os,lK,oU⟩
  unfold getItem
  try with_reducible refine wpAny_holding ?_
  first | refine wpAny_bind (wpAny_pure ?_) | skip
  refine wpAny_bind (wpAny_sequenceKey ht.typeIs (by decide) ?_)
  refine wpAny_bind (wpAny_callSpecial?_slot (name:=Str.ofString "__getitem__") ht.typeIs slot_tuple_getitem
    (wpAny_call_entry slot_tuple_getitem ht.typeIs entry_tuple_getitem ?_ (args_tuple_getitem _ _)))
  show wpAny _ _ (Builtin.Tuple.tupleItemsOf (.ref t) >>= _) _ _ s
  refine wpAny_bind (tupleItemsOf_ ht ?_)
  refine wpAny_bind (wpAny_typeOf OQ ?_)
  rw [if_pos (by decide)]
  refine wpAny_bind (OO hs h1 ?_)
  have eh:¬ (((0:Int)==0&&(1:Int)==1&&(items.size - 1)==items.size)=true):=by
    have:((items.size - 1)==items.size)=false:=by rw [beq_eq_false_iff_ne]; lia
    rw [this]; simp
  show wpAny _ _ (if ((0:Int)==0&&(1:Int)==1&&(items.size - 1)==items.size)=true then _ else _) _ _ s
  have e:((List.range (items.size - 1)).filterMap fun (k:Nat)=>items[((0:Int)+(k:Int) * 1).toNat]?).toArray=(items.toList.take (items.size - 1)).toArray:=by
    have e1:(fun (k:Nat)=>items[((0:Int)+(k:Int) * 1).toNat]?)=fun k=>items[k]?:=by
      funext k
      have:((0:Int)+(k:Int) * 1).toNat=k:=by lia
      rw [this]
    rw [e1]
    have:=pick_run items 0 (items.size - 1)
    rw [List.filterMap_map] at this
    have e2:((fun x=>items[x]?)∘fun x=>0+x)=fun k=>items[k]?:=by funext k; simp
    rw [e2] at this
    rw [this,List.drop_zero]
  rw [if_neg eh,e]
  first
    | exact wpAny_bind (m:=Builtin.Tuple.tupleExact _) (wpAny_newObj_type (wpAny_pure ⟨_,rfl,wpAny_pure h⟩) kL)
    | exact wpAny_bind (m:=Builtin.Tuple.tupleExact _) (wpAny_newObj_type (wpAny_bind (wpAny_pure (wpAny_pure ⟨_,rfl,wpAny_pure h⟩))) kL)
    | exact wpAny_bind (wpAny_bind (m:=Builtin.Tuple.tupleExact _) (wpAny_newObj_type (wpAny_pure (wpAny_pure ⟨_,rfl,wpAny_pure h⟩)) kL))
    | exact wpAny_bind (wpAny_bind (m:=Builtin.Tuple.tupleExact _) (wpAny_newObj_type (wpAny_pure ⟨_,rfl,wpAny_pure h⟩) kL))
end
section
variable {g:Gx} {pl:Bool} {D:Nat} {sc:Scope} {E E' E₁ aO:ag} {σ U σ₁ σ₂ aN:Led}
theorem AI {v dD:Expr} {p q:Pos} {l:List AV} (hv:Ev g pl D sc E σ v (.tup l) σ₁) (hi:Ev g pl D sc E σ₁ dD (.int (-1)) σ₂) (h1:1≤l.length) (hl:l.length≤100000)
    (hs:autoParam (∀ t r,subscripted (.Slice none (some dD) none q) false (.ref t) (.ref r)=operate [.ref r,.ref t] (getItem (.ref t) (.ref r))) aW)
    (bq:autoParam (∀ t r,letTemporaryGo v (.ref t) r=pure ()) aW):Ev g pl D sc E σ (.Subscript v (.Slice none (some dD) none q) p) (.tup l.dropLast) σ₂:=by
  refine Comes.of fun c ι m s Q Er ok S R' ap ht kk=>?_
  refine Subscript_ (hv.on c ι m s _ _ ok S R' ap ht fun v ar m₁ ah ax av ai aq aj ak hv=>?_)
  refine wpAny_Slice (evalPart_none_step ?_)
  rw [evalPart_some]
  refine hi.on c ar m₁ _ _ _ ok ai aq aj av fun b7 aG m₂ aB a9 a8 aw aC ay aA bB=>?_
  refine evalPart_none_step ?_
  refine hv.isTup fun r vs hm hr=>bB.isInt fun u=>?_
  obtain ⟨h₀,I⟩:=aw
  have hg:=(I.nw _ (List.mem_append_left _ (aA _ hm))).1
  have aQ:IsTup (aB.push {cls:=.type "slice",data:=.fields #[.none,.int (-1) u,.none]}) r vs.toArray:=⟨_,Heap.get?_push_of_some _ hg,rfl,_,rfl⟩
  have hlen:=hr.length
  refine subscriptTail_ops (s:={s with heap:=aB.push {cls:=.type "slice",data:=.fields #[.none,.int (-1) u,.none]},toks:=a9}) aQ.typeIs slot_tuple_getitem.lookup
    (OP aQ (Heap.IsSliceOf.new ..) (by simp; lia) ?_ (by rw [sizeLine_eq]; simp; lia)) (hs r _) (bq r)
  have N1:=News.push (I.fr.push {cls:=.type "slice",data:=.fields #[.none,.int (-1) u,.none]}) (I.nw.grown fun ω ω e=>Heap.get?_push_of_some _ e) (cV (vs.toArray.toList.take (vs.toArray.size - 1)))
  have dz:∀ p∈aG++σ₂,p.1≠(aB.push {cls:=.type "slice",data:=.fields #[.none,.int (-1) u,.none]}).objs.size:=fun p hp=>by
    have:=Heap.lt_size (I.nw p hp).1
    rw [Heap.size_push]; exact Nat.ne_of_lt (Nat.lt_succ_of_lt this)
  have hd:l.dropLast=l.take (l.length - 1):=List.dropLast_eq_take
  refine kk _ ((_,cV (vs.toArray.toList.take (vs.toArray.size - 1)))::aG) m₂ _ a9 (I.to ((I.fr.push _).push _) N1) (aC.mono fun p hp=>.tail _ hp) (ay.cons fun q hq=>(dz q (List.mem_append_right _ hq)).symm) (fun p hp=>.tail _ (aA p (ak p hp))) (.tup (.head _) ?_)
  rw [hd]
  show aY _ (vs.take (vs.length - 1)) _
  rw [hlen]
  exact ((hr.mono aA).mono fun p hp=>.tail _ hp).take _
end
structure mQ (g:Gx) (σ:Led) (e s1 s2 d1:Addr) (Sf:Int→Bool):Prop where
  oe:∃ oe,(e,oe)∈σ∧cG g oe [("flags",.ref s1),("recursive_flags",.ref s2),("nested",.ref d1)]
  o1:∃ o1 k,(s1,o1)∈σ∧iD g o1 Sf k∧k < 50
  o2:∃ o2,(s2,o2)∈σ∧iD g o2 (fun ω=>false) 0
inductive AJ (g:Gx) (σ:Led) (d:Addr) (n:List Nat) (Sf:Int→Bool) (F:List Addr) (K:Addr→List Addr→Prop):Prop
  | mk (o:Obj) (e s1 s2 d1:Addr) (F1:List Addr):F=d::e::s1::s2::F1→(d,o)∈σ→cG g o [(S n,.ref e)]→mQ g σ e s1 s2 d1 Sf→K d1 F1→AJ g σ d n Sf F K
noncomputable def eG (g:Gx) (σ:Led):Addr→List (List Nat)→List Addr→Prop
  | d,[],F=>F=[d]∧∃ o,(d,o)∈σ∧cG g o []
  | d,n::ns,F=>AJ g σ d n (fun k=>ns.isEmpty&&decide (k=1)) F (fun d1 F1=>eG g σ d1 ns F1)
inductive uZ (g:Gx) (σ:Led) (En:Addr→Option AV→Option AV→ag) (ns pre:List (List Nat)) (E':ag):Prop
  | mk (c:Addr) (k ic:Option AV) (rest:List (List Nat)) (F':List Addr):E'=En c k ic→eG g σ c rest F'→ns=pre++rest→uZ g σ En ns pre E'
section
variable {g:Gx} {σ U:Led}
theorem mQ.mono {e s1 s2 d1:Addr} {Sf:Int→Bool} (h:mQ g σ e s1 s2 d1 Sf) (hm:∀ p∈σ,p.1=e∨p.1=s1∨p.1=s2→p∈U):mQ g U e s1 s2 d1 Sf:=
  ⟨let ⟨o,a,b⟩:=h.oe; ⟨o,hm _ a (.inl rfl),b⟩,let ⟨o,k,a,b⟩:=h.o1; ⟨o,k,hm _ a (.inr (.inl rfl)),b⟩,let ⟨o,a,b⟩:=h.o2; ⟨o,hm _ a (.inr (.inr rfl)),b⟩⟩
theorem eG.mono:∀ {ns:List (List Nat)} {d:Addr} {F:List Addr},eG g σ d ns F→(∀ p∈σ,p.1∈F→p∈U)→eG g U d ns F
  | [],d,F,h,hm=>by
    obtain ⟨rfl,o,h1,h2⟩:=h
    exact ⟨rfl,o,hm _ h1 (.head _),h2⟩
  | n::ns,d,F,h,hm=>by
    obtain ⟨o,e,s1,s2,d1,F1,rfl,h1,h2,h3,h4⟩:=h
    refine ⟨o,e,s1,s2,d1,F1,rfl,hm _ h1 (.head _),h2,h3.mono fun p hp hq=>hm p hp ?_,h4.mono fun p hp hF=>hm p hp (.tail _ (.tail _ (.tail _ (.tail _ hF))))⟩
    rcases hq with h | h | h <;> simp [h]
theorem eG.there:∀ {ns:List (List Nat)} {d:Addr} {F:List Addr},eG g σ d ns F→∀ a∈F,∃ o,(a,o)∈σ
  | [],d,F,h,a,ha=>by
    obtain ⟨rfl,o,h1,h2⟩:=h
    rcases List.mem_cons.mp ha with rfl | ha
    · exact ⟨o,h1⟩
    · cases ha
  | n::ns,d,F,h,a,ha=>by
    obtain ⟨o,e,s1,s2,d1,F1,rfl,h1,h2,h3,h4⟩:=h
    obtain ⟨oe,e1,_⟩:=h3.oe
    obtain ⟨o1,_,e2,_⟩:=h3.o1
    obtain ⟨o2,e3,_⟩:=h3.o2
    rcases List.mem_cons.mp ha with rfl | ha
    · exact ⟨o,h1⟩
    rcases List.mem_cons.mp ha with rfl | ha
    · exact ⟨oe,e1⟩
    rcases List.mem_cons.mp ha with rfl | ha
    · exact ⟨o1,e2⟩
    rcases List.mem_cons.mp ha with rfl | ha
    · exact ⟨o2,e3⟩
    · exact h4.there a ha
end
section
variable {g:Gx} {pl:Bool} {D:Nat} {sc:Scope} {E E' E₁ aO:ag} {σ U σ₁ σ₂ aN:Led}
theorem AK {a b c:Value}:valueAt [(("flags":Str),a),("recursive_flags",b),("nested",c)] "flags"=some a:=by kernel_rfl
theorem AL {a b c:Value}:valueAt [(("flags":Str),a),("recursive_flags",b),("nested",c)] "recursive_flags"=some b:=by kernel_rfl
theorem AM {a b c:Value}:valueAt [(("flags":Str),a),("recursive_flags",b),("nested",c)] "nested"=some c:=by kernel_rfl
theorem u4 (kf:KF g) (kc:KC g) {x dx d:Addr} {es:List DictEntry} {n:Nat} {ns key:List (List Nat)} {F:List Addr} {fl:Int} (i:Inst σ x 427 dx es n) (hl:getL "_flags" es=some (some (.ref d))) (hc:eG g σ d ns F) (hk:key≠[]) (oC:key.length≤100000):
    Fn g true (D+1) (.ref 424) [.val (.ref x),.tup (key.map T),.int fl] σ (.bool (decide (ns=key)&&decide (fl=1))) σ:=by
  let En:Addr→Option AV→Option AV→ag:=fun c k ic=>[("self",some (.val (.ref x))),("key",some (.tup (key.map T))),("flag",some (.int fl)),("cont",some (.val (.ref c))),("k",k),("inner_cont",ic),("key_stem",none)]
  have OR:0 < key.length:=List.length_pos_iff.mpr hk
  obtain ⟨eV,fa⟩:∃ eV,key[key.length - 1]?=some eV:=⟨_,List.getElem?_eq_getElem (by lia)⟩
  have iu:key=key.take (key.length - 1)++[eV]:=by
    conv=>lhs; rw [←List.take_append_drop (key.length - 1) key]
    congr 1
    rw [List.drop_eq_getElem_cons (by lia),(List.getElem?_eq_some_iff.mp fa).2,List.drop_eq_nil_of_le (by lia)]
  refine (ei.toG (om (P:=fun r U=>r=.bool (decide (ns=key)&&decide (fl=1))∧U=σ) (kn:=[]) (ks:=[]) (as:=[.val (.ref x),.tup (key.map T),.int fl]) (bs:=[.val (.ref x),.tup (key.map T),.int fl]) (ps:=["self","key","flag"]) (rest:=["cont","k","inner_cont","key_stem"]) [("self",some (.val (.ref x))),("key",some (.tup (key.map T))),("flag",some (.int fl)),("cont",none),("k",none),("inner_cont",none),("key_stem",none)] kc.Ag ?_ ?_)).det fun ω ω h=>h
  · intro doc pm an bb ct
    refine Binds.plain fun ι vs ws hv hw=>⟨vs,hv,?_⟩
    obtain ⟨a,b,c,rfl,_⟩:=hv.three
    cases hw
    rfl
  · refine aZ (cE (jn (b:=true) ((dw aa (.tup _ (by simp; lia))).cast (by cases key with | nil=>exact absurd rfl hk | cons=>rfl))) bh) ?_
    refine aZ (ba (mM aa i (kc.iX _) kc.lG kc.uL rfl hl rfl)) ?_
    refine cJ (P₁:=fun f E' U=>U=σ∧((f=.ret (.bool (decide (ns=key)&&decide (fl=1))))∨(f=.next∧uZ g σ En ns (key.take (key.length - 1)) E'))) (p7
      (fun j E' U=>U=σ∧uZ g σ En ns (key.take j) E') (AI aa nZ (by simp; lia) (by simp; lia)) ⟨rfl,d,none,none,ns,F,rfl,hc,rfl⟩ ?_ ?_) ?_
    · rintro j a _ qW ha ⟨rfl,c,k,ic,rest,F',rfl,d7,cN⟩
      obtain ⟨kk,hj,lI,rfl⟩:∃ kk,j < key.length - 1∧key[j]?=some kk∧a=T kk:=by
        rw [List.getElem?_dropLast] at ha
        split at ha
        · rename_i bq
          rw [List.length_map] at bq
          rw [List.getElem?_map] at ha
          cases hq:key[j]? with
          | none=>rw [hq] at ha; cases ha
          | some kk=>rw [hq] at ha; cases ha; exact ⟨kk,bq,rfl,rfl⟩
        · cases ha
      have et:key.take (j+1)=key.take j++[kk]:=by rw [List.take_add_one,lI]; rfl
      have AN:∀ r:List (List Nat),ns=key.take j++r→ns=key→r.head?=some kk:=fun r h1 h2=>by
        have:r=key.drop j:=by
          have h3:=h1.symm.trans h2
          conv at h3=>rhs; rw [←List.take_append_drop j key]
          exact List.append_cancel_left h3
        rw [this,List.head?_drop,lI]
      refine ⟨En c (some (T kk)) ic,.there (.there (.there (.there .here))),CG.iB kc fun hN=>?_⟩
      cases rest with
      | nil=>
        obtain ⟨rfl,o,hd,ho⟩:=d7
        refine iQ (b:=true) (σ₁:=qW) ((bw aa aa (gP hd ho (hN.2 _ hd))).cast (by rfl)) (fun ω=>?_) fun hb=>absurd hb (by decide)
        refine bC (bO (cb iJ)) ⟨by simp,.inr (.inr ⟨_,rfl,rfl,.inl ?_⟩)⟩
        have:ns≠key:=fun e=>by have:=AN _ cN e; simp at this
        simp [this]
      | cons nn r=>
        obtain ⟨o,e,s1,s2,d1,F1,rfl,hd,ho,he,gU⟩:=d7
        by_cases hq:nn=kk
        · subst hq
          refine iQ (b:=false) (σ₁:=qW) ((bw aa aa (gP hd ho (hN.2 _ hd))).cast (by simp [valueAt])) (fun hb=>absurd hb (by decide)) fun ω=>?_
          obtain ⟨oe,jO,gc⟩:=he.oe
          obtain ⟨o2,jh,j5⟩:=he.o2
          refine aZ (ba (iV (u:=.ref e) aa aa hd ho (by simp [valueAt]))) ?_
          refine iQ (b:=false) (σ₁:=qW) (bw aa (iV (x:="recursive_flags") (u:=.ref s2) aa eD jO gc AL) (uV jh j5 (by decide))) (fun hb=>absurd hb (by decide)) fun ω=>?_
          refine aZ (ba (iV (x:="nested") (u:=.ref d1) aa eD jO gc AM)) ?_
          exact bC bh (.inl ⟨.inl rfl,rfl,d1,_,_,r,F1,rfl,gU,by rw [et,cN]; simp⟩)
        · have aT:S nn≠S kk:=oP hq
          refine iQ (b:=true) (σ₁:=qW) ((bw aa aa (gP hd ho (hN.2 _ hd))).cast (by simp [valueAt,aT])) (fun ω=>?_) fun hb=>absurd hb (by decide)
          refine bC (bO (cb iJ)) ⟨by simp,.inr (.inr ⟨_,rfl,rfl,.inl ?_⟩)⟩
          have:ns≠key:=fun e=>by have:=AN _ cN e; simp at this; exact hq this
          simp [this]
    · rintro _ _ ⟨rfl,c,k,ic,rest,F',rfl,d7,cN⟩
      rw [List.length_dropLast,List.length_map] at cN
      exact ⟨rfl,.inr ⟨rfl,c,k,ic,rest,F',rfl,d7,cN⟩⟩
    · rintro f E' U ⟨kM,rfl | ⟨rfl,c,k,ic,rest,F',rfl,d7,cN⟩⟩
      · exact .inl ⟨_,rfl,rfl,kM⟩
      rw [kM]
      refine CG.iB kc fun hN=>?_
      refine aZ (ba (zV (a:=T eV) (j:=key.length - 1) aa nZ (by decide) (by decide) (by rw [List.length_map]; unfold seqIndex?; simp; lia) (by rw [List.getElem?_map,fa]; rfl))) ?_
      cases rest with
      | nil=>
        obtain ⟨rfl,o,hd,ho⟩:=d7
        refine iQ (b:=false) (σ₁:=σ) ((bw aa aa (ux hd ho (hN.2 _ hd))).cast (by rfl)) (fun hb=>absurd hb (by decide)) fun ω=>?_
        refine bC (bO (cb iJ)) (.inl ⟨_,rfl,?_,rfl⟩)
        have:ns≠key:=fun e=>by
          rw [e] at cN
          have:=congrArg List.length cN
          simp at this; lia
        simp [this]
      | cons nn r=>
        obtain ⟨o,e,s1,s2,d1,F1,rfl,hd,ho,he,gU⟩:=d7
        by_cases hq:nn=eV
        · subst hq
          obtain ⟨oe,jO,gc⟩:=he.oe
          obtain ⟨o2,jh,j5⟩:=he.o2
          obtain ⟨o1,k1,fk,jg,kO⟩:=he.o1
          refine iQ (b:=true) (σ₁:=σ) ((bw aa aa (ux hd ho (hN.2 _ hd))).cast (by simp [valueAt])) (fun ω=>?_) fun hb=>absurd hb (by decide)
          refine aZ (ba (iV (u:=.ref e) aa aa hd ho (by simp [valueAt]))) ?_
          have heq:(ns=key)↔r=[]:=by
            rw [cN,iu]
            simp
          refine bC (bO (cb (xF (z:=.bool (decide (ns=key)&&decide (fl=1))) (σ₂:=σ) (t:=r.isEmpty&&decide (fl=1)) (nG (z:=.bool (r.isEmpty&&decide (fl=1))) aa (iV (x:="flags") (u:=.ref s1) aa eD jO gc AK) (uV fk jg (by lia))) (.bool _) (fun ht=>?_) fun ht=>?_))) ⟨by simp,.inl ⟨_,rfl,rfl,rfl⟩⟩
          · refine ⟨?_,rfl⟩
            have:r.isEmpty=true∧decide (fl=1)=true:=by simpa using ht
            rw [decide_eq_true (heq.mpr (List.isEmpty_iff.mp this.1)),this.1,this.2]
          · exact (nG (z:=.bool false) aa (iV (x:="recursive_flags") (u:=.ref s2) aa eD jO gc AL) (uV jh j5 (by decide))).cast (by
              have:decide (ns=key)=r.isEmpty:=by rw [Bool.eq_iff_iff]; simp [heq]
              rw [this,ht])
        · have aT:S nn≠S eV:=oP hq
          refine iQ (b:=false) (σ₁:=σ) ((bw aa aa (ux hd ho (hN.2 _ hd))).cast (by simp [valueAt,aT])) (fun hb=>absurd hb (by decide)) fun ω=>?_
          refine bC (bO (cb iJ)) (.inl ⟨_,rfl,?_,rfl⟩)
          have:ns≠key:=fun e=>by
            rw [e] at cN
            have h2:=iu.symm.trans cN
            have h3:=List.append_cancel_left h2
            injection h3 with h4
            exact hq h4.symm
          simp [this]
end
noncomputable def cM (g:Gx) (names:List (List Nat)) (F:List Addr) (d:Addr) (rest:List (List Nat)) (σ U:Led):Prop:=
  (∀ p∈σ,p.1∉F→p∈U)∧(names=[]→∃ F',eG g U d rest F'∧∀ a∈F',a=d∨∀ p∈σ,p.1≠a)
structure Made (g:Gx) (σ fg:Led) (c e s1 s2 d1:Addr) (o':Obj):Prop where
  keep:∀ p∈σ,p.1≠c→p∈fg
  top:(c,o')∈fg
  ent:mQ g fg e s1 s2 d1 (fun ω=>false)
  sub:(d1,emptyDict)∈fg
  new:∀ p∈σ,p.1≠e∧p.1≠s1∧p.1≠s2∧p.1≠d1
  o1:∃ o,(s1,o)∈fg∧iD g o (fun ω=>false) 0
  apart:d1≠c∧d1≠e∧d1≠s1∧d1≠s2∧s1≠c∧s1≠e∧s1≠s2
section
variable {g:Gx} {σ U fg:Led}
theorem made {c e s1 s2 d1:Addr} {o oe o':Obj} {l1 l2:Bool} (hc:(c,o)∈σ) (gc:cG g oe [("flags",.ref s1),("recursive_flags",.ref s2),("nested",.ref d1)]) (hN:bY ((d1,emptyDict)::(s2,dI l2)::(s1,dI l1)::(e,emptyDict)::σ)):
    Made g σ (putL (putL ((d1,emptyDict)::(s2,dI l2)::(s1,dI l1)::(e,emptyDict)::σ) e oe) c o') c e s1 s2 d1 o':=by
  have n1:=hN.fresh
  have jN:bY ((s2,dI l2)::(s1,dI l1)::(e,emptyDict)::σ):=⟨(List.nodup_cons.mp hN.1).2,fun p hp=>hN.2 p (.tail _ hp)⟩
  have n2:=jN.fresh
  have u5:bY ((s1,dI l1)::(e,emptyDict)::σ):=⟨(List.nodup_cons.mp jN.1).2,fun p hp=>jN.2 p (.tail _ hp)⟩
  have n3:=u5.fresh
  have OS:bY ((e,emptyDict)::σ):=⟨(List.nodup_cons.mp u5.1).2,fun p hp=>u5.2 p (.tail _ hp)⟩
  have n4:=OS.fresh
  have AO:c≠e:=n4 _ hc
  have gU:c≠s1:=n3 _ (.tail _ hc)
  have oh:c≠s2:=n2 _ (.tail _ (.tail _ hc))
  have cy:c≠d1:=n1 _ (.tail _ (.tail _ (.tail _ hc)))
  have lL:e≠s1:=n3 _ (.head _)
  have oW:e≠s2:=n2 _ (.tail _ (.head _))
  have AP:e≠d1:=n1 _ (.tail _ (.tail _ (.head _)))
  have um:s1≠s2:=n2 _ (.head _)
  have oX:s1≠d1:=n1 _ (.tail _ (.head _))
  have OT:s2≠d1:=n1 _ (.head _)
  exact {
    keep:=fun p hp aT=>cn (x:=p.1) (o:=p.2) (cn (.tail _ (.tail _ (.tail _ (.tail _ hp)))) (n4 _ hp)) aT
    top:=gy (cn (.tail _ (.tail _ (.tail _ (.tail _ hc)))) AO)
    ent:=⟨⟨oe,cn (gy (.tail _ (.tail _ (.tail _ (.head _))))) AO.symm,gc⟩,⟨dI l1,0,cn (cn (.tail _ (.tail _ (.head _))) lL.symm) gU.symm,uU,by decide⟩,⟨dI l2,cn (cn (.tail _ (.head _)) oW.symm) oh.symm,uU⟩⟩
    sub:=cn (cn (.head _) AP.symm) cy.symm
    new:=fun p hp=>⟨n4 _ hp,n3 _ (.tail _ hp),n2 _ (.tail _ (.tail _ hp)),n1 _ (.tail _ (.tail _ (.tail _ hp)))⟩
    o1:=⟨dI l1,cn (cn (.tail _ (.tail _ (.head _))) lL.symm) gU.symm,uU⟩
    apart:=⟨cy.symm,AP.symm,oX.symm,OT.symm,gU.symm,lL.symm,um⟩}
theorem cM.same {n:List Nat} {ns rest:List (List Nat)} {F1:List Addr} {d e s1 s2 d1:Addr} (h:cM g ns F1 d1 rest σ U):cM g (n::ns) (d::e::s1::s2::F1) d (n::rest) σ U:=
  ⟨fun p hp hn=>h.1 p hp fun q=>hn (.tail _ (.tail _ (.tail _ (.tail _ q)))),fun e=>nomatch e⟩
theorem cM.into {c e s1 s2 d1:Addr} {o':Obj} (M:Made g σ fg c e s1 s2 d1 o') {n k:List Nat} {ns rest:List (List Nat)} {F:List Addr} (h:cM g [] [d1] d1 rest fg U):cM g (n::ns) (c::F) c (k::rest) σ U:=
  ⟨fun p hp hn=>h.1 p (M.keep p hp fun e=>hn (e▸.head _)) (by simpa using (M.new p hp).2.2.2),fun e=>nomatch e⟩
theorem cM.fresh {c e s1 s2 d1:Addr} {o':Obj} (M:Made g σ fg c e s1 s2 d1 o') {k m:List Nat} {rest:List (List Nat)} (ho:cG g o' [(S k,.ref e)]) (h:cM g [] [d1] d1 (m::rest) fg U):cM g [] [c] c (k::m::rest) σ U:=by
  obtain ⟨h1,h2⟩:=h
  obtain ⟨F',hc,uR⟩:=h2 rfl
  obtain ⟨a1,a2,a3,a4,a5,a6,a7⟩:=M.apart
  refine ⟨fun p hp hn=>h1 p (M.keep p hp (by simpa using hn)) (by simpa using (M.new p hp).2.2.2),fun ω=>⟨c::e::s1::s2::F',⟨o',e,s1,s2,d1,F',rfl,h1 _ M.top (by simpa using a1.symm),ho,?_,hc⟩,?_⟩⟩
  · refine M.ent.mono fun p hp hq=>h1 p hp ?_
    rcases hq with q | q | q
    · rw [q]; simpa using a2.symm
    · rw [q]; simpa using a3.symm
    · rw [q]; simpa using a4.symm
  · intro a ha
    rcases List.mem_cons.mp ha with rfl | ha
    · exact .inl rfl
    refine .inr fun p hp=>?_
    obtain ⟨b1,b2,b3,b4⟩:=M.new p hp
    rcases List.mem_cons.mp ha with rfl | ha
    · exact b1
    rcases List.mem_cons.mp ha with rfl | ha
    · exact b2
    rcases List.mem_cons.mp ha with rfl | ha
    · exact b3
    rcases uR a ha with rfl | q
    · exact b4
    · by_cases ec:p.1=c
      · rw [ec]; exact q _ M.top
      · exact q p (M.keep p hp ec)
theorem cM.last {c e s1 s2 d1:Addr} {o' o1:Obj} {kk:Nat} (M:Made g σ fg c e s1 s2 d1 o') {k:List Nat} (ho:cG g o' [(S k,.ref e)]) (h1:iD g o1 (fun x=>decide (x=1)) kk) (hk:kk < 50):cM g [] [c] c [k] σ (putL fg s1 o1):=by
  obtain ⟨a1,a2,a3,a4,a5,a6,a7⟩:=M.apart
  have keep:∀ p∈fg,p.1≠s1→p∈putL fg s1 o1:=fun p hp hn=>cn (x:=p.1) (o:=p.2) hp hn
  refine ⟨fun p hp hn=>keep p (M.keep p hp (by simpa using hn)) (M.new p hp).2.1,fun ω=>⟨[c,e,s1,s2,d1],⟨o',e,s1,s2,d1,[d1],rfl,keep _ M.top a5.symm,ho,⟨?_,?_,?_⟩,rfl,emptyDict,keep _ M.sub a3,kK⟩,?_⟩⟩
  · obtain ⟨oe,h1,h2⟩:=M.ent.oe
    exact ⟨oe,keep _ h1 a6.symm,h2⟩
  · obtain ⟨o,q,h2,h3,h4⟩:=M.ent.o1
    exact ⟨o1,kk,gy h2,by simpa using h1,hk⟩
  · obtain ⟨o,h2,h3⟩:=M.ent.o2
    exact ⟨o,keep _ h2 a7.symm,h3⟩
  · intro a ha
    rcases List.mem_cons.mp ha with rfl | ha
    · exact .inl rfl
    refine .inr fun p hp=>?_
    obtain ⟨b1,b2,b3,b4⟩:=M.new p hp
    simp only [List.mem_cons,List.not_mem_nil,or_false] at ha
    rcases ha with rfl | rfl | rfl | rfl
    · exact b1
    · exact b2
    · exact b3
    · exact b4
theorem cM.OU {c e s1 s2 d1:Addr} {o' o1:Obj} (M:Made g σ fg c e s1 s2 d1 o') {n k:List Nat} {ns:List (List Nat)} {F:List Addr}:cM g (n::ns) (c::F) c [k] σ (putL fg s1 o1):=
  ⟨fun p hp hn=>cn (x:=p.1) (o:=p.2) (M.keep p hp fun e=>hn (e▸.head _)) (M.new p hp).2.1,fun e=>nomatch e⟩
theorem cM.OV {n:List Nat} {ns:List (List Nat)} {F1:List Addr} {d e s1 s2:Addr} {o1:Obj} {k:List Nat}:cM g (n::ns) (d::e::s1::s2::F1) d [k] σ (putL σ s1 o1):=
  ⟨fun p hp hn=>cn (x:=p.1) (o:=p.2) hp fun q=>hn (q▸.tail _ (.tail _ (.head _))),fun e=>nomatch e⟩
end
section
variable {g:Gx} {pl:Bool} {D:Nat} {sc:Scope} {E E' E₁ aO:ag} {σ U σ₁ σ₂ aN:Led}
theorem qX (kf:KF g) (kc:KC g) {o i:Expr} {pos' pos:Pos} {n1 n2 n3:Nat} {q1 q2 q3 p1 p2 p3 p4 p5 p6:Pos} {c:Addr} {oc:Obj} {kvs:List (Str×Value)} {x:Str} (hc:(c,oc)∈σ) (ho:cG g oc kvs) (hz:kvs.length≤100000)
    (OW:∀ σ₁,Ev g pl D sc E σ₁ o (.val (.ref c)) σ₁) (hi:∀ σ₁,Ev g pl D sc E σ₁ i (.str x) σ₁) (hn:autoParam (sc.names.lookup ("set":Str)=some .globalImplicit) aK) (eT:autoParam (∀ v:Expr,∀ env,swapsWith (.Dict [some (.Constant (.str "flags") n1 q1),some (.Constant (.str "recursive_flags") n2 q2),some (.Constant (.str "nested") n3 q3)] [.Call (.Name "set" p1) [] [] p2,.Call (.Name "set" p3) [] [] p4,.Dict [] [] p5] p6) (some (.Subscript o i pos')) pos.line env=pure false) aJ):
    dg g pl D sc E σ (.Assign [.Subscript o i pos'] (.Dict [some (.Constant (.str "flags") n1 q1),some (.Constant (.str "recursive_flags") n2 q2),some (.Constant (.str "nested") n3 q3)] [.Call (.Name "set" p1) [] [] p2,.Call (.Name "set" p3) [] [] p4,.Dict [] [] p5] p6) pos)
      (fun fl E' U=>fl=.next∧E'=E∧∃ e s1 s2 d1 o',Made g σ U c e s1 s2 d1 o'∧cG g o' (PySem.stored kvs x (.ref e))):=by
  refine CG.mono (uP (OH kf kc (by decide+kernel) hn) (fun v U h=>?_) ho hz OW hi (eT o)) fun fl E' U h=>?_
  · obtain ⟨e,oe,s1,s2,d1,l1,l2,rfl,gc,rfl,hN,eU⟩:=h
    refine cn (.tail _ (.tail _ (.tail _ (.tail _ hc)))) ?_
    have:=eU.1
    simp only [List.map_cons,List.nodup_cons] at this
    exact fun q=>this.2.2.2.1 (q▸List.mem_map_of_mem (f:=(·.1)) hc)
  · obtain ⟨rfl,rfl,v,σ₁,o',⟨e,oe,s1,s2,d1,l1,l2,rfl,gc,rfl,hN,eU⟩,bW,rfl⟩:=h
    exact ⟨rfl,rfl,e,s1,s2,d1,o',made hc gc eU,bW⟩
end
inductive AQ (g:Gx) (U:Led) (c:Addr) (kk:List Nat) (key:List (List Nat)) (Z:Led→Prop):Prop
  | mk (o':Obj) (iC:List (Str×Value)) (e s1 s2 d1:Addr) (Sf:Int→Bool) (qY:List (List Nat)) (jM:List Addr):(c,o')∈U→cG g o' iC→valueAt iC (S kk)=some (.ref e)→mQ g U e s1 s2 d1 Sf→eG g U d1 qY jM→(∀ bU,cM g qY jM d1 key U bU→Z bU)→AQ g U c kk key Z
inductive u6 (g:Gx) (En:Addr→Option AV→ag) (key:List (List Nat)) (Z:Led→Prop) (E':ag) (U:Led):Prop
  | mk (c:Addr) (k:Option AV) (gz:List (List Nat)) (F':List Addr):E'=En c k→eG g U c gz F'→(∀ bU,cM g gz F' c key U bU→Z bU)→u6 g En key Z E' U
section
variable {g:Gx} {pl:Bool} {D:Nat} {sc:Scope} {E E' E₁ aO:ag} {σ U σ₁ σ₂ aN:Led}
theorem AR {v i:Expr} {p:Pos} {d:Addr} {o:Obj} {kvs:List (Str×Value)} {x:Str} {u:Value} (hv:Ev g pl D sc E σ v (.val (.ref d)) σ₁) (hi:Ev g pl D sc E σ₁ i (.str x) σ₂) (hd:(d,o)∈σ₂) (ho:cG g o kvs) (hx:valueAt kvs x=some u)
    (hs:autoParam (∀ d t,subscripted i false (.ref d) (.str x t)=operate [.ref d,.str x t] (getItem (.ref d) (.str x t))) aW):
    Ev g pl D sc E σ (.Subscript v i p) (.val u) σ₂:=by
  refine Comes.of fun c ι m s Q Er ok S R ap ht kk=>?_
  refine Subscript_ (hv.on c ι m s _ _ ok S R ap ht fun qA ar m₁ ah ax av ai aq aj ak hX=>?_)
  refine hi.on c ar m₁ _ _ _ ok ai aq aj av fun qB aG m₂ aB a9 a8 aw aC ay aA bB=>?_
  refine hX.isVal (bB.isStr fun t=>?_)
  obtain ⟨h₀,I⟩:=aw
  have iu:(PySem.strKind g.prog g.w).is x (.str x t)=true:=by simp [PySem.strKind,Value.isStrOf]
  refine kba_turn (value':=PySem.Expr.Name (PySem.Str.ofString "_") ⟨0,0,0,0⟩) (fun ω=>rfl) ?_
  exact kda_item I.nw (List.mem_append_right _ hd) ho iu hx (kk _ aG m₂ aB _ ⟨h₀,I⟩ aC ay (fun p hp=>aA p (ak p hp)) (.val _)) (hs d t) (fun ω=>rfl)
theorem OX (kf:KF g) (kc:KC g) {x dx d:Addr} {es:List DictEntry} {n:Nat} {ns key:List (List Nat)} {F:List Addr} (i:Inst σ x 427 dx es n) (hl:getL "_flags" es=some (some (.ref d))) (hc:eG g σ d ns F) (hk:key≠[]) (oC:key.length≤100000):
    ei g true (D+1) (.ref 417) [.val (.ref x),.tup (key.map T),.int 1] ["recursive"] [.bool false] σ fun r U=>r=.none∧cM g ns F d key σ U∧bY U:=by
  have OR:0 < key.length:=List.length_pos_iff.mpr hk
  obtain ⟨eV,fa⟩:∃ eV,key[key.length - 1]?=some eV:=⟨_,List.getElem?_eq_getElem (by lia)⟩
  have OY:key.drop (key.length - 1)=[eV]:=by
    rw [List.drop_eq_getElem_cons (by lia),(List.getElem?_eq_some_iff.mp fa).2,List.drop_eq_nil_of_le (by lia)]
  let En:Addr→Option AV→ag:=fun c k=>[("self",some (.val (.ref x))),("key",some (.tup (key.map T))),("flag",some (.int 1)),("recursive",some (.bool false)),("cont",some (.val (.ref c))),("key_parent",some (.tup (key.map T).dropLast)),("key_stem",some (T eV)),("k",k)]
  refine om (as:=[.val (.ref x),.tup (key.map T),.int 1]) (bs:=[.val (.ref x),.tup (key.map T),.int 1,.bool false]) (ps:=["self","key","flag","recursive"]) (rest:=["cont","key_parent","key_stem","k"]) [("self",some (.val (.ref x))),("key",some (.tup (key.map T))),("flag",some (.int 1)),("recursive",some (.bool false)),("cont",none),("key_parent",none),("key_stem",none),("k",none)] kc.Af ?_ ?_
  · intro doc pm an bb ct
    refine Binds.plain fun ι vs ws hv hw=>?_
    refine hv.ll fun a b c h1 h2 h3=>?_
    refine hw.dS fun y h4=>?_
    exact ⟨[a,b,c,y],.cons h1 (.cons h2 (.cons h3 (.cons h4 .nil))),rfl⟩
  · refine aZ (ba (mM aa i (kc.iX _) kc.lG kc.uL rfl hl rfl)) ?_
    refine aZ (xP (a:=.tup (key.map T).dropLast) (b:=T eV) (fm (au (AI aa nZ (by simp; lia) (by simp; lia)) (au (zV (a:=T eV) (j:=key.length - 1) aa nZ (by decide) (by decide) (by rw [List.length_map]; unfold seqIndex?; simp; lia) (by rw [List.getElem?_map,fa]; rfl)) aU))) (.there (.there (.there (.there (.there (.there .here)))))) (.there (.there (.there (.there (.there .here)))))) ?_
    refine cJ (P₁:=fun fl E' U=>fl=.next∧u6 g En [eV] (cM g ns F d key σ) E' U) (CG.iB kc fun uS=>p7
      (fun j E' U=>bY U∧u6 g En (key.drop j) (cM g ns F d key σ) E' U) aa ⟨uS,d,none,ns,F,rfl,hc,fun ω h=>h⟩ ?_ ?_) ?_
    · rintro j a _ σ₁ ha ⟨gb,c,k,gz,F',rfl,d7,eu⟩
      obtain ⟨kk,hj,lI,rfl⟩:∃ kk,j < key.length - 1∧key[j]?=some kk∧a=T kk:=by
        rw [List.getElem?_dropLast] at ha
        split at ha
        · rename_i bq
          rw [List.length_map] at bq
          rw [List.getElem?_map] at ha
          cases hq:key[j]? with
          | none=>rw [hq] at ha; cases ha
          | some kk=>rw [hq] at ha; cases ha; exact ⟨kk,bq,rfl,rfl⟩
        · cases ha
      obtain ⟨mm,mr,hrest⟩:∃ mm mr,key.drop (j+1)=mm::mr:=⟨_,_,List.drop_eq_getElem_cons (by lia)⟩
      have kL:key.drop j=kk::key.drop (j+1):=by
        rw [List.drop_eq_getElem_cons (by lia),(List.getElem?_eq_some_iff.mp lI).2]
      rw [kL] at eu
      refine ⟨En c (some (T kk)),.there (.there (.there (.there (.there (.there (.there .here)))))),?_⟩
      refine cJ (P₁:=fun fl E' U=>fl=.next∧E'=En c (some (T kk))∧AQ g U c kk (key.drop (j+1)) (cM g ns F d key σ)) ?_ ?_
      · cases gz with
        | nil=>
          obtain ⟨rfl,o,hd,ho⟩:=d7
          refine hY (bw aa aa (gP hd ho (gb.2 _ hd))) (fun ω=>?_) fun hb=>absurd hb (by simp [valueAt])
          refine dX ((qX kf kc hd ho (by simp) (fun ω=>aa) (fun ω=>aa)).mono fun fl E' U h=>?_)
          obtain ⟨rfl,rfl,e,s1,s2,d1,o',M,bW⟩:=h
          refine ⟨rfl,rfl,o',_,e,s1,s2,d1,_,[],[d1],M.top,bW,by simp [PySem.stored,valueAt],M.ent,⟨rfl,_,M.sub,kK⟩,fun bU h=>eu bU ?_⟩
          rw [hrest] at h ⊢
          exact cM.fresh M bW h
        | cons nn r=>
          obtain ⟨o,e,s1,s2,d1,F1,rfl,hd,ho,he,gU⟩:=d7
          by_cases hq:nn=kk
          · subst hq
            refine CG.mono (hY (P:=fun fl E' U=>fl=.next∧E'=En c (some (T nn))∧U=σ₁) (bw aa aa (gP hd ho (gb.2 _ hd))) (fun hb=>absurd hb (by simp [valueAt])) fun ω=>bC bh ⟨rfl,rfl,rfl⟩) fun fl E' U h=>?_
            obtain ⟨rfl,rfl,rfl⟩:=h
            exact ⟨rfl,rfl,o,_,e,s1,s2,d1,_,r,F1,hd,ho,by simp [valueAt],he,gU,fun bU h=>eu bU (cM.same h)⟩
          · have aT:S nn≠S kk:=oP hq
            refine hY (bw aa aa (gP hd ho (gb.2 _ hd))) (fun ω=>?_) fun hb=>absurd hb (by simp [valueAt,aT])
            refine dX ((qX kf kc hd ho (by simp) (fun ω=>aa) (fun ω=>aa)).mono fun fl E' U h=>?_)
            obtain ⟨rfl,rfl,e',u7,u9,qZ,o',M,bW⟩:=h
            exact ⟨rfl,rfl,o',_,e',u7,u9,qZ,_,[],[qZ],M.top,bW,by simp [PySem.stored,valueAt,aT],M.ent,⟨rfl,_,M.sub,kK⟩,fun bU h=>eu bU (cM.into M h)⟩
      · rintro _ _ σ₂ ⟨rfl,rfl,o',iC,e,s1,s2,d1,Sf,qY,jM,hm,bW,hv,he,qS,uT⟩
        obtain ⟨oe,jO,gc⟩:=he.oe
        refine aZ (ba (AR (x:="nested") (u:=.ref d1) (iV (u:=.ref e) aa aa hm bW hv) eD jO gc AM)) ?_
        exact (bC bh ⟨rfl,d1,_,qY,jM,rfl,qS,uT⟩:b0 g true D _ _ _ [] (fun fl E' U=>fl=.next∧_)).gR kc |>.mono fun ω ω ω h=>.inl ⟨.inl h.1.1,h.2,h.1.2⟩
    · rintro _ U ⟨eU,c,k,gz,F',rfl,d7,eu⟩
      rw [List.length_dropLast,List.length_map,OY] at eu
      exact ⟨rfl,c,k,gz,F',rfl,d7,eu⟩
    · rintro fl _ aN ⟨rfl,c,k,gz,F',rfl,d7,eu⟩
      refine CG.iB kc fun gb=>?_
      refine cJ (P₁:=fun fl E' σ₂=>fl=.next∧E'=En c k∧∃ o' iC e oe s1 s2 d1 Sf o1 k1,(c,o')∈σ₂∧cG g o' iC∧valueAt iC (S eV)=some (.ref e)∧(e,oe)∈σ₂∧cG g oe [("flags",.ref s1),("recursive_flags",.ref s2),("nested",.ref d1)]∧(s1,o1)∈σ₂∧iD g o1 Sf k1∧k1 < 50∧∀ oY,iD g oY (fun k'=>Sf k'||decide (k'=1)) (if Sf 1 then k1 else k1+1)→cM g ns F d key σ (putL σ₂ s1 oY)) ?_ ?_
      · cases gz with
        | nil=>
          obtain ⟨rfl,o,hd,ho⟩:=d7
          refine hY (bw aa aa (gP hd ho (gb.2 _ hd))) (fun ω=>?_) fun hb=>absurd hb (by simp [valueAt])
          refine dX ((qX kf kc hd ho (by simp) (fun ω=>aa) (fun ω=>aa)).mono fun fl E' U h=>?_)
          obtain ⟨rfl,rfl,e,s1,s2,d1,o',M,bW⟩:=h
          obtain ⟨oe,h1,h2⟩:=M.ent.oe
          obtain ⟨o1,h3,h4⟩:=M.o1
          exact ⟨rfl,rfl,o',_,e,oe,s1,s2,d1,_,o1,0,M.top,bW,by simp [PySem.stored,valueAt],h1,h2,h3,h4,by decide,fun oY h=>eu _ (cM.last (kk:=1) M bW (by simpa using h) (by decide))⟩
        | cons nn r=>
          obtain ⟨o,e,s1,s2,d1,F1,rfl,hd,ho,he,gU⟩:=d7
          by_cases hq:nn=eV
          · subst hq
            refine CG.mono (hY (P:=fun fl E' U=>fl=.next∧E'=En c k∧U=aN) (bw aa aa (gP hd ho (gb.2 _ hd))) (fun hb=>absurd hb (by simp [valueAt])) fun ω=>bC bh ⟨rfl,rfl,rfl⟩) fun fl E' U h=>?_
            obtain ⟨rfl,rfl,rfl⟩:=h
            obtain ⟨oe,h1,h2⟩:=he.oe
            obtain ⟨o1,k1,h3,h4,h5⟩:=he.o1
            exact ⟨rfl,rfl,o,_,e,oe,s1,s2,d1,_,o1,k1,hd,ho,by simp [valueAt],h1,h2,h3,h4,h5,fun oY h=>eu _ cM.OV⟩
          · have aT:S nn≠S eV:=oP hq
            refine hY (bw aa aa (gP hd ho (gb.2 _ hd))) (fun ω=>?_) fun hb=>absurd hb (by simp [valueAt,aT])
            refine dX ((qX kf kc hd ho (by simp) (fun ω=>aa) (fun ω=>aa)).mono fun fl E' U h=>?_)
            obtain ⟨rfl,rfl,e',u7,u9,qZ,o',M,bW⟩:=h
            obtain ⟨oe,h1,h2⟩:=M.ent.oe
            obtain ⟨o1,h3,h4⟩:=M.o1
            exact ⟨rfl,rfl,o',_,e',oe,u7,u9,qZ,_,o1,0,M.top,bW,by simp [PySem.stored,valueAt,aT],h1,h2,h3,h4,by decide,fun oY h=>eu _ (cM.OU M)⟩
      · rintro _ _ σ₂ ⟨rfl,rfl,o',iC,e,oe,s1,s2,d1,Sf,o1,k1,hm,bW,hv,jO,gc,fk,jg,kO,oZ⟩
        refine dX ((OE (AR (x:="flags") (u:=.ref s1) (iV (u:=.ref e) aa aa hm bW hv) (xE (b:=false) (dw aa (.bool _)) (fun hb=>absurd hb (by decide)) fun ω=>eD) jO gc AK) (au aa aU) fk fk jg (by lia)).gR kc |>.mono fun fl E' U h=>?_)
        obtain ⟨⟨rfl,rfl,o2,j5,rfl⟩,eU⟩:=h
        exact .inr ⟨rfl,rfl,oZ _ j5,eU⟩
end
section
variable {g:Gx} {pl:Bool} {D:Nat} {sc:Scope} {E E' E₁ aO:ag} {σ U σ₁ σ₂ aN:Led}
theorem OZ {prog:Program} {w:World} {A:Around} {env:Env} {Er:Value→Shared→Prop} {s:Shared} {o:Expr} {name:Str} {apos pos:Pos} {args:List Expr} {cL:List Keyword} {pl:Sem Bool} {Q:Value→Shared→Prop}
    (h:wpAny (model prog w) A (eval o env) (fun ov aH=>wpAny (model prog w) A (getMethod ov name pl) (fun fx cw=>wpAny (model prog w) A (callWith pos fx.1 fx.2 (backTo pos (starEach args env)) (backToKw pos (keywordEach cL env))) Q Er cw) Er aH) Er s)
    (he:eval (.Call (.Attribute o name apos) args cL pos) env=(do
      let ov ←eval o env
      standAt apos.atName
      let (f,first) ←holding [ov] (getMethod ov name pl)
      callWith pos f first (backTo pos (starEach args env)) (backToKw pos (keywordEach cL env)))):
    wpAny (model prog w) A (eval (.Call (.Attribute o name apos) args cL pos) env) Q Er s:=by
  rw [he]
  refine wpAny_bind (wpAny_mono h (fun ov aH ah=>wpAny_bind (wpAny_standAt (wpAny_bind (wpAny_holding (wpAny_mono ah (fun fx cw aB=>?_) fun ω ω x=>x))))) fun ω ω x=>x)
  exact aB
theorem O0 {o:Expr} {nm:Str} {apos pos:Pos} {e:Expr} {es:List Expr} {x C dx f:Addr} {ents:List DictEntry} {n:Nat} {as ks:List AV} {cL:List Keyword} {kn:List Str} {P:AV→Led→Prop} (ho:Ev g pl D sc E σ o (.val (.ref x)) σ₁) (i:Inst σ₁ x C dx ents n)
    (hg:plainGet g.K C nm=true) (hf:findIn g.K (.ref C) nm=some (some (.ref f))) (ht:isFn g.K (.ref f)=true) (hl:getL nm ents=some none) (hk:keepIn g.K (.ref f)=true)
    (dq:ee g pl D sc E σ₁ (e::es) as σ₂) (mH:mG g pl D sc E σ₂ cL ks aN) (cP:ei g pl D (.ref f) (.val (.ref x)::as) kn ks aN P)
    (he:autoParam (∀ env,starEach (e::es) env=(false,eval e env)::starEach es env) aI)
    (cW:autoParam (∀ pos env,((backTo pos (starEach (e::es) env)).any (·.1)||(backToKw pos (keywordEach cL env)).any (·.1.isNone))=false) aJ)
    (jq:autoParam (∀ pos env,(backToKw pos (keywordEach cL env)).all (·.1.isSome)=true) aJ)
    (ou:autoParam (∀ pos env,(backToKw pos (keywordEach cL env)).filterMap (·.1)=kn) aJ)
    (hm:autoParam (∀ env,∃ pl,eval (.Call (.Attribute o nm apos) (e::es) cL pos) env=(do
      let ov ←eval o env
      standAt apos.atName
      let (f,first) ←holding [ov] (getMethod ov nm pl)
      callWith pos f first (backTo pos (starEach (e::es) env)) (backToKw pos (keywordEach cL env)))) aE):
    CG g pl D sc E σ (fun c=>eval (.Call (.Attribute o nm apos) (e::es) cL pos) (c.env sc)) Rep (fun a E' U=>E'=E∧P a U):=by
  refine .mk fun c ι m s Q Er ok S R ap aQ k=>?_
  obtain ⟨dK,hm⟩:=hm (c.env sc)
  refine OZ (ho.on c ι m s _ _ ok S R ap aQ fun v ar m₁ ah ax av ai aq aj ak hv=>?_) hm
  refine hv.is ?_
  obtain ⟨h₀,I⟩:=ai
  refine method_inst (s:={s with heap:=ah,toks:=ax}) I.fr (ok.kx I) (i.at I) hg hf ht hl ?_
  refine callWith_KW (ok.kh I) hk (jq _ _) ((dq pos).on c ar m₁ _ _ _ ok ⟨h₀,I⟩ aq aj av fun vs aG m₂ aB a9 a8 aw aC ay aA aM=>?_) (cW _ _) (he _)
  refine (mH pos).on c aG m₂ _ _ _ ok aw aC ay a8 fun ws br cD bu bx ck bj cI bp bo jw=>?_
  obtain ⟨nP,ow⟩:=bj
  rw [ou]
  refine ⟨ok.kh ow,?_⟩
  refine wpAny_with_toks (n:=1) ck (cP c sc br cD _ _ _ _ _ ok ⟨nP,ow⟩ bp ck (.cons (.val _) (aM.mono bo)) jw fun v b iS U eO jE dM eS fb oy hP iv=>?_)
  exact k v b E U iS cD eO jE iv dM (cI.mono fb) eS (fun p hp=>fb p (bo p (aA p (ak p hp)))) oy ⟨rfl,hP⟩
theorem va {e:Expr} {pos:Pos} {P:AV→ag→Led→Prop} (h:CG g pl D sc E σ (fun c=>eval e (c.env sc)) Rep P)
    (hi:autoParam (∀ (c:Cx),interactive (c.env sc)=false) aI) (hs:autoParam (∀ (c:Cx),swapsWith e none pos.line (c.env sc)=pure false) aI):
    dg g pl D sc E σ (.Expr e pos) (fun fl E' U=>fl=.next∧∃ a,P a E' U):=by
  refine .mk fun c ι m s Q Er ok S R ap ht k=>?_
  refine wpAny_Expr_any (h.on c ι m s _ _ ok S R ap ht fun v a E₁ σ₁ ar m₁ ah ax av ai aq aj ak hv hP=>?_) (hi c) (hs c)
  exact k .next .next E₁ σ₁ ar m₁ ah ax av ai aq aj ak .next ⟨rfl,a,hP⟩
end
structure KO (g:Gx):Prop where
  cls:∃ oc od cd sl,g.K.lookup 535=some ⟨oc,od,.cls cd,sl⟩∧cd.abstract=false∧cd.hasDel=false∧cd.mro=[.ref 535,.type "tuple",.type "object"]∧cd.bases=[.type "tuple"]∧sl.toList[4]?=some (some .none)
  call:specialIn g.K (.ref 535) "__call__"=some (some (.builtin "type.__call__"))
  typ:instIn g.K (.ref 535) (.type "type")=some true
  rd:readsIn g.K 535 (.type "type")=true
  new:findCls g.K (.ref 535) (.type "type") "__new__"=some (.get (.builtin "staticmethod.__get__") (.ref 536) .none (.ref 535))
  sm:recIn g.K 536 "staticmethod"=some [.ref 485]
  q0:findIn g.K (.ref 535) "__init__"=some (some (.builtin "object.__init__"))
  AS:findCls g.K (.type "tuple") (.type "type") "__new__"=some (.val (.builtin "tuple.__new__"))
  AU:findCls g.K (.type "tuple") (.type "type") "__getitem__"=some (.val (.builtin "tuple.__getitem__"))
  keep:keepIn g.K (.ref 535)=true
  ga:findIn g.K (.ref 535) "__getattribute__"=some (some (.builtin "tuple.__getattribute__"))
  gt:findIn g.K (.ref 535) "__getattr__"=some none
  AW:(clsIn g.K 535).isSome=true
  fData:findIn g.K (.ref 535) "data"=some (some (.ref 527))
  fFlags:findIn g.K (.ref 535) "flags"=some (some (.ref 530))
  vb:specialIn g.K (.ref 527) "__get__"=some (some (.ref 281))
  mR:specialIn g.K (.ref 530) "__get__"=some (some (.ref 281))
  vc:takesIn g.K (.ref 527)=some true
  mS:takesIn g.K (.ref 530)=some true
  vd:∃ sl d es n,g.K.lookup 527=some ⟨.ref 298,some d,.plain,sl⟩∧g.K.lookup d=some (dictOf es n)∧∃ t,getL "index" es=some (some (.int 0 t))
  mT:∃ sl d es n,g.K.lookup 530=some ⟨.ref 298,some d,.plain,sl⟩∧g.K.lookup d=some (dictOf es n)∧∃ t,getL "index" es=some (some (.int 1 t))
  AX:plainGet g.K 298 "index"=true
  AY:hasDictIn g.K 298=true
  AZ:findIn g.K (.ref 298) "index"=some none
  dG:∃ o n,g.K.lookup 274=some o∧o.data=.seq #[.none] n
  kG:keepIn g.K (.ref 281)=true
  A0:readsIn g.K 427 (.type "type")=true
  oO:typeIn g.K (.ref 427)=some (.type "type")
  q8:∃ t,findCls g.K (.ref 427) (.type "type") "EXPLICIT_NEST"=some (.val (.int 1 t))
  A1:∃ t,findCls g.K (.ref 427) (.type "type") "FROZEN"=some (.val (.int 0 t))
  kF:keepIn g.K (.ref 427)=true
  kN:keepIn g.K (.ref 463)=true
  q9:keepIn g.K (.ref 424)=true
  A2:keepIn g.K (.ref 417)=true
  A3:keepIn g.K (.ref 403)=true
  A4:keepIn g.K (.ref 453)=true
  ra:mroIn g.K 535 (.type "tuple")=some true
end Mine
end
section
open PySem PySem.W PyProof.Rows PySem.Calls Builtin
namespace Mine
noncomputable def O1 (g:Gx) (R:Result→Shared→Prop) (r:Result) (s':Shared):Prop:=match r with
  | .ok (.ret v)=>∃ x o,v=.ref x∧s'.heap.get? x=some o∧o.cls=.ref 535∧g.K.In s'.heap∧R (.ok (.ret v)) s'
  | .ok _=>False
  | .error e=>R (.error e) s'
section
variable {g:Gx} {A:Around} {R:Result→Shared→Prop} {s:Shared}
theorem ve (ko:KO g) {h:Heap} (X:g.K.In h):Looks g.M h (Bind.madeBy (.ref 535)) none:=by
  obtain ⟨oc,od,cd,sl,ho,e1,e2,e3,e4,e5⟩:=ko.cls
  have hc:clsIn g.K 535=some cd:=by unfold clsIn; rw [ho]
  have hm:Looks g.M h (mroOf (.ref 535)) cd.mro:=(looks_clsIn X hc).andThen .now
  intro A Q E s k q
  unfold Bind.madeBy
  refine wpAny_bind (hm A _ E s k ?_)
  rw [e3,List.forIn_cons]
  refine wpAny_bind (wpAny_bind (wpAny_bind (wpAny_bind (wpAny_loadPart (k _ _ (X _ _ ho)) (wpAny_pure ?_)))))
  dsimp only
  rw [←Array.getElem?_toList,e5]
  exact wpAny_pure (wpAny_pure (wpAny_pure q))
theorem O2 (a b c:Value):argsOk "object.__init__" ⟨[a,b,c],[]⟩:=by unfold argsOk; kernel_rfl
theorem O3 (ko:KO g) (X:g.K.In s.heap) {a b:Value}
    (h:codeAny g.M (A.under (.builtin "type.__call__" ⟨.ref 535::[a,b],[]⟩)) (.call (.ref 485) ⟨.ref 535::[a,b],[]⟩) (O1 g R) {s with toks:=s.toks+1}):
    codeAny g.M A (.call (.ref 535) ⟨[a,b],[]⟩) R s:=by
  obtain ⟨hh,gg,d,t,os⟩:=s
  obtain ⟨oc,od,cd,sl,ho,e1,e2,e3,e4,e5⟩:=ko.cls
  have hc:clsIn g.K 535=some cd:=by unfold clsIn; rw [ho]
  have hC:=X _ _ ho
  have call:=looks_specialIn (M:=g.M) X ko.call
  have made:=ve ko X
  have typ:=looks_instIn (M:=g.M) X ko.typ
  refine codeAny_of_tree ?_
  show wpAny _ _ (callAny (.ref 535) _) _ _ _
  refine nd_load hC ?_
  show wpAny _ _ (callAny.viaDunder (.ref 535) _) _ _ _
  delta callAny.viaDunder
  refine wpAny_bind (call.at ?_)
  dsimp only
  rw [tc_bind]
  refine wpAny_bind (wpAny_pure (wpAny_bind (wpAny_pure ?_)))
  refine wpAny_pure (a:=Fin.again (.call (.builtin "type.__call__") ⟨.ref 535::[a,b],[]⟩)) (And.intro rfl ?_)
  refine codeAny_call_builtin_at (Code.quiet_builtin _ (by decide+kernel)) entry_typeCall ?_
  with_reducible refine check_slot tc_kind tc_split typ (tc_args _ _ _) ?_
  delta Builtin.«type.__call__»
  have hm:Looks g.M hh (mroOf (.ref 535)) cd.mro:=((Looks.ld (part:=none) hC).andThen .now).andThen .now
  have aT:cd.mro.isEmpty=false:=by rw [e3]; rfl
  repeat (first | simp only [aT,Bool.false_eq_true,if_false] | (with_reducible refine wpAny_call ?_) | (with_reducible refine cls_bind X ko.rd ko.new ?_) | lk)
  refine sm_get (s:=⟨hh,gg,d,t+1,os⟩) X ko.sm (handed_on (v:=.ref 485) rfl ?_)
  dsimp only at h ⊢
  refine wpAny_bind (wpAny_holding (wpAny_call (codeAny_mono h fun r s' z=>?_)))
  rcases r with e | (v | _ | _ | _) <;> first | exact z | exact z.elim | skip
  obtain ⟨x,o,rfl,hx,O4,X',z⟩:=z
  obtain ⟨o6,O5,d',t',O6⟩:=s'
  have t1:Looks g.M o6 (typeOf (.ref x)) (.ref 535):=O4▸(Looks.ld hx).andThen .now
  have s1:Looks g.M o6 (isSubtype (.ref 535) (.ref 535)) true:=looks_mroIn X' (by unfold mroIn; rw [hc,Option.bind_some,if_neg (by rw [aT]; decide),e3]; decide)
  have s2:Looks g.M o6 (isSubtype (.ref 535) (.type "object")) true:=looks_mroIn X' (by unfold mroIn; rw [hc,Option.bind_some,if_neg (by rw [aT]; decide),e3]; decide)
  have i1:=looks_findIn (M:=g.M) X' ko.q0
  have m1:=ve ko X'
  have b1:Looks g.M o6 (bindSpecial (.builtin "object.__init__") (.ref x)) (.builtin "object.__init__",[.ref x]):=Looks.of_pure (oi_bind _)
  dsimp only at t1 i1
  delta isInstance callSpecial? specialOf
  repeat (first | (with_reducible refine wpAny_call ?_) | lk)
  refine codeAny_call_builtin_at (Code.quiet_builtin _ (by decide+kernel)) entry_oi ?_
  show wpAny g.M _ (checkBuiltinCall "object.__init__" ⟨[.ref x,a,b],[]⟩) _ _ _
  with_reducible refine check_slot (s:=⟨o6,O5,d',t',O6⟩) oi_kind oi_split (t1.andThen s2) (O2 _ _ _) ?_
  delta Builtin.«object.__init__»
  have c1:(some (Value.builtin "object.__init__") != some (Value.builtin "object.__init__"))=false:=by decide
  repeat (first | simp only [c1,Bool.false_eq_true,if_false] | lk)
  exact z
end
theorem O7:builtinKind "tuple.__getattribute__"=some .slot:=by decide+kernel
theorem O8:splitId "tuple.__getattribute__"=some ("tuple","__getattribute__"):=by decide+kernel
section
variable {g:Gx} {A:Around} {R:Result→Shared→Prop} {Er:Value→Shared→Prop} {s:Shared}
theorem O9 {x C:Addr} {ox:Obj} {od:Option Obj} {name:Str} {expr:Bool} {gg a:Value} {Q:Value→Shared→Prop} (X:g.K.In s.heap) (I:InstAt s.heap x ox C od) (Pa:findIn g.K (.ref C) "__getattribute__"=some (some (.builtin "tuple.__getattribute__")))
    (hf:findObj g.K C od name=some (.bind gg a)) (hk:findIn g.K (.ref C) "__getattr__"=some none) (gq:mroIn g.K C (.type "tuple")=some true)
    (hq:wpAny g.M A.in1 (call gg [a,.ref x,.ref C]) (fun v s'=>wpAny g.M A (handedOut v) Q Er s') (fun ω ω=>False) {s with toks:=s.toks+1}):
    wpAny g.M A (getAttr (.ref x) name expr) Q Er s:=by
  obtain ⟨hh,gr,d,t,os⟩:=s
  have L0:=I.type (M:=g.M)
  have L1:=looks_findIn (M:=g.M) X Pa
  have L2:=looks_findIn (M:=g.M) X hk
  have L3:=looks_find (M:=g.M) X I hf
  have b1:Looks g.M hh (bindSpecial (.builtin "tuple.__getattribute__") (.ref x)) (.builtin "tuple.__getattribute__",[.ref x]):=Looks.of_pure (PySem.F.slot_tuple_getattribute.bind _)
  unfold getAttr getAttrBy
  refine wpAny_bind (wpAny_mkText (wpAny_holding (wpAny_bind (L0.at (wpAny_bind (L1.at ?_))))))
  have LI:Looks g.M hh (isInstance (.ref x) (.type "tuple")) true:=L0.andThen (looks_mroIn X gq)
  have LH:Looks g.M hh (hookBefore (.ref C)) none:=looks_hook X (by split <;> first | exact hk | rfl)
  have c0:(Value.builtin "tuple.__getattribute__"==Value.builtin "object.__getattribute__")=false:=by decide+kernel
  dsimp only
  rw [c0,Bool.and_false,if_neg (by decide)]
  unfold getAttrByItsOwn callGetattribute
  rw [show onTheHeap (Value.builtin "tuple.__getattribute__")=false from rfl,Bool.and_false,if_neg (by decide)]
  unfold boundAndCalled
  refine wpAny_bind (LH.at (wpAny_bind (wpAny_attempt (wpAny_holding (wpAny_bind (b1.at (wpAny_call ?_)))))))
  refine codeAny_call_builtin PySem.F.slot_tuple_getattribute.plain PySem.F.entry_tuple_ga (check_slot (i:="tuple.__getattribute__") (owner:="tuple") (n:="__getattribute__") (s:=⟨hh,gr,d,t+1,os⟩) O7 O8 LI (PySem.F.args_tuple_getattribute_2 _ _) ?_)
  unfold Builtin.«object.__getattribute__» slotArgs
  refine wpAny_bind (wpAny_pure ?_)
  dsimp only
  refine wpAny_bind (wpAny_pure (wpAny_bind (L0.at (wpAny_bind (L3.at ?_)))))
  dsimp only
  unfold ObjectAttr.bindTo
  dsimp only
  refine wpAny_bind (wpAny_holding (wpAny_mono hq (fun v s' z=>wpAny_pure z) fun ω ω z=>z.elim))
end
theorem Pb:builtinKind "tuple.__getitem__"=some .slot:=by decide+kernel
theorem Pc:splitId "tuple.__getitem__"=some ("tuple","__getitem__"):=by decide+kernel
noncomputable abbrev dJ (n f dx:Addr):Obj:={cls:=.ref 535,dict:=some dx,data:=.seq #[.ref n,.ref f]}
section
variable {g:Gx} {A:Around} {R:Result→Shared→Prop} {Er:Value→Shared→Prop} {s:Shared}
theorem A5 (ko:KO g) {h:Heap} (X:g.K.In h):Looks g.M h (isSubtype (.ref 535) (.type "tuple")) true:=looks_mroIn X ko.ra
theorem Pd (ko:KO g) {x n f dx:Addr} {i:Int} {t:Tok} {v:Value} {Q:Value→Shared→Prop} (X:g.K.In s.heap) (hx:s.heap.get? x=some (dJ n f dx)) (hi:(i=0∧v=.ref n)∨(i=1∧v=.ref f)) (hq:Q v s):
    wpAny g.M A (call (.builtin "tuple.__getitem__") [.ref x,.int i t]) Q Er s:=by
  obtain ⟨hh,gr,d,tk,os⟩:=s
  have L0:Looks g.M hh (typeOf (.ref x)) (.ref 535):=(Looks.ld hx).andThen .now
  have LI:Looks g.M hh (isInstance (.ref x) (.type "tuple")) true:=L0.andThen (A5 ko X)
  have ix:Looks g.M hh (typeLookup (.type "int") "__index__") (some (.builtin "int.__index__")):=Looks.of_pure PySem.AutoSeq1.idx_int
  refine wpAny_call (codeAny_call_builtin PySem.F.slot_tuple_getitem.plain PySem.F.entry_tuple_getitem (check_slot (i:="tuple.__getitem__") (owner:="tuple") (n:="__getitem__") (s:=⟨hh,gr,d,tk,os⟩) Pb Pc LI (PySem.F.args_tuple_getitem_2 _ _) ?_))
  have hl:(⟨hh,gr,d,tk,os⟩:Shared).heap.get? x=some (dJ n f dx):=hx
  unfold Builtin.«tuple.__getitem__»
  rcases hi with ⟨rfl,rfl⟩ | ⟨rfl,rfl⟩
  · repeat lk
    exact hq
  · repeat lk
    exact hq
theorem Pe (ko:KO g) {Q:Value→Shared→Prop} (X:g.K.In s.heap) (hq:Q (.bool true) s):wpAny g.M A (call (.builtin "issubclass") [.ref 535,.type "tuple"]) Q Er s:=by
  refine call_issubclass (S:=fun ω R s=>g.K.In s.heap∧R (.ok (.ret (.bool true))) s) (fun prog w A R s hs=>issubclass_outer ?_) ⟨X,hq⟩
  obtain ⟨X,hq⟩:=hs
  obtain ⟨oc,od,cd,sl,ho,e1,e2,e3,e4,e5⟩:=ko.cls
  obtain ⟨hh,gr,d,tk,os⟩:=s
  have typ:=looks_instIn (M:=model prog w) X ko.typ
  have sub:=looks_mroIn (M:=model prog w) X ko.ra
  have hC:=X _ _ ho
  have tt:Looks (model prog w) hh (typeOf (.type "tuple")) (.type "type"):=Looks.of_pure rfl
  dsimp only at typ sub hC
  unfold Builtin.«issubclass.nested»
  repeat lk
  exact hq
theorem Pf {x n f dx:Addr} {Q:Value→Shared→Prop} (hx:s.heap.get? x=some (dJ n f dx)) (hq:Q (.ref 535) s):wpAny g.M A (call (.type "type") [.ref x]) Q Er s:=by
  obtain ⟨hh,gr,d,tk,os⟩:=s
  exact call_type_obj hx rfl hq
end
section
variable {g:Gx} {pl:Bool} {D:Nat} {sc:Scope} {E:ag} {σ σ₁ σ₂:Led}
theorem Pg {x n f dx:Addr} (hx:(x,dJ n f dx)∈σ):Fn g pl D (.type "type") [.val (.ref x)] σ (.val (.ref 535)) σ:=by
  intro c sc ι m s vs Q Er ok ⟨h₀,I⟩ ap ht aM k
  refine aM.dS fun ω h1=>?_
  refine h1.is ?_
  exact Pf (I.nw _ (List.mem_append_right _ hx)).1 (k _ ι s.heap s.toks ⟨h₀,I⟩ ap (fun ω h=>h) (.val _))
theorem Ph (ko:KO g):Fn g pl D (.builtin "issubclass") [.val (.ref 535),.val (.type "tuple")] σ (.bool true) σ:=by
  intro c sc ι m s vs Q Er ok ⟨h₀,I⟩ ap ht aM k
  refine aM.eN fun ω ω h1 h2=>?_
  refine h1.is ?_; refine h2.is ?_
  exact Pe ko (ok.kh I) (k _ ι s.heap s.toks ⟨h₀,I⟩ ap (fun ω h=>h) (.bool _))
theorem Pj (ko:KO g) {x n f dx:Addr} {i:Int} {v:Value} (hx:(x,dJ n f dx)∈σ) (hi:(i=0∧v=.ref n)∨(i=1∧v=.ref f)):Fn g pl D (.builtin "tuple.__getitem__") [.val (.ref x),.int i] σ (.val v) σ:=by
  intro c sc ι m s vs Q Er ok ⟨h₀,I⟩ ap ht aM k
  refine aM.eN fun ω ω h1 h2=>?_
  refine h1.is ?_; refine h2.is fun ω=>?_
  exact Pd ko (ok.kh I) (I.nw _ (List.mem_append_right _ hx)).1 hi (k _ ι s.heap s.toks ⟨h₀,I⟩ ap (fun ω h=>h) (.val _))
theorem A6 {x nm:Str} {T id:String} {p apos pos:Pos} {e:Expr} {es:List Expr} {as:List AV} {P:AV→Led→Prop} (e0:nsIn g.K mainGlobals x=some none) (hv:bootBuiltins x=some (.type T)) (hx:x≠"__name__")
    (aP:handedIn (.builtin id)=true) (ht:typeOf (.type T)=pure (.type "type")) (fa:Manifest.isStub T=false) (hc:findCls g.K (.type T) (.type "type") nm=some (.val (.builtin id)))
    (dq:ee g pl D sc E σ (e::es) as σ₁) (cP:dW g pl D (.builtin id) as σ₁ P) (hk:autoParam (sc.names.lookup x=some .globalImplicit) aK) (hd:autoParam ((x==("__debug__":Str))=false) aK)
    (he:autoParam (∀ env,starEach (e::es) env=(false,eval e env)::starEach es env) aI) (cW:autoParam (∀ pos env,(backTo pos (starEach es env)).any (·.1)=false) aJ)
    (hm:autoParam (∀ env,∃ pl,eval (.Call (.Attribute (.Name x p) nm apos) (e::es) [] pos) env=(do
      let ov ←eval (.Name x p) env
      standAt apos.atName
      let (f,first) ←holding [ov] (getMethod ov nm pl)
      callWith pos f first (backTo pos (starEach (e::es) env)) [])) aE):
    CG g pl D sc E σ (fun c=>eval (.Call (.Attribute (.Name x p) nm apos) (e::es) [] pos) (c.env sc)) Rep (fun a E' U=>E'=E∧P a U):=by
  refine .mk fun c ι m s Q Er ok S R ap aQ k=>?_
  obtain ⟨dK,hm⟩:=hm (c.env sc)
  refine MethodCall_ ((gC e0 hv hx hk hd:Ev g pl D sc E σ (.Name x p) _ σ).on c ι m s _ _ ok S R ap aQ fun v ar m₁ ah ax av ai aq aj ak hv=>?_) hm
  refine hv.is ?_
  obtain ⟨h₀,I⟩:=ai
  refine method_type (s:={s with heap:=ah,toks:=ax}) I.fr (ok.kx I) ht fa hc aP ?_
  refine PyProof.Rows.callWith_builtin1 ((dq pos).on c ar m₁ _ _ _ ok ⟨h₀,I⟩ aq aj (Nat.succ_pos _) fun vs aG m₂ aB a9 a8 aw aC ay aA aM=>?_) (he _) (cW _ _)
  obtain ⟨e7,b9⟩:=aw
  refine wpAny_with_toks (n:=1) a8 (cP c sc aG m₂ _ _ _ _ ok ⟨e7,b9⟩ ay a8 aM fun v r br aN bu bx bj bp bo b8 hP=>fun et=>?_)
  exact k v r E aN br m₂ bu bx et bj (aC.mono bo) bp (fun p hp=>bo p (aA p (ak p hp))) b8 ⟨rfl,hP⟩
theorem Pk {e:Expr} {pos:Pos} {name:Str} {x C dx:Addr} {sl:Array (Option Value)} {es:List DictEntry} {n:Nat} {v:Value} {attr:Option Value} (he:Ev g pl D sc E σ e (.val (.ref x)) σ₁) (hx:g.K.lookup x=some ⟨.ref C,some dx,.plain,sl⟩) (gQ:g.K.lookup dx=some (dictOf es n))
    (hg:plainGet g.K C name=true) (hh:hasDictIn g.K C=true) (ha:findIn g.K (.ref C) name=some attr) (hn:noGet g.K attr=true) (hl:getL name es=some (some v)) (hv:handedIn v=true) {a:AV} (vf:∀ ι,Rep ι v a)
    (hm:autoParam (∀ env,eval (.Attribute e name pos) env=(do
      let o ←eval e env
      standAt pos.atName
      let r ←holding [o] (getAttr o name true)
      letTemporaryGo e o r
      pure r)) aI):Ev g pl D sc E σ (.Attribute e name pos) a σ₁:=by
  refine Comes.of fun c ι m s Q Er ok S R ap ht k=>?_
  refine Attribute_any_ (he.on c ι m s _ _ ok S R ap ht fun u ar m₁ ah ax av ai aq aj ak hu=>?_) (hm _)
  refine hu.is ?_
  obtain ⟨h₀,I⟩:=ai
  have kh:=ok.kh I
  exact get_own (s:={s with heap:=ah,toks:=ax}) I.fr (ok.kx I) (ox:=⟨.ref C,some dx,.plain,sl⟩) ⟨kh _ _ hx,rfl,rfl,kh _ _ gQ⟩ hg hh ha hn hl hv (k _ ar m₁ ah _ ⟨h₀,I⟩ aq aj ak (vf _))
end
section
variable {g:Gx} {pl:Bool} {D:Nat} {sc:Scope} {E E' E₁ aO:ag} {σ U σ₁ σ₂ aN:Led}
theorem Pm {r:Addr}:bN g pl D sc E σ (compareOp .Is) Rep (.val (.ref r)) .none (.bool false) σ:=by
  intro v u; refine .mk fun c ι m s Q Er ok S R ap ht pr k=>?_
  obtain ⟨h1,h2⟩:=pr
  refine h1.is ?_; refine h2.is ?_
  exact is_ref_none (k _ ι m s.heap s.toks S R ap (fun p h=>h) (.bool _))
theorem rb {e:Expr} {P:AV→Led→Prop} (h:CG g pl D sc E σ (fun c=>eval e (c.env sc)) Rep (fun a E' U=>E'=E∧P a U)) {a:AV} {U:Led} (hp:∀ b σ₁,P b σ₁→b=a∧σ₁=U):Ev g pl D sc E σ e a U:=h.det fun ω ω ω h=>⟨(hp _ _ h.2).1,h.1,(hp _ _ h.2).2⟩
theorem Pn (ko:KO g) {a b e:AV} (doc pm:Value) (an:Option Addr) (bb ct:Value):Binds g (fnOf "__get__" "_tuplegetter.__get__" (dr (ff (af 23) 1)) (bZ (ff (af 23) 1)) (bz (ff (af 23) 1)) (.ref 274) .none doc pm an bb ct) [a,b,e] [] [] σ ["self","obj","objtype"] [a,b,e]:=by
  intro c ι m s vs ws A Q Er kx S ap hv hw k
  refine hv.ll fun v u w h1 h2 h3=>?_
  obtain ⟨o,n,ho,hd⟩:=ko.dG
  have:=binds_K (fd:=fnOf "__get__" "_tuplegetter.__get__" (dr (ff (af 23) 1)) (bZ (ff (af 23) 1)) (bz (ff (af 23) 1)) (.ref 274) .none doc pm an bb ct) (args:=⟨[v,u,w],[]⟩) (binds:=[(Str.ofString "self",v),(Str.ofString "obj",u),(Str.ofString "objtype",w)]) kx rfl ho hd (by rfl) (by rfl)
  exact this _ _ _ _ (k [v,u,w] ι s.heap S ap (fun ω h=>h) (.cons h1 (.cons h2 (.cons h3 .nil))))
theorem Po (kf:KF g) (kc:KC g) (ko:KO g) {p x n f dx dp:Addr} {sl:Array (Option Value)} {es:List DictEntry} {k:Nat} {i:Int} {t:Tok} {v:Value} (hx:(x,dJ n f dx)∈σ) (hi:(i=0∧v=.ref n)∨(i=1∧v=.ref f))
    (hp:g.K.lookup p=some ⟨.ref 298,some dp,.plain,sl⟩) (Pp:g.K.lookup dp=some (dictOf es k)) (hl:getL "index" es=some (some (.int i t))):Fn g pl (D+2) (.ref 281) [.val (.ref p),.val (.ref x),.val (.ref 535)] σ (.val v) σ:=by
  refine (ei.toG (om (P:=fun r U=>r=.val v∧U=σ) (kn:=[]) (ks:=[]) (as:=[.val (.ref p),.val (.ref x),.val (.ref 535)]) (bs:=[.val (.ref p),.val (.ref x),.val (.ref 535)]) (ps:=["self","obj","objtype"]) (rest:=[]) [("self",some (.val (.ref p))),("obj",some (.val (.ref x))),("objtype",some (.val (.ref 535)))] kc.Aj (fun doc pm an bb ct=>Pn ko doc pm an bb ct) ?_)).det fun ω ω h=>h
  refine aZ (cE (bw aa xq Pm) bh) ?_
  refine aZ (cE (jn (b:=true) (dw (jj kf.tJ (by decide+kernel) (by decide+kernel) (au (mq kf.tI (by decide+kernel) (by decide+kernel) (au aa aU) (Pg hx)) (au (gC kf.mB (v:=.type "tuple") (by decide+kernel) (by decide+kernel)) aU)) (Ph ko)) (.bool _))) bh) ?_
  exact bC (bO (cb (rb (A6 kf.mB (T:="tuple") (by decide+kernel) (by decide+kernel) rfl rfl (by decide+kernel) ko.AU (au aa (au (Pk (a:=.int i) aa hp Pp ko.AX ko.AY ko.AZ rfl hl rfl fun ω=>.int _ _) aU)) ((Pj ko hx hi).toG (P:=fun b y=>b=.val v∧y=σ) ⟨rfl,rfl⟩)) fun ω ω h=>h))) (.inl ⟨_,rfl,rfl,rfl⟩)
theorem Cx.Ok.in1 {c:Cx} (ok:c.Ok g sc pl (D+1)):({c with A:=c.A.in1}:Cx).Ok g sc false D:=
  ⟨ok.gd,ok.fr,ok.kind,by have:=ok.dp; show c.A.depth+D < 900; lia,by have:=ok.un; show c.A.units+1+20 * D < 9000; lia,ok.hd,ok.he,(fun e=>nomatch e),ok.gs⟩
theorem lM (kf:KF g) (kc:KC g) (ko:KO g) {e:Expr} {pos:Pos} {name:Str} {p x n f dx:Addr} {i:Int} {v:Addr} (he:Ev g pl (D+3) sc E σ e (.val (.ref x)) σ₁) (hx:(x,dJ n f dx)∈σ₁) (gQ:(dx,emptyDict)∈σ₁)
    (hi:(i=0∧v=n)∨(i=1∧v=f)) (hF:findIn g.K (.ref 535) name=some (some (.ref p))) (hG:specialIn g.K (.ref p) "__get__"=some (some (.ref 281))) (hT:takesIn g.K (.ref p)=some true)
    (hp:∃ sl d es n,g.K.lookup p=some ⟨.ref 298,some d,.plain,sl⟩∧g.K.lookup d=some (dictOf es n)∧∃ t,getL "index" es=some (some (.int i t)))
    (hm:autoParam (∀ env,eval (.Attribute e name pos) env=(do
      let o ←eval e env
      standAt pos.atName
      let r ←holding [o] (getAttr o name true)
      letTemporaryGo e o r
      pure r)) aI):Ev g pl (D+3) sc E σ (.Attribute e name pos) (.val (.ref v)) σ₁:=by
  refine Comes.of fun c ι m s Q Er ok S R ap ht k=>?_
  refine Attribute_any_ (he.on c ι m s _ _ ok S R ap ht fun u ar m₁ ah ax av ai aq aj ak hu=>?_) (hm _)
  refine hu.is ?_
  obtain ⟨h₀,I⟩:=ai
  have kh:=ok.kh I
  obtain ⟨sl,d,es,k',h1,h2,t,h3⟩:=hp
  refine O9 (s:={s with heap:=ah,toks:=ax}) (C:=535) (ox:=dJ n f dx) (od:=some emptyDict) kh ⟨(I.nw _ (List.mem_append_right _ hx)).1,rfl,rfl,(I.nw _ (List.mem_append_right _ gQ)).1⟩ ko.ga (findObj_data ko.AW hF hG hT) ko.gt ko.ra ?_
  have F:=Po (pl:=false) (D:=D) (σ:=σ₁) (v:=.ref v) kf kc ko hx (by rcases hi with ⟨a,b⟩ | ⟨a,b⟩ <;> simp [a,b]) h1 h2 h3
  refine F {c with A:=c.A.in1} sc ar m₁ _ _ _ _ ok.in1 (⟨h₀,I.fr,I.nw,I.bl,I.fo⟩) ⟨aj.apart,aj.once,aj.hx⟩ (Nat.succ_pos _) (.cons (.val _) (.cons (.val _) (.cons (.val _) .nil))) fun w aG aB a9 aw ay aA hw=>?_
  refine hw.is ?_
  refine handed_on rfl ?_
  exact k _ aG m₁ aB _ (let ⟨a,J⟩:=aw; ⟨a,J.fr,J.nw,J.bl,J.fo⟩) (aq.mono aA) ⟨ay.apart,ay.once,ay.hx⟩ (fun p hp=>aA p (ak p hp)) (.val _)
end
section
variable {g:Gx} {A:Around} {R:Result→Shared→Prop} {Er:Value→Shared→Prop} {s:Shared}
theorem Pq:Slots.bestBase [.type "tuple"]=pure (.type "tuple"):=by kernel_rfl
theorem A7 (ko:KO g) {h:Heap} (X:g.K.In h):Looks g.M h (Bind.staticBase (.ref 535)) (.type "tuple"):=by
  obtain ⟨oc,od,cd,sl,ho,e1,e2,e3,e4,e5⟩:=ko.cls
  have hc:clsIn g.K 535=some cd:=by unfold clsIn; rw [ho]
  have hm:Looks g.M h (mroOf (.ref 535)) cd.mro:=(looks_clsIn X hc).andThen .now
  have cy:Looks g.M h (classData 535) cd:=looks_clsIn X hc
  have mt:Bind.madeBy (.type "tuple")=pure (some "tuple.__new__"):=PySem.F.called_tuple.made
  intro A Q E s k q
  unfold Bind.staticBase
  refine wpAny_bind (hm A _ E s k ?_)
  rw [e3]
  refine wpAny_bind ?_
  rw [List.forIn_cons]
  refine wpAny_bind (wpAny_bind ((ve ko X) A _ E s k ?_))
  dsimp only [Option.isSome]
  rw [if_neg (by decide)]
  refine wpAny_bind (cy A _ E s k ?_)
  rw [e4,Pq]
  refine wpAny_bind (wpAny_pure (wpAny_pure ?_))
  dsimp only
  rw [List.forIn_cons,mt]
  refine wpAny_bind (wpAny_bind (wpAny_pure ?_))
  dsimp only [Option.isSome]
  rw [if_pos (by decide)]
  exact wpAny_pure (wpAny_pure (wpAny_pure q))
theorem Pt (ko:KO g) {h:Heap} (X:g.K.In h):Looks g.M h (Bind.madeHere "tuple.__new__" (.ref 535)) ():=by
  have mt:Bind.madeBy (.type "tuple")=pure (some "tuple.__new__"):=PySem.F.called_tuple.made
  intro A Q E s k q
  unfold Bind.madeHere
  refine wpAny_bind ?_
  refine (A7 ko X) A _ E s k ?_
  rw [mt]
  refine wpAny_bind (wpAny_pure ?_)
  have c:(Option.map Manifest.canonical (some "tuple.__new__") != some (Manifest.canonical "tuple.__new__"))=false:=by simp
  rw [c,if_neg (by decide)]
  exact wpAny_pure q
theorem Pu:builtinKind "tuple.__new__"=some .builtinFn:=by decide+kernel
theorem Pw:splitId "tuple.__new__"=some ("tuple","__new__"):=by decide+kernel
theorem Px:plainId "tuple.__new__"=true:=by decide+kernel
theorem Py (ko:KO g) {y n f:Addr} {Q:Value→Shared→Prop} (X:g.K.In s.heap) (hy:s.heap.get? y=some (cV [.ref n,.ref f]))
    (hq:∀ h':Heap,(∀ b o',s.heap.get? b=some o'→h'.get? b=some o')→Q (.ref (h'.objs.size+1)) {s with heap:=(h'.push emptyDict).push (dJ n f h'.objs.size)}):
    wpAny g.M A (call (.builtin "tuple.__new__") [.ref 535,.ref y]) Q Er s:=by
  obtain ⟨oc,od,cd,sl,ho,e1,e2,e3,e4,e5⟩:=ko.cls
  obtain ⟨hh,gr,d,tk,os⟩:=s
  have hC:=X _ _ ho
  have sub:=A5 ko X
  have mh:=Pt ko X
  have q0:=looks_findIn (M:=g.M) X ko.q0
  have typ:=looks_instIn (M:=g.M) X ko.typ
  refine wpAny_call (codeAny_call_builtin Px PySem.F.entry_tuple_new ?_)
  have base:=A7 ko X
  have mt:Looks g.M hh (Bind.madeBy (.type "tuple")) (some "tuple.__new__"):=Looks.of_pure PySem.F.called_tuple.made
  have args:Bind.checkArgs "tuple.__new__" ⟨.hand,"tuple.__new__","__new__",.cls,[]⟩ ⟨[.ref 535,.ref y],[]⟩=pure ():=by kernel_rfl
  delta checkBuiltinCall; simp only [Pu,Pw]
  repeat (first | (with_reducible refine wpAny_collect_seq (o:=cV [.ref n,.ref f]) (items:=#[.ref n,.ref f]) (n:=0) y (.inr rfl) ?_ rfl rfl (fun h' hk=>?_) ?_) | lk)
  · exact hy
  · have Pz:=hk _ _ hC
    refine wpAny_bind (wpAny_pure (wpAny_bind (wpAny_alloc ?_)))
    unfold newObj
    dsimp only
    rw [if_neg (by simp [sizeLine])]
    refine wpAny_bind ?_
    unfold newObjAsIs classHasDel
    refine wpAny_bind (wpAny_alloc (wpAny_bind (wpAny_bind (wpAny_load (Heap.get?_push_of_some _ (Heap.get?_push_of_some _ Pz)) (wpAny_pure ?_)))))
    dsimp only
    rw [e2]
    refine wpAny_pure (wpAny_pure ?_)
    have:=hq h' hk
    rw [←Heap.size_push h' emptyDict] at this
    exact this
  · simp [sizeLine]
end
section
variable {g:Gx} {pl:Bool} {D:Nat} {sc:Scope} {E:ag} {σ σ₁ σ₂:Led}
theorem PB (ko:KO g) {n f:Addr}:dW g pl D (.builtin "tuple.__new__") [.val (.ref 535),.tup [.val (.ref n),.val (.ref f)]] σ (fun r U=>∃ x dx,r=.val (.ref x)∧U=(x,dJ n f dx)::(dx,emptyDict)::σ):=by
  intro c sc ι m s vs Q Er ok ⟨h₀,I⟩ ap ht aM k
  refine aM.eN fun ω ω h1 h2=>?_
  refine h1.is ?_
  refine h2.isTup fun ω ω hm hr=>?_
  obtain ⟨_,_,rfl,h3,h4⟩:=hr.two
  obtain ⟨_,rfl⟩:=h3.inv; obtain ⟨_,rfl⟩:=h4.inv
  refine Py ko (ok.kh I) (I.nw _ (List.mem_append_left _ hm)).1 fun h' hk=>?_
  have F':=I.fr.after hk
  have N':News h₀ c.L h' (ι++σ):=fun p hp=>⟨hk _ _ (I.nw p hp).1,(I.nw p hp).2⟩
  have S':St g c (ι++σ) m h':=⟨h₀,F',N',I.bl,I.fo⟩
  obtain ⟨ai,aj⟩:=St.opened (σ:=σ) S' ap emptyDict
  obtain ⟨aw,ay⟩:=St.opened ai aj (dJ n f h'.objs.size)
  rw [Heap.size_push] at aw ay
  exact k _ (.val _) ι _ _ s.toks aw ay (fun ω h=>h) (.val _) ⟨_,_,rfl,rfl⟩
end
section
variable {g:Gx} {pl:Bool} {D:Nat} {sc:Scope} {E:ag} {σ σ₁ σ₂:Led}
theorem A8 {e:Expr} {pos:Pos} {P:AV→ag→Led→Prop} (h:CG g pl D sc E σ (fun c=>eval e (c.env sc)) Rep P):dg g pl D sc E σ (.Return (some e) pos) (fun fl E' U=>∃ a,fl=.ret a∧P a E' U):=by
  refine .mk fun c ι m s Q Er ok S R ap ht k=>?_
  exact wpAny_Return_some (h.on c ι m s _ _ ok S R ap ht fun v a E₁ σ₁ ar m₁ ah ax av ai aq aj ak hv hP=>k (.ret v) (.ret a) E₁ σ₁ ar m₁ ah ax av ai aq aj ak (.ret hv) ⟨a,rfl,hP⟩)
theorem PC (kf:KF g) (kc:KC g) (ko:KO g) {n f:Addr}:gG g pl (D+1) (.ref 485) [.val (.ref 535),.val (.ref n),.val (.ref f)] σ (fun r U=>∃ x dx,r=.val (.ref x)∧U=(x,dJ n f dx)::(dx,emptyDict)::σ):=by
  refine qu (nm:="__new__") (ps:=["_cls","data","flags"]) (rest:=[]) [("_cls",some (.val (.ref 535))),("data",some (.val (.ref n))),("flags",some (.val (.ref f)))] kc.Ai ?_ ?_
  · intro doc pm an bb ct vs hl
    match vs,hl with
    | [a,b,c],_=>rfl
  · refine aZ lr ?_
    refine dX ((A8 (A6 kf.mB (T:="tuple") (by decide+kernel) (by decide+kernel) rfl rfl (by decide+kernel) ko.AS (au aa (au (fm (au aa (au aa aU))) aU)) (PB ko))).mono fun fl E' U h=>?_)
    obtain ⟨a,rfl,rfl,hP⟩:=h
    exact .inl ⟨a,rfl,hP⟩
theorem PD (kf:KF g) (kc:KC g) (ko:KO g) {n f:Addr}:gG g pl (D+3) (.ref 535) [.val (.ref n),.val (.ref f)] σ (fun r U=>∃ x dx,r=.val (.ref x)∧U=(x,dJ n f dx)::(dx,emptyDict)::σ):=by
  intro c sc ι m s vs R ok ⟨h₀,I⟩ ap ht aM k
  refine aM.eN fun ω ω h1 h2=>?_
  refine h1.is ?_; refine h2.is ?_
  refine O3 ko (ok.kh I) ?_
  have hw:(Code.builtin "type.__call__" ⟨[.ref 535,.ref n,.ref f],[]⟩).weight≤2:=Nat.le_of_ble_eq_true (by kernel_rfl)
  have hu:(Code.builtin "type.__call__" ⟨[.ref 535,.ref n,.ref f],[]⟩).cUnits≤20:=Nat.le_of_ble_eq_true (by kernel_rfl)
  have dz:(c.A.under (.builtin "type.__call__" ⟨[.ref 535,.ref n,.ref f],[]⟩)).frames=some (c.env sc::c.outer):=by
    have e:(c.A.under (.builtin "type.__call__" ⟨[.ref 535,.ref n,.ref f],[]⟩)).frames=pushEnvs (Code.builtin "type.__call__" ⟨[.ref 535,.ref n,.ref f],[]⟩).envs c.A.frames:=rfl
    rw [e,ok.fr]
    rfl
  have uI:Cx.Ok g {c with A:=c.A.under (.builtin "type.__call__" ⟨[.ref 535,.ref n,.ref f],[]⟩)} sc false 1:=
    ⟨ok.gd,dz,ok.kind,by have:=ok.dp; show c.A.depth+_+1 < 900; lia,by have:=ok.un; show c.A.units+_+20 * 1 < 9000; lia,ok.hd,ok.he,(fun e=>nomatch e),by
      have e:(c.A.under (.builtin "type.__call__" ⟨[.ref 535,.ref n,.ref f],[]⟩)).guards=pushGuards (Code.builtin "type.__call__" ⟨[.ref 535,.ref n,.ref f],[]⟩).guards c.A.guards:=rfl
      rw [e,ok.gs]
      rfl⟩
  refine PC (pl:=false) (D:=0) (σ:=σ) kf kc ko (n:=n) (f:=f) _ sc ι m _ _ _ uI ⟨h₀,I.fr,I.nw,I.bl,I.fo⟩ ⟨ap.apart,ap.once,ap.hx⟩ (Nat.succ_pos _) (.cons (.val _) (.cons (.val _) (.cons (.val _) .nil))) fun v r ae U h' ao aQ S' aX hs hr hP=>?_
  obtain ⟨x,dx,rfl,rfl⟩:=hP
  refine hr.is ?_
  have ip:St g c (ae++(x,dJ n f dx)::(dx,emptyDict)::σ) m h':=let ⟨a,J⟩:=S'; ⟨a,J.fr,J.nw,J.bl,J.fo⟩
  obtain ⟨eE,I'⟩:=ip
  exact ⟨x,dJ n f dx,rfl,(I'.nw _ (List.mem_append_right _ (.head _))).1,rfl,ok.kh I',k _ (.val (.ref x)) ae _ h' ao aQ ⟨eE,I'⟩ ⟨aX.apart,aX.once,aX.hx⟩ hs (.val _) ⟨x,dx,rfl,rfl⟩⟩
end
end Mine
end
section
open PySem PySem.W PyProof.Rows PySem.Calls
namespace Mine
theorem slot_set_iter:Slot "set" "__iter__" "set.__iter__":=
  .of (owner:="set") (n:="__iter__") (by rw [typeLookup_type,builtinLookup_eq_fast]; kernel_rfl) (by decide+kernel) (by decide+kernel) (by decide+kernel)
    (by first | exact .inl (by decide+kernel) | exact .inr (by decide+kernel)) (by rw [isSubtype_type]; kernel_rfl)
theorem PE:entryFor table "set.__iter__"=some Builtin.«frozenset.__iter__»:=entryFor_alias (id':="frozenset.__iter__") (by kernel_rfl) (by first | rfl | decide+kernel) (by decide+kernel) (by kernel_rfl)
theorem PF (a:Value):argsOk "set.__iter__" ⟨[a],[]⟩:=by unfold argsOk; kernel_rfl
theorem vg:Slot "set_iterator" "__next__" "set_iterator.__next__":=
  .of (owner:="set_iterator") (n:="__next__") (by rw [typeLookup_type,builtinLookup_eq_fast]; kernel_rfl) (by decide+kernel) (by decide+kernel) (by decide+kernel)
    (by first | exact .inl (by decide+kernel) | exact .inr (by decide+kernel)) (by rw [isSubtype_type]; kernel_rfl)
theorem PG:entryFor table "set_iterator.__next__"=some Builtin.«set_iterator.__next__»:=entryFor_of_tree (by kernel_rfl)
theorem PH (a:Value):argsOk "set_iterator.__next__" ⟨[a],[]⟩:=by unfold argsOk; kernel_rfl
noncomputable abbrev vh (f mv:Nat) (led pl:Bool):SetTable:=⟨7,#[],#[],f,led,mv,pl⟩
noncomputable abbrev fh (n f mv:Nat) (led pl:Bool):Obj:={cls:=.type "set",dict:=none,data:=.set #[] n (vh f mv led pl)}
section
variable {prog:Program} {w:World} {A:Around} {E:Value→Shared→Prop} {s:Shared}
theorem jP {a:Addr} {n f mv:Nat} {led pl:Bool} {Q:Array (Int×Value)×Nat×SetTable→Shared→Prop} (ho:s.heap.get? a=some (fh n f mv led pl)) (hq:Q (#[],n,vh f mv led pl) s):wpAny (model prog w) A (setState a) Q E s:=by
  unfold setState
  refine wpAny_bind (wpAny_load ho ?_)
  dsimp only
  rw [if_neg (by simp [SetTable.fill])]
  exact wpAny_pure hq
theorem PI {a:Addr} {n f mv:Nat} {led pl:Bool} {Q:Value→Shared→Prop} (ho:s.heap.get? a=some (fh n f mv led pl))
    (hq:Q (.ref s.heap.objs.size) {s with heap:=s.heap.push {cls:=.type "set_iterator",data:=.fields #[.int 0 0,.int 0 0,.ref a,.int 0 0,.int n 0]}}):wpAny (model prog w) A (pyIter (.ref a)) Q E s:=by
  have hT:s.TypeIs (.ref a) "set":=⟨_,ho,rfl⟩
  refine wpAny_pyIter_slot hT slot_set_iter (wpAny_call_entry slot_set_iter hT PE ?_ (PF _))
  unfold Builtin.«frozenset.__iter__» Builtin.Frozenset.slot0 slotArgs
  refine wpAny_bind (wpAny_bind (wpAny_pure ?_))
  unfold Builtin.Frozenset.addrOf Builtin.Frozenset.sizeOf setEntries setDrawn setEpoch setsByText
  refine wpAny_pure ?_
  refine wpAny_bind (wpAny_bind (wpAny_bind (jP ho (wpAny_pure (wpAny_pure ?_)))))
  refine wpAny_bind (wpAny_bind (jP ho ?_))
  refine wpAny_bind (wpAny_bind ?_)
  have iE:∀ {Q':Setting→Shared→Prop} {A':Around} {E':Value→Shared→Prop} {s':Shared},Q' ⟨prog,w.params⟩ s'→wpAny (model prog w) A' ask Q' E' s':=fun h=>fun ω ω ω=>h
  refine iE (wpAny_pure (wpAny_pure ?_))
  have o7:∀ b:Bool,(!b&&(!pl&&decide ((#[]:Array (Int×Value)).size > 1)))=false:=by intro b; cases b <;> cases pl <;> rfl
  dsimp only
  refine wpAny_ite_false (decide_eq_false fun h=>Bool.false_ne_true ((o7 (w.params.followText "set-order")).symm.trans h)) ?_
  refine wpAny_bind (wpAny_pure ?_)
  refine wpAny_bind (wpAny_bind (jP ho (wpAny_pure ?_)))
  unfold newFields
  refine wpAny_bind (wpAny_newObj_type (wpAny_pure ?_) (by size_fits))
  exact ⟨_,rfl,"set_iterator",_,⟨_,Heap.get?_push_size _ rfl,rfl⟩,vg.lookup,hq⟩
theorem PJ {a I:Addr} {n f mv:Nat} {led pl:Bool} {Q:Option Value→Shared→Prop} (hh:A.handled=none) (ho:s.heap.get? a=some (fh n f mv led pl)) (hI:s.heap.get? I=some {cls:=.type "set_iterator",data:=.fields #[.int 0 0,.int 0 0,.ref a,.int 0 0,.int n 0]})
    (hq:∀ h',Heap.ExtBut I s.heap h'→Q none {s with heap:=h'}):wpAny (model prog w) A (pyNext (.ref I)) Q E s:=by
  have hT:s.TypeIs (.ref I) "set_iterator":=⟨_,hI,rfl⟩
  unfold pyNext
  refine wpAny_bind (wpAny_attempt (wpAny_callSpecial?_slot (name:=Str.ofString "__next__") hT vg (wpAny_call_entry vg hT PG ?_ (PH _))))
  unfold Builtin.«set_iterator.__next__» slotArgs
  refine wpAny_bind (wpAny_pure (wpAny_bind (wpAny_fieldsOf hI rfl ?_)))
  dsimp only
  unfold setEntries
  refine wpAny_bind (wpAny_bind (jP ho (wpAny_pure ?_)))
  rw [if_neg (by simp)]
  refine wpAny_bind ?_
  have iE:∀ {Q':Setting→Shared→Prop} {A':Around} {E':Value→Shared→Prop} {s':Shared},Q' ⟨prog,w.params⟩ s'→wpAny (model prog w) A' ask Q' E' s':=fun h=>fun ω ω ω=>h
  have fin:wpAny (model prog w) A.in1 (do
          setField (Value.ref I) 2 Value.none
          let e ←newExc (Value.type "StopIteration") []
          raiseNew e)
        (fun fin s'=>∃ v,fin=Fin.done (Flow.ret v)∧wpAny (model prog w) A (pure (some v)) Q E s')
        (fun e s'=>wpAny (model prog w) A (do
              let b ←isInstance e (Value.type "StopIteration")
              if b=true then pure none else throw e) Q E s') s:=by
    refine wpAny_bind (wpAny_setField hI rfl (by simp) ?_)
    refine wpAny_bind ?_
    simp only [newExc,newTuple]
    refine wpAny_bind (wpAny_newObj_type ?_ (by size_fits))
    refine wpAny_bind (m:=firstArgMember _ _) (wpAny_of_eq (a:=Value.none) (by first | rfl | (simp only [firstArgMember]; rfl)) ?_)
    refine wpAny_newObj_type ?_ (by size_fits)
    delta raiseNew; dsimp only
    refine wpAny_bind (wpAny_handled ?_)
    rw [show A.in1.handled=none from hh]
    refine wpAny_bind (wpAny_pure (wpAny_throw ?_))
    refine wpAny_bind (wpAny_isInstance (T:="StopIteration") (b:=true) ⟨_,Heap.get?_push_size _ rfl,rfl⟩ isSubtype_stop ?_)
    exact wpAny_pure (hq _ (((Heap.SameBut.update ..).extBut.push _).push _))
  unfold setNext setsByText
  refine wpAny_bind (jP ho ?_)
  dsimp only
  refine wpAny_bind (wpAny_bind (iE (wpAny_pure ?_)))
  dsimp only
  cases hf:w.params.followText "set-order" with
  | true=>
    rw [if_pos rfl,if_neg (by simp)]
    refine wpAny_bind ?_
    unfold setWalk setsByText
    refine wpAny_bind (jP ho ?_)
    dsimp only
    refine wpAny_bind (wpAny_bind (iE (wpAny_pure ?_)))
    dsimp only
    rw [hf,if_pos rfl]
    exact wpAny_bind (iE (wpAny_pure (wpAny_pure fin)))
  | false=>
    rw [if_neg (by decide)]
    have o7:(!pl&&decide ((#[]:Array (Int×Value)).size > 1))=false:=by cases pl <;> rfl
    refine wpAny_ite_false (decide_eq_false fun h=>Bool.false_ne_true (o7.symm.trans h)) ?_
    have vi:(!led&&!(#[]:Array (Int×Value)).isEmpty)=false:=by cases led <;> rfl
    refine wpAny_bind (wpAny_ite_false (decide_eq_false fun h=>Bool.false_ne_true (vi.symm.trans h)) (wpAny_pure ?_))
    exact wpAny_pure fin
end
set_option genInjectivity false in
structure fK where
  x:Addr
  n:Addr
  f:Addr
  dx:Addr
  dn:Addr
  df:Addr
  dN:Addr
  dF:Addr
  sp:Addr
  t:Tok
  tf:Tok
  tp:Tok
noncomputable abbrev fK.mU (a:fK):List Addr:=[a.x,a.dx,a.n,a.dn,a.f,a.df,a.sp]
structure iY (g:Gx) (σ:Led) (a:fK):Prop where
  ob:(a.x,dJ a.n a.f a.dx)∈σ
  di:(a.dx,emptyDict)∈σ
  nd:Inst σ a.n 463 a.dn [ent g "dict" a.t (.ref a.dN)] 1
  fl:Inst σ a.f 427 a.df [ent g "_flags" a.tf (.ref a.dF),ent g "_pending_flags" a.tp (.ref a.sp)] 2
  pd:∃ k f mv led pl,(a.sp,fh k f mv led pl)∈σ
structure d8 (g:Gx) (σ:Led) (a:fK) (names:List (List Nat)) (F1 F2:List Addr):Prop where
  st:iY g σ a
  ch:dk g σ a.dN names F1
  fc:eG g σ a.dF names F2
  off:∀ b∈a.mU,b∉F1∧b∉F2
  apart:∀ b∈F1,b∉F2
section
variable {g:Gx} {σ U σ₁ σ₂:Led}
theorem eG.head:∀ {ns:List (List Nat)} {d:Addr} {F:List Addr},eG g σ d ns F→d∈F
  | [],d,F,h=>by obtain ⟨rfl,_⟩:=h; exact .head _
  | n::ns,d,F,h=>by obtain ⟨o,e,s1,s2,d1,F1,rfl,_⟩:=h; exact .head _
theorem iY.mono {a:fK} (s:iY g σ a) (h:∀ p∈σ,p.1∈a.mU→p∈U):iY g U a:=
  ⟨h _ s.ob (by simp),h _ s.di (by simp),⟨h _ s.nd.ob (by simp),h _ s.nd.di (by simp)⟩,⟨h _ s.fl.ob (by simp),h _ s.fl.di (by simp)⟩,let ⟨k,f,mv,led,pl,a1⟩:=s.pd; ⟨k,f,mv,led,pl,h _ a1 (by simp)⟩⟩
theorem iY.there {a:fK} (s:iY g σ a):∀ b∈a.mU,∃ o,(b,o)∈σ:=by
  intro b hb
  simp only [List.mem_cons,List.not_mem_nil,or_false] at hb
  rcases hb with rfl | rfl | rfl | rfl | rfl | rfl | rfl
  · exact ⟨_,s.ob⟩
  · exact ⟨_,s.di⟩
  · exact ⟨_,s.nd.ob⟩
  · exact ⟨_,s.nd.di⟩
  · exact ⟨_,s.fl.ob⟩
  · exact ⟨_,s.fl.di⟩
  · obtain ⟨k,f,mv,led,pl,h⟩:=s.pd; exact ⟨_,h⟩
theorem d8.done {a:fK} {names key:List (List Nat)} {F1 F2:List Addr} (O:d8 g σ a names F1 F2) (h1:cM g names F2 a.dF key σ σ₁) (h2:Fin g names F1 a.dN key σ₁ σ₂):
    iY g σ₂ a∧f5 g σ₂ a.dN (bS names key)∧(names=[]→∃ lN kP,d8 g σ₂ a key lN kP)∧∀ p∈σ,p.1∉F1→p.1∉F2→p∈σ₂:=by
  have k1:∀ p∈σ,p.1∈a.mU→p∈σ₁:=fun p hp hb=>h1.1 p hp (O.off _ hb).2
  have k2:∀ p∈σ,p.1∈a.mU→p∈σ₂:=fun p hp hb=>h2.2.1 p (k1 p hp hb) (O.off _ hb).1
  have s2:=O.st.mono k2
  refine ⟨s2,h2.1,fun e=>?_,fun p hp n1 n2=>h2.2.1 p (h1.1 p hp n2) n1⟩
  obtain ⟨kP,c2,f2⟩:=h1.2 e
  obtain ⟨lN,c1,f1⟩:=h2.2.2 e
  have PK:∀ b∈F1,∃ o,(b,o)∈σ:=fun b hb=>O.ch.there b hb
  have A9:∀ b∈F1,b∉kP:=fun b hb hm=>by
    rcases f2 b hm with rfl | q
    · exact O.apart _ hb O.fc.head
    · obtain ⟨o,ho⟩:=PK b hb
      exact q _ ho rfl
  refine ⟨lN,kP,s2,c1,c2.mono fun p hp hF=>h2.2.1 p hp fun q=>A9 _ q hF,fun b hb=>⟨fun hm=>?_,fun hm=>?_⟩,fun b hb hm=>?_⟩
  · obtain ⟨o,ho⟩:=O.st.there b hb
    rcases f1 b hm with rfl | q
    · exact (O.off _ hb).1 O.ch.head
    · exact q _ (k1 _ ho hb) rfl
  · obtain ⟨o,ho⟩:=O.st.there b hb
    rcases f2 b hm with rfl | q
    · exact (O.off _ hb).2 O.fc.head
    · exact q _ ho rfl
  · rcases f1 b hb with rfl | q
    · exact A9 _ O.ch.head hm
    · obtain ⟨o,ho⟩:=c2.there b hm
      exact q _ ho rfl
end
section
variable {g:Gx} {pl:Bool} {D:Nat} {sc:Scope} {E E' E₁ aO:ag} {σ U σ₁ σ₂ aN:Led}
theorem PL {e:Expr} {pos:Pos} {name:Str} {C:Addr} {v:Value} (he:Ev g pl D sc E σ e (.val (.ref C)) σ₁) (mW:typeIn g.K (.ref C)=some (.type "type")) (hr:readsIn g.K C (.type "type")=true) (hc:findCls g.K (.ref C) (.type "type") name=some (.val v)) (hh:handedIn v=true)
    {a:AV} (vf:∀ ι,Rep ι v a)
    (hm:autoParam (∀ env,eval (.Attribute e name pos) env=(do
      let o ←eval e env
      standAt pos.atName
      let r ←holding [o] (getAttr o name true)
      letTemporaryGo e o r
      pure r)) aI):Ev g pl D sc E σ (.Attribute e name pos) a σ₁:=by
  refine Comes.of fun c ι m s Q Er ok S R ap ht k=>?_
  refine Attribute_any_ (he.on c ι m s _ _ ok S R ap ht fun u ar m₁ ah ax av ai aq aj ak hu=>?_) (hm _)
  refine hu.is ?_
  obtain ⟨h₀,I⟩:=ai
  exact cls_val (s:={s with heap:=ah,toks:=ax}) I.fr (ok.kx I) mW hr hc hh (k _ ar m₁ ah _ ⟨h₀,I⟩ aq aj ak (vf _))
theorem Ba {x:Str} {p pos:Pos} {f:Addr} {P:AV→Led→Prop} (e0:nsIn g.K mainGlobals x=some (some (.ref f))) (hk:keepIn g.K (.ref f)=true) (cP:dW g pl D (.ref f) [] σ P)
    (hn:autoParam (sc.names.lookup x=some .globalImplicit) aK) (hd:autoParam ((x==("__debug__":Str))=false) aK):
    CG g pl D sc E σ (fun c=>eval (.Call (.Name x p) [] [] pos) (c.env sc)) Rep (fun a E' U=>E'=E∧P a U):=by
  refine .mk fun c ι m s Q Er ok S R' ap ht k=>?_
  refine wpAny_Call_NameR ((cH e0 hn hd).on c ι m s _ _ ok S R' ap ht fun v ar m₁ ah ax av ai aq aj ak hv=>?_)
  refine hv.is ?_
  obtain ⟨h₀,dR⟩:=ai
  refine callWith_K0 (ok.kh dR) hk ?_
  refine wpAny_with_toks (n:=1) av (cP c sc ar m₁ _ _ _ _ ok ⟨h₀,dR⟩ aj av .nil fun v r br aN bu bx bj bp bo b8 hP=>fun et=>?_)
  exact k v r E aN br m₁ bu bx et bj (aq.mono bo) bp (fun p hp=>bo p (ak p hp)) b8 ⟨rfl,hP⟩
end
section
variable {prog:Program} {w:World} {A:Around} {E:Value→Shared→Prop} {s:Shared}
theorem PM {a:Addr} {n f mv:Nat} {led pl:Bool} {Q:Array (Int×Value)→Shared→Prop} (ho:s.heap.get? a=some (fh n f mv led pl)) (hq:Q #[] s):wpAny (model prog w) A (setWalk a) Q E s:=by
  have iE:∀ {Q':Setting→Shared→Prop} {A':Around} {E':Value→Shared→Prop} {s':Shared},Q' ⟨prog,w.params⟩ s'→wpAny (model prog w) A' ask Q' E' s':=fun h=>fun ω ω ω=>h
  unfold setWalk setsByText
  refine wpAny_bind (jP ho ?_)
  dsimp only
  refine wpAny_bind (wpAny_bind (iE (wpAny_pure ?_)))
  dsimp only
  cases hf:w.params.followText "set-order" with
  | true=>
    rw [if_pos rfl]
    exact wpAny_bind (iE (wpAny_pure hq))
  | false=>
    rw [if_neg (by decide)]
    have o7:(!pl&&decide ((#[]:Array (Int×Value)).size > 1))=false:=by cases pl <;> rfl
    refine wpAny_ite_false (decide_eq_false fun h=>Bool.false_ne_true (o7.symm.trans h)) ?_
    have vi:(!led&&decide ((#[]:Array (Int×Value)).size > 1))=false:=by cases led <;> rfl
    exact wpAny_bind (wpAny_ite_false (decide_eq_false fun h=>Bool.false_ne_true (vi.symm.trans h)) (wpAny_pure (wpAny_pure hq)))
theorem PN {a:Addr} {n f mv:Nat} {led pl:Bool} {Q:Value→Shared→Prop} (ho:s.heap.get? a=some (fh n f mv led pl))
    (hq:∀ h' n' f' o8 o9 dK,h'.get? a=some (fh n' f' o8 o9 dK)→Heap.SameBut a s.heap h'→Q .none {s with heap:=h'}):wpAny (model prog w) A (call (.builtin "set.clear") [.ref a]) Q E s:=by
  have iE:∀ {Q':Setting→Shared→Prop} {A':Around} {E':Value→Shared→Prop} {s':Shared},Q' ⟨prog,w.params⟩ s'→wpAny (model prog w) A' ask Q' E' s':=fun h=>fun ω ω ω=>h
  have hT:s.TypeIs (.ref a) "set":=⟨_,ho,rfl⟩
  refine wpAny_call_entry F.slot_set_clear hT F.entry_set_clear ?_ (F.args_set_clear_1 _)
  unfold Builtin.«set.clear» Builtin.Frozenset.noArgs Builtin.Frozenset.clearAll
  simp only [List.isEmpty_nil]
  refine wpAny_bind ?_
  unfold Builtin.Frozenset.addrOf
  refine wpAny_pure (wpAny_bind (wpAny_bind ?_))
  unfold setClear setDeathsKnown setsByText setItems
  refine wpAny_bind (wpAny_bind (jP ho ?_))
  dsimp only
  refine wpAny_bind (wpAny_bind (iE (wpAny_pure ?_)))
  have hk:(w.params.followText "set-order"||(led&&pl)||decide ((#[]:Array (Int×Value)).size≤1))=true:=by simp
  dsimp only
  refine wpAny_pure ?_
  rw [if_pos hk]
  refine wpAny_bind (wpAny_bind (PM ho (wpAny_pure ?_)))
  refine wpAny_bind (wpAny_pure (wpAny_bind (jP ho ?_)))
  dsimp only
  refine wpAny_bind (wpAny_bind (iE (wpAny_pure ?_)))
  refine wpAny_bind ?_
  unfold storeSet
  refine wpAny_bind (wpAny_load ho ?_)
  dsimp only
  rw [if_neg (by simp)]
  refine wpAny_update ho (wpAny_pure ?_)
  refine wpAny_pure ?_
  refine wpAny_pure ⟨_,rfl,?_⟩
  exact hq _ (n+1) f ((vh f mv led pl).movedTo 7) (!w.params.followText "set-order"&&(led||f==0)) (pl||f==0) (Heap.get?_update_self (Obj.putSet #[] _) ho rfl) (Heap.SameBut.update ..)
end
section
variable {g:Gx} {pl:Bool} {D:Nat} {sc:Scope} {E E' E₁ aO:ag} {σ U σ₁ σ₂ aN:Led}
theorem PO {target iter:Expr} {body:List Stmt} {pos:Pos} {a:Addr} {n f mv:Nat} {led dK:Bool} (hi:Ev g true D sc E σ iter (.val (.ref a)) σ₁) (ha:(a,fh n f mv led dK)∈σ₁) (hs:autoParam (∀ env v,foldedSetIterable iter env v=pure v) aJ):Ex g true D sc E σ (.For target iter body [] pos) .next E σ₁:=by
  refine Comes.of fun c ι m s Q Er ok S R ap ht k=>?_
  refine wpAny_For (hi.on c ι m s _ _ ok S R ap ht fun v ar m₁ ah ax av ai aq aj ak hv=>?_) (hs _)
  refine hv.is ?_
  obtain ⟨h₀,I⟩:=ai
  have hg:=(I.nw _ (List.mem_append_right _ ha)).1
  refine PI hg ?_
  have aT:a≠ah.objs.size:=Nat.ne_of_lt (Heap.lt_size hg)
  refine codeAny_forLoop_any (fun n s'=>n=0∧s'=_) (fun n s' bk=>?_) 0 ⟨rfl,rfl⟩
  obtain ⟨rfl,rfl⟩:=bk
  refine PJ (A:=c.A) ok.hn (Heap.get?_push_of_some _ hg) (Heap.get?_push_size _ rfl) fun h' hx=>?_
  refine wpAny_execs_nil ?_
  have keep:∀ b o,ah.get? b=some o→h'.get? b=some o:=fun b o e=>hx b o (Nat.ne_of_lt (Heap.lt_size e)) (Heap.get?_push_of_some _ e)
  exact k _ ar m₁ h' ax (I.to (I.fr.after keep) fun p hp=>⟨keep _ _ (I.nw p hp).1,(I.nw p hp).2⟩) aq aj ak .next
theorem PQ {so:Expr} {apos cu pos:Pos} {a:Addr} {n f mv:Nat} {led dK:Bool} (hs:Ev g pl D sc E σ so (.val (.ref a)) σ₁) (ha:(a,fh n f mv led dK)∈σ₁)
    (fJ:autoParam (∀ env,∃ pl,eval (.Call (.Attribute so "clear" apos) [] [] cu) env=(do
      let ov ←eval so env
      standAt apos.atName
      let (f,first) ←holding [ov] (getMethod ov "clear" pl)
      callWith cu f first (backTo cu (starEach [] env)) [])) aE)
    (hi:autoParam (∀ (c:Cx),interactive (c.env sc)=false) aI) (eT:autoParam (∀ env,swapsWith (.Call (.Attribute so "clear" apos) [] [] cu) none pos.line env=pure false) aI):
    dg g pl D sc E σ (.Expr (.Call (.Attribute so "clear" apos) [] [] cu) pos) (fun fl E' U=>fl=.next∧E'=E∧∃ n f mv led pl,U=putL σ₁ a (fh n f mv led pl)):=by
  refine .mk fun c ι m s Q Er ok Ss R ap aQ kk=>?_
  refine wpAny_Expr ?_ (hi c) (eT _)
  obtain ⟨PR,fJ⟩:=fJ (c.env sc)
  refine MethodCall_ (hs.on c ι m s _ _ ok Ss R ap aQ fun v ar m₁ ah ax av ai aq aj ak hv=>?_) fJ
  refine hv.is ?_
  have iw:ah.get? a=some (fh n f mv led dK):=by obtain ⟨h₀,I⟩:=ai; exact (I.nw _ (List.mem_append_right _ ha)).1
  refine getMethod_builtin (s:={s with heap:=ah,toks:=ax}) ⟨_,iw,rfl⟩ F.plainAttrs_set F.slot_set_clear F.type_set_clear ?_ ?_
  · intro b e
    cases e
    exact ⟨_,iw,rfl⟩
  refine callWith_method0 (PN (s:={s with heap:=ah,toks:=ax}) iw fun h' n' f' o8 o9 dK gK fe=>?_)
  exact kk .next .next E _ ar m₁ h' _ av (ai.put aj ha fe gK) aq aj.put ak .next ⟨rfl,rfl,n',f',o8,o9,dK,rfl⟩
theorem PS (kf:KF g) (kc:KC g) {x dx sp:Addr} {es:List DictEntry} {k n f mv:Nat} {led pl:Bool} (i:Inst σ x 427 dx es k) (hl:getL "_pending_flags" es=some (some (.ref sp))) (hp:(sp,fh n f mv led pl)∈σ):
    dW g true (D+1) (.ref 403) [.val (.ref x)] σ (fun r U=>r=.none∧∃ n f mv led pl,U=putL σ sp (fh n f mv led pl)):=by
  refine (ei.toG (om (P:=fun r U=>r=.none∧∃ n f mv led pl,U=putL σ sp (fh n f mv led pl)) (kn:=[]) (ks:=[]) (as:=[.val (.ref x)]) (bs:=[.val (.ref x)]) (ps:=["self"]) (rest:=["key","flag"]) [("self",some (.val (.ref x))),("key",none),("flag",none)] kc.Ae ?_ ?_))
  · intro doc pm an bb ct
    refine Binds.plain fun ι vs ws hv hw=>⟨vs,hv,?_⟩
    refine hv.dS fun a ω=>?_
    cases hw
    rfl
  · refine aZ (PO (mM aa i (kc.iX _) kc.lG kc.uM rfl hl rfl) hp) ?_
    refine dX ((PQ (mM aa i (kc.iX _) kc.lG kc.uM rfl hl rfl) hp).mono fun fl E' U h=>?_)
    obtain ⟨rfl,rfl,h⟩:=h
    exact .inr ⟨rfl,rfl,h⟩
end
section
variable {g:Gx} {pl:Bool} {D:Nat} {sc:Scope} {E E' E₁ aO:ag} {σ U σ₁ σ₂ aN:Led}
theorem PT {l:List Nat} {c n:Nat} (h:l[n]?=some c):Txt.startswith3 (S l) (S [c]) (n:Int)=true:=by
  have hn:n < l.length:=(List.getElem?_eq_some_iff.mp h).1
  unfold Txt.startswith3 Builtin.Str.subAt
  have e:fromIndex (S l).length (n:Int)=n:=by unfold fromIndex; rw [if_neg (by lia)]; lia
  rw [e]
  have e2:(S l).cps.extract n (n+(S [c]).length)=#[c]:=by
    apply Array.ext'
    rw [bD]
    simp [List.drop_eq_getElem_cons hn,(List.getElem?_eq_some_iff.mp h).2]
  rw [e2,bD,bD]
  have:decide (n+[c].length≤l.length)=true:=by simp; lia
  rw [this,Bool.true_and]
  rw [beq_iff_eq]
theorem rf (kf:KF g) (ko:KO g) {p pos:Pos} {name:Str} {i:Int} (h:∃ t,findCls g.K (.ref 427) (.type "type") name=some (.val (.int i t))) (hk:autoParam (sc.names.lookup ("Flags":Str)=some .globalImplicit) aK)
    (hm:autoParam (∀ env,eval (.Attribute (.Name "Flags" p) name pos) env=(do
      let o ←eval (.Name "Flags" p) env
      standAt pos.atName
      let r ←holding [o] (getAttr o name true)
      letTemporaryGo (.Name "Flags" p) o r
      pure r)) aI):Ev g pl D sc E σ (.Attribute (.Name "Flags" p) name pos) (.int i) σ:=by
  obtain ⟨t,ht⟩:=h
  exact PL (cH kf.tG hk (by kernel_rfl)) ko.oO ko.A0 ht rfl (fun ω=>.int _ _) hm
theorem Bb (kf:KF g) (sf:SF g) (kc:KC g) (ko:KO g) {f:Str→Option Value} (hM:(353,f)∈g.eK) (hf:fG f) {l:List Nat} {xs names:List (List Nat)} {k n e:Nat} {a:fK} {F1 F2:List Addr} (hl:l.length≤100000) (gw:xs.length≤1000)
    (he:l[k+1]?=some e) (hw:eo.contains e=false) (h:kC l (k+1) xs n) (hn:l[n]?=some 93) (O:d8 g σ a names F1 F2) (aT:names≠xs):
    dW g true (D+10) (.ref 573) [T l,.int k,.val (.ref a.x)] σ (fun r U=>r=.tup [.int ((n+1:Nat):Int),.tup (xs.map T)]∧iY g U a∧f5 g U a.dN (bS names xs)∧(names=[]→∃ lN kP,d8 g U a xs lN kP)∧∀ p∈σ,p.1∉F1→p.1∉F2→p∈U):=by
  have pa:xs≠[]:=by obtain ⟨⟩:=h; simp
  refine t4 (ps:=["src","pos","out"]) (rest:=["key"]) [("src",some (T l)),("pos",some (.int k)),("out",some (.val (.ref a.x))),("key",none)] kf.ti ?_ ?_
  · intro doc pm an bb ct vs hl
    obtain ⟨v,u,w,rfl⟩:=nW hl
    rfl
  refine aZ (fB (bE (n:=1)) iR) ?_
  refine aZ (ba (cj kf.ie kf.ib (au aa (au aa (au (cH kf.iN) aU))) (jD kf sf.ws ⟨Nat.le_refl _,fun j h1 h2=>absurd h2 (by lia)⟩ he hw hl))) ?_
  refine aZ (mC (cj kf.qh kf.qe (au aa (au aa aU)) (uk kf sf hM hf hl gw h))) ?_
  refine nJ (cE (iL (b:=false) (or_cons (b:=false) (dw (rb (qR (lM kf kc ko aa O.st.ob O.st.di (.inr ⟨rfl,rfl⟩) ko.fFlags ko.mR ko.mS ko.mT) O.st.fl (kc.iX _) kc.qO kc.qP rfl ko.q9 (au aa (au (rf kf ko ko.q8) aU))
    ((u4 kf kc O.st.fl rfl O.fc pa (by lia)).toG ⟨by simp [aT],rfl⟩)) fun ω ω h=>h) (.bool _)) fun ω=>qm (dw (rb (qR (lM kf kc ko aa O.st.ob O.st.di (.inr ⟨rfl,rfl⟩) ko.fFlags ko.mR ko.mS ko.mT) O.st.fl (kc.iX _) kc.qO kc.qP rfl ko.q9 (au aa (au (rf kf ko ko.A1) aU))
    ((u4 kf kc O.st.fl rfl O.fc pa (by lia)).toG ⟨by simp [aT],rfl⟩)) fun ω ω h=>h) (.bool _)))) bh) ?_
  refine cJ (P₁:=fun fl E' σ₁=>fl=.next∧E'=([("src",some (T l)),("pos",some (.int n)),("out",some (.val (.ref a.x))),("key",some (.tup (xs.map T)))]:ag)∧cM g names F2 a.dF xs σ σ₁∧bY σ₁)
    ((va (O0 (lM kf kc ko aa O.st.ob O.st.di (.inr ⟨rfl,rfl⟩) ko.fFlags ko.mR ko.mS ko.mT) O.st.fl (kc.iX _) kc.Aq kc.Au rfl ko.A2 (au aa (au (rf kf ko ko.q8) aU)) (qz iJ ug)
      (OX kf kc O.st.fl rfl O.fc pa (by lia)))).mono fun fl E' U h=>?_) ?_
  · obtain ⟨rfl,r,rfl,rfl,h1,h2⟩:=h
    exact ⟨rfl,rfl,h1,h2⟩
  rintro _ _ σ₁ ⟨rfl,rfl,hF,gb⟩
  have k1:∀ p∈σ,p.1∈a.mU→p∈σ₁:=fun p hp hb=>hF.1 p hp (O.off _ hb).2
  have rg:=O.st.mono k1
  have rh:dk g σ₁ a.dN names F1:=O.ch.mono fun p hp hm=>hF.1 p hp (O.apart _ hm)
  refine cJ (P₁:=fun fl E' σ₂=>fl=.next∧E'=([("src",some (T l)),("pos",some (.int n)),("out",some (.val (.ref a.x))),("key",some (.tup (xs.map T)))]:ag)∧Fin g names F1 a.dN xs σ₁ σ₂)
    (qo (dX ((va (qR (lM kf kc ko aa rg.ob rg.di (.inl ⟨rfl,rfl⟩) ko.fData ko.vb ko.vc ko.vd) rg.nd (kc.qN _) kc.As kc.Aw rfl ko.A4 (au aa aU)
      (OD kf kc rg.nd rh))).mono fun fl E' U h=>?_))) ?_
  · obtain ⟨rfl,r,rfl,_,h1,h2⟩:=h
    exact ⟨rfl,rfl,h1⟩
  rintro _ _ σ₂ ⟨rfl,rfl,hD⟩
  refine aZ (cE (jn (b:=true) (dw (jm aa sW (au (bK (l:=[93])) (au aa aU)) (by have:=KX (g:=g) (pl:=true) (D:=D+9) (σ:=σ₂) (x:=S l) (y:=S [93]) (i:=(n:Int)); rw [PT hn] at this; exact this)) (.bool _))) bh) ?_
  exact bC (bO (cb (fm (au (bP aa (bE (n:=1)) kr) (au aa aU))))) (.inl ⟨_,rfl,rfl,O.done hF hD⟩)
end
section
variable {g:Gx} {pl:Bool} {D:Nat} {sc:Scope} {E E' E₁ aO:ag} {σ U σ₁ σ₂ aN:Led}
noncomputable abbrev Bc (name qual:Str) (params:Arguments) (body:List Stmt) (scope:Scope) (pm:Value) (c':Addr) (doc d9:Value):FuncData:=fnX name qual params body scope [] .none .none doc pm none (.ref c') d9
noncomputable abbrev pb (name qual:Str) (params:Arguments) (body:List Stmt) (scope:Scope) (pm:Value) (c':Addr) (doc d9:Value):Obj:={cls:=.type "function",data:=.func (Bc name qual params body scope pm c' doc d9)}
theorem PU {c:Cx} {ι:Led} {m:Str→Option Value} {s:Shared} {Q:Flow→Shared→Prop} {Er:Value→Shared→Prop} {name:Str} {params:Arguments} {body:List Stmt} {scope:Scope} {pos:Pos} {cc Pl:Addr} {tb:Obj} {ps:Array Value} {qual:Str}
    (ok:c.Ok g sc pl D) (S:St g c (ι++σ) m s.heap) (ap:Ap c ι σ) (cy:c.cd=.ref cc) (hP:(Pl,tb)∈σ) (fL:tb=tabObj ps) (PW:∃ o vs file tf flags tg kJ text tt,g.K.lookup cc=some o∧o.cls=.type "code"∧vs[11]?=some (.ref Pl)∧o.data=.fields vs∧vs.getD 11 .none=.ref Pl∧vs.getD 18 .none=.str file tf∧
      vs.getD 7 .none=.int flags tg∧vs.getD 9 .none=.bool kJ∧vs.getD 10 .none=.int text tt) (PY:TriplesOk ps.toList) (aT:cc≠Pl) (n7:codeAmong pos ps.toList=none) (PZ:mainGlobals≠Pl)
    (mH:params.kwonlyargs=[]) (kI:params.kw_defaults=[]) (P0:params.defaults=[]) (P4:∀ env,annTrees params none env=[]) (vj:∀ x∈scope.names,x.2≠.free) (hk:sc.names.lookup name=some .local) (hq:qualnameIn (c.env sc) name name=qual)
    (k:∀ F c' d9 co vs t more doc pm h' ao,co.data=.fields vs→vs[1]?=some (.str qual t)→St g c (ι++((F,pb name qual params body scope pm c' doc d9)::(c',co)::putL σ Pl (tabObj more))) (fun y=>if y=name then some (.ref F) else m y) h'→
      Ap c ι ((F,pb name qual params body scope pm c' doc d9)::(c',co)::putL σ Pl (tabObj more))→0 < ao→Q .next {s with heap:=h',toks:=ao}):
    wpAny g.M c.A (exec (.FunctionDef name params body [] none [] scope none name pos) (c.env sc)) Q Er s:=by
  obtain ⟨h₀,I⟩:=S
  have T:=ok.tp I
  have kh:=ok.kh I
  have lQ:=(I.nw _ (List.mem_append_right _ hP))
  obtain ⟨o,vs,file,tf,flags,tg,kJ,text,tt,c1,c8,c9,c2,c3,c4,c5,c6,c7⟩:=PW
  subst fL
  have oG:CodeHd s.heap cc Pl:=⟨o,vs,file,tf,flags,tg,kJ,text,tt,kh _ _ c1,c8,c2,c9,c3,c4,c5,c6,c7,aT⟩
  obtain ⟨bm,ob,b1,b2,b3,b4,b5,b6⟩:=T.bmain
  have hg:s.heap.Ns mainGlobals g.mg:=T.g.keeps I.fr.keep
  have hb:s.heap.BuiltinsAt g.mg Pl:=by
    refine ⟨bm,ob,b1,b2,fun q=>?_,fun q=>?_,I.fr.keep _ _ b3,b4,b5,b6⟩
    · obtain ⟨on,es,ep,n1,n2,_⟩:=T.g
      rw [q,n1] at b3
      cases b3
      rw [b6] at n2
      cases n2
    · rw [q,lQ.2.2] at b3; cases b3
  rw [exec_def,hq,defaultsOf_eq,kI,P0,P4]
  refine wpAny_bind (wpAny_standAt (wpAny_bind (wpAny_holding ?_)))
  refine wpAny_bind (wpAny_pure (wpAny_bind (wpAny_holding (wpAny_pure ?_))))
  refine wpAny_holding (wpAny_bind (wpAny_pure ?_))
  refine makeFunction_K (env:=c.env sc) (c:=cc) (P:=Pl) (closureFor_none vj) rfl hg cy oG lQ.1 PY n7 PZ hb ?_
  intro c' d9 doc aB bx hx pe bq P5 Bd
  refine wpAny_bind (wpAny_standAt (wpAny_bind (wpAny_bindName ?_)))
  obtain ⟨c₂,co,P6,jQ,ec,P7,P8,P9⟩:=P5
  cases ec
  generalize nF:(tabObj (ps++#[rawInt pos.line,rawInt pos.col,.ref c']))=op at Bd
  generalize ri:(fnMade name qual params body scope [] doc ((g.mg "__name__").getD .none) c' d9)=fo
  have keep:∀ b o,b≠Pl→s.heap.get? b=some o→(aB.push fo).get? b=some o:=fun b o q e=>Heap.get?_push_of_some _ (hx _ _ q e)
  have rj:∀ {b o},s.heap.get? b=some o→b < s.heap.objs.size:=fun e=>Heap.lt_size e
  have Be:∀ {b o},h₀.get? b=some o→s.heap.get? b=some o:=fun e=>I.fr.keep _ _ e
  have pf:∀ {b},s.heap.objs.size≤b→h₀.get? b=none:=fun {b} q=>by
    cases e:h₀.get? b with
    | none=>rfl
    | some o=>exact absurd (rj (Be e)) (Nat.not_lt.mpr q)
  have Bf:c.L < s.heap.objs.size:=I.fr.ns.lt
  have bX:s.heap.objs.size≤aB.objs.size:=Nat.le_trans pe (Nat.le_of_lt bq)
  have F':Fr h₀ c.L (aB.push fo) m:=⟨I.fr.ns.at' fun o e=>keep _ o (Ne.symm lQ.2.1) e,fun b o e=>keep b o (fun q=>by rw [q,lQ.2.2] at e; cases e) (Be e),I.fr.above⟩
  have Qa:Pl < s.heap.objs.size:=rj lQ.1
  have N':News h₀ c.L (aB.push fo) (ι++((aB.objs.size,fo)::(c',co)::putL σ Pl op)):=by
    intro p hp
    rcases List.mem_append.mp hp with hp | hp
    · have z:=I.nw p (List.mem_append_left _ hp)
      exact ⟨keep _ _ (ap.apart p hp _ hP) z.1,z.2⟩
    rcases List.mem_cons.mp hp with rfl | hp
    · exact ⟨Heap.get?_push_size _ (by rw [←ri]; rfl),Nat.ne_of_gt (Nat.lt_of_lt_of_le Bf bX),pf bX⟩
    rcases List.mem_cons.mp hp with rfl | hp
    · exact ⟨Heap.get?_push_of_some _ P7,Nat.ne_of_gt (Nat.lt_of_lt_of_le Bf pe),pf pe⟩
    obtain ⟨q,Qb,e⟩:=List.mem_map.mp hp
    have z:=I.nw q (List.mem_append_right _ Qb)
    by_cases mX:q.1=Pl
    · rw [if_pos mX] at e
      subst e
      exact ⟨Heap.get?_push_of_some _ Bd,lQ.2.1,lQ.2.2⟩
    · rw [if_neg mX] at e
      subst e
      exact ⟨keep _ _ mX z.1,z.2⟩
  have aX:Ap c ι ((aB.objs.size,fo)::(c',co)::putL σ Pl op):=by
    have Bg:=ap.put (d:=Pl) (o':=op)
    refine ⟨fun p hp q hq=>?_,?_,ap.hx⟩
    · have z:=rj (I.nw p (List.mem_append_left _ hp)).1
      rcases List.mem_cons.mp hq with rfl | hq
      · exact Nat.ne_of_lt (Nat.lt_of_lt_of_le z bX)
      rcases List.mem_cons.mp hq with rfl | hq
      · exact Nat.ne_of_lt (Nat.lt_of_lt_of_le z pe)
      exact Bg.apart p hp q hq
    · have old:∀ q∈putL σ Pl op,q.1 < s.heap.objs.size:=fun q hq=>by
        obtain ⟨r,hr,e⟩:=List.mem_map.mp hq
        have z:=rj (I.nw r (List.mem_append_right _ hr)).1
        by_cases mX:r.1=Pl
        · rw [if_pos mX] at e; subst e; exact Qa
        · rw [if_neg mX] at e; subst e; exact z
      rw [List.map_cons,List.map_cons,List.nodup_cons,List.nodup_cons]
      refine ⟨fun hm=>?_,fun hm=>?_,Bg.once⟩
      · rcases List.mem_cons.mp hm with e | hm
        · exact Nat.ne_of_gt bq e
        · obtain ⟨q,h1,h2⟩:=List.mem_map.mp hm
          have h3:q.1=aB.objs.size:=h2
          have h4:=old q h1
          rw [h3] at h4
          exact absurd h4 (Nat.not_lt.mpr bX)
      · obtain ⟨q,h1,h2⟩:=List.mem_map.mp hm
        have h3:q.1=c':=h2
        have h4:=old q h1
        rw [h3] at h4
        exact absurd h4 (Nat.not_lt.mpr pe)
  refine fq (s:={s with heap:=aB.push fo,toks:=bx}) ok ⟨h₀,F',N',I.bl,I.fo⟩ hk fun h' S'=>wpAny_pure ?_
  subst ri nF
  exact k _ c' d9 co P6 jQ _ doc _ h' _ P8 P9 S' aX (Nat.succ_pos _)
end
section
variable {g:Gx} {pl:Bool} {D:Nat} {sc:Scope} {E E' E₁ aO:ag} {σ U σ₁ σ₂ aN:Led}
theorem Bh {e:Expr} {pos:Pos} {x:Str} (h:Ev g pl D sc E σ e (.str x) σ₁) (hz:x.length≤1000000):Ev g pl D sc E σ (.FormattedValue e (-1) none pos) (.str x) σ₁:=by
  refine Comes.of fun c ι m s Q Er ok S R ap ht k=>?_
  refine FormattedValue_plain (h.on c ι m s _ _ ok S R ap ht fun v ar m₁ ah ax av ai aq aj ak hv=>?_)
  refine hv.is fun ω=>?_
  exact formatField_str (fun t' tk=>k _ ar m₁ ah tk ai aq aj ak (.str _ _)) (by rw [sizeLine_eq]; lia)
theorem Bi {e:Expr} {pos:Pos} {a:Int} (h:Ev g pl D sc E σ e (.int a) σ₁) (hz:a.natAbs < 2 ^ 64):Ev g pl D sc E σ (.FormattedValue e (-1) none pos) (.str (Str.ofString (toString a))) σ₁:=by
  refine Comes.of fun c ι m s Q Er ok S R ap ht k=>?_
  refine FormattedValue_plain (h.on c ι m s _ _ ok S R ap ht fun v ar m₁ ah ax av ai aq aj ak hv=>?_)
  refine hv.is fun ω=>?_
  refine formatField_int_small ?_ (k _ ar m₁ ah _ ai aq aj ak (.str _ _))
  by_cases h0:a.natAbs=0
  · rw [h0]; decide
  · have:=(Nat.log2_lt h0).mpr hz
    lia
inductive ph (g:Gx) (pl:Bool) (D:Nat) (sc:Scope) (E:ag) (σ:Led):List Expr→List Str→Prop
  | nil:ph g pl D sc E σ [] []
  | cons {e:Expr} {es:List Expr} {y:Str} {ys:List Str}:Ev g pl D sc E σ e (.str y) σ→ph g pl D sc E σ es ys→ph g pl D sc E σ (e::es) (y::ys)
theorem jR (x y:Str):(x++y).length=x.length+y.length:=strLen_append x y
theorem pj:∀ (ys:List Str) (o:Str),(ys.foldl (·++·) o).length=o.length+(ys.map Str.length).sum
  | [],o=>by simp
  | y::ys,o=>by rw [List.foldl_cons,pj ys,jR,List.map_cons,List.sum_cons]; lia
theorem Qc {es:List Expr} {ys:List Str} (h:ph g pl D sc E σ es ys):∀ {out:Str},(ys.foldl (·++·) out).length≤1000000→Comes g pl D sc E σ (fun c=>joinParts out (evalEach es (c.env sc))) Rep (.str (ys.foldl (·++·) out)) E σ:=by
  induction h with
  | nil=>
    intro out hz
    refine Comes.of fun c ι m s Q Er ok S R ap ht k=>?_
    exact joinParts_nil (k _ ι m s.heap _ S R ap (fun ω h=>h) (.str _ _)) (by rw [sizeLine_eq]; simpa using Nat.le_trans hz (by lia))
  | @cons e es y ys he _ ih=>
    intro out hz
    refine Comes.of fun c ι m s Q Er ok S R ap ht k=>?_
    show wpAny g.M c.A (joinParts out (eval e (c.env sc)::evalEach es (c.env sc))) Q Er s
    refine joinParts_cons (he.on c ι m s _ _ ok S R ap ht fun v ar m₁ ah ax av ai aq aj ak hv=>?_)
    refine hv.is fun ω=>?_
    rw [List.foldl_cons] at hz
    refine ⟨?_,(ih hz).on c ar m₁ _ _ _ ok ai aq aj av fun w aG m₂ aB a9 a8 aw aC ay aA hw=>k w aG m₂ aB a9 aw aC ay (fun p hp=>aA p (ak p hp)) hw⟩
    rw [pj] at hz
    rw [sizeLine_eq]; lia
theorem vk {e1 e2:Expr} {es:List Expr} {pos:Pos} {ys:List Str} {z:Str} (h:ph g pl D sc E σ (e1::e2::es) ys) (hz:(ys.map Str.length).sum≤1000000) (zM:autoParam (ys.foldl (·++·) Str.empty=z) aR):Ev g pl D sc E σ (.JoinedStr (e1::e2::es) pos) (.str z) σ:=by
  subst zM
  exact Qc h (by rw [pj]; have:Str.empty.length=0:=rfl; lia)
structure rk (σ:Led) (F:Addr) (name qual:Str) (params:Arguments) (body:List Stmt) (scope:Scope):Prop where
  fn:∃ pm c' doc d9,(F,pb name qual params body scope pm c' doc d9)∈σ∧∃ co vs t,(c',co)∈σ∧co.data=.fields vs∧vs[1]?=some (.str qual t)
theorem Qd {F:Addr} {name qual:Str} {params:Arguments} {body:List Stmt} {scope:Scope} {ps rest:List Str} {as:List AV} {P:AV→Led→Prop} (cQ:ag) (h:rk σ F name qual params body scope)
    (hb:∀ pm c' doc d9 (vs:List Value),vs.length=as.length→bindArgs (Bc name qual params body scope pm c' doc d9) ⟨vs,[]⟩=pure (ps.zip vs))
    (du:b0 g pl D scope cQ σ body (Rt P)) (hE:autoParam (fY ps as rest=cQ) aR) (hlen:autoParam (ps.length=as.length) aR) (hq:autoParam (gH scope ps rest) aD):dW g pl (D+1) (.ref F) as σ P:=
  let ⟨pm,c',doc,d9,hF,co,ws,t,sY,hd,hw⟩:=h.fn
  (zp (X:=.none) (fun ω S=>have ⟨_,I⟩:=S; ⟨_,(I.nw _ (List.mem_append_right _ hF)).1,rfl,c',co,ws,t,rfl,(I.nw _ (List.mem_append_right _ sY)).1,hd,hw⟩) (.eq (hb _ _ _ _)) hlen hq (.of (hE▸du))).c.fn
theorem Qe {M:Model} {A:Around} {Er:Value→Shared→Prop} {s:Shared} {env:Env} {pos:Pos} {F:Addr} {fo:Obj} {fd:FuncData} {first:List Value} {Q:Value→Shared→Prop} {e:Expr} {rest:List Expr} (ri:fo.data=.func fd)
    (h:wpAny M A (spliced (backTo pos (starEach (e::rest) env))) (fun vs aH=>aH.heap.get? F=some fo∧wpAny M A (call (.ref F) (first++vs)) Q Er aH) Er s)
    (he:starEach (e::rest) env=(false,eval e env)::starEach rest env) (cW:(backTo pos (starEach rest env)).any (·.1)=false):
    wpAny M A (callWith pos (.ref F) first (backTo pos (starEach (e::rest) env)) []) Q Er s:=by
  rw [he] at h ⊢
  refine W.callWith_of (P:=fun h=>h.get? F=some fo) (by show ((false||(backTo pos (starEach rest env)).any (·.1))||false)=false; rw [cW]; rfl) (fun h hh=>⟨.frame,.inl rfl,(Looks.ld (part:=none) hh).andThen ?_⟩) (evalArgs_plain h)
  rw [ri]
  exact .now
theorem Qf {x:Str} {p pos:Pos} {e:Expr} {es:List Expr} {as:List AV} {F:Addr} {name qual:Str} {params:Arguments} {body:List Stmt} {scope:Scope} {r:AV} (hx:fA x (.val (.ref F)) E) (hF:rk σ₁ F name qual params body scope) (dq:ee g pl D sc E σ (e::es) as σ₁) (cP:Fn g pl D (.ref F) as σ₁ r σ₂)
    (hn:autoParam (sc.names.lookup x=some .local) aK) (hd:autoParam ((x==("__debug__":Str))=false) aK)
    (he:autoParam (∀ env,starEach (e::es) env=(false,eval e env)::starEach es env) aI) (cW:autoParam (∀ pos env,(backTo pos (starEach es env)).any (·.1)=false) aJ):
    Ev g pl D sc E σ (.Call (.Name x p) (e::es) [] pos) r σ₂:=by
  refine Comes.of fun c ι m s Q Er ok S R' ap ht k=>?_
  refine wpAny_Call_NameR ((nC hx.mem hn hd).on c ι m s _ _ ok S R' ap ht fun v ar m₁ ah ax av ai aq aj ak hv=>?_)
  refine hv.is ?_
  obtain ⟨pm,c',doc,d9,Qg,_⟩:=hF.fn
  refine Qe (fo:=pb name qual params body scope pm c' doc d9) rfl ((dq pos).on c ar m₁ _ _ _ ok ai aq aj av fun vs aG m₂ aB a9 a8 aw aC ay aA aM=>?_) (he _) (cW _ _)
  obtain ⟨e7,b9⟩:=aw
  refine ⟨(b9.nw _ (List.mem_append_right _ Qg)).1,cP c sc aG m₂ _ _ _ _ ok ⟨e7,b9⟩ ay a8 aM fun v br bu bx bj bp bo b8=>?_⟩
  exact k v br m₂ bu bx bj (aC.mono bo) bp (fun p hp=>bo p (aA p (ak p hp))) b8
end
theorem subAt_one {l:List Nat} {c i:Nat} (hi:i < l.length):Builtin.Str.subAt (S l) (S [c]) i=decide (l[i]?=some c):=by
  unfold Builtin.Str.subAt
  have e:(S l).cps.extract i (i+(S [c]).length)=#[l[i]]:=by
    apply Array.ext'
    rw [bD]
    have:(l.drop i).take 1=[l[i]]:=by rw [List.drop_eq_getElem_cons hi]; rfl
    simpa using this
  rw [e,Bool.eq_iff_iff,beq_iff_eq,decide_eq_true_eq,List.getElem?_eq_getElem hi]
  constructor
  · intro h
    have:#[l[i]]=#[c]:=h
    simpa using this
  · intro h
    have:l[i]=c:=by simpa using h
    rw [this]
theorem vl {s sub:Str} {hi limit:Nat} (rest:List Nat):∀ (is:List Nat) (st:Array Nat×Nat),(∀ i∈is,¬ (i+sub.length≤hi∧Builtin.Str.subAt s sub i=true))→forIn (is++rest) st (StrLaws.occBody s sub hi limit)=forIn rest st (StrLaws.occBody s sub hi limit)
  | [],st,_=>rfl
  | i::is,st,h=>by
    rw [List.cons_append,List.forIn_cons]
    have hb:StrLaws.occBody s sub hi limit i st=pure (ForInStep.yield st):=by
      unfold StrLaws.occBody
      rw [if_neg (fun q=>h i (.head _) ⟨q.1.2,q.2⟩)]
    rw [hb]
    exact vl rest is st fun j hj=>h j (.tail _ hj)
theorem vm {s sub:Str} {hi:Nat} (rest:List Nat):∀ (is:List Nat) (st:Option Nat),(∀ i∈is,¬ (i+sub.length≤hi∧Builtin.Str.subAt s sub i=true))→forIn (is++rest) st (StrLaws.lastBody s sub hi)=forIn rest st (StrLaws.lastBody s sub hi)
  | [],st,_=>rfl
  | i::is,st,h=>by
    rw [List.cons_append,List.forIn_cons]
    have hb:StrLaws.lastBody s sub hi i st=pure (ForInStep.yield st):=by
      unfold StrLaws.lastBody
      rw [if_neg (fun q=>h i (.head _) q)]
    rw [hb]
    exact vm rest is st fun j hj=>h j (.tail _ hj)
theorem Bj {q p:Nat} (h:q < p):List.range' 0 (p+1 - 0)=List.range' 0 q++q::List.range' (q+1) (p - q):=by
  have e:p+1 - 0=q+(p - q+1):=by lia
  rw [e,←List.range'_append_1,Nat.zero_add,List.range'_succ]
section
variable {l:List Nat} {c q p:Nat}
theorem rn (hp:p≤l.length) (ho:∀ i,i < p→i≠q→l[i]?≠some c) {i:Nat} (hi:i≠q):¬ (i+(S [c]).length≤p∧Builtin.Str.subAt (S l) (S [c]) i=true):=by
  rintro ⟨h1,h2⟩
  rw [bD,List.length_cons,List.length_nil] at h1
  have jB:i < l.length:=by lia
  rw [subAt_one jB,decide_eq_true_eq] at h2
  exact ho i (by lia) hi h2
theorem hit (hp:p≤l.length) (fM:q < p) (hq:l[q]?=some c):q+(S [c]).length≤p∧Builtin.Str.subAt (S l) (S [c]) q=true:=by
  rw [bD,List.length_cons,List.length_nil,subAt_one (by lia)]
  exact ⟨by lia,by simpa using hq⟩
theorem Qh (hp:p≤l.length) (fM:q < p) (hq:l[q]?=some c) (ho:∀ i,i < p→i≠q→l[i]?≠some c):Builtin.Str.occurrences (S l) (S [c]) 0 p ((S l).length+1)=[q]:=by
  rw [StrLaws.occ_eq,Bj fM,vl _ _ _ fun i hi=>rn hp ho (by have:=List.mem_range'_1.mp hi; lia),List.forIn_cons]
  obtain ⟨h1,h2⟩:=hit hp fM hq
  have hb:StrLaws.occBody (S l) (S [c]) p ((S l).length+1) q ((#[]:Array Nat),0)=pure (ForInStep.yield (#[q],q+(S [c]).length)):=by
    unfold StrLaws.occBody
    rw [if_pos ⟨⟨⟨by simp,Nat.zero_le _⟩,h1⟩,h2⟩]
    rfl
  rw [hb]
  have e3:=vl (s:=S l) (sub:=S [c]) (hi:=p) (limit:=(S l).length+1) [] (List.range' (q+1) (p - q)) (#[q],q+(S [c]).length) fun i hi=>rn hp ho (by have:=List.mem_range'_1.mp hi; lia)
  rw [List.append_nil] at e3
  show (forIn (List.range' (q+1) (p - q)) (#[q],q+(S [c]).length) (StrLaws.occBody (S l) (S [c]) p ((S l).length+1))).run.fst.toList=[q]
  rw [e3]
  rfl
theorem Qi (hp:p≤l.length) (fM:q < p) (hq:l[q]?=some c) (ho:∀ i,i < p→i≠q→l[i]?≠some c):Builtin.Str.lastOccurrence (S l) (S [c]) 0 p=some q:=by
  rw [StrLaws.last_eq,Bj fM,vm _ _ _ fun i hi=>rn hp ho (by have:=List.mem_range'_1.mp hi; lia),List.forIn_cons]
  have hb:StrLaws.lastBody (S l) (S [c]) p q none=pure (ForInStep.yield (some q)):=by
    unfold StrLaws.lastBody
    rw [if_pos (hit hp fM hq)]
  rw [hb]
  have e3:=vm (s:=S l) (sub:=S [c]) (hi:=p) [] (List.range' (q+1) (p - q)) (some q) fun i hi=>rn hp ho (by have:=List.mem_range'_1.mp hi; lia)
  rw [List.append_nil] at e3
  show (forIn (List.range' (q+1) (p - q)) (some q) (StrLaws.lastBody (S l) (S [c]) p)).run=some q
  rw [e3]
  rfl
end
theorem Qj (x y:Str) (i j:Int) (t u v w:Tok):Gives (Builtin.«str.count» ⟨[.str x t,.str y u,.int i v,.int j w],[]⟩) (.int (Builtin.Str.occurrences x y (fromIndex x.length i) (min (fromIndex x.length j) x.length) (x.length+1)).length):=by
  show Gives (retInt (Builtin.Str.occurrences x y (fromIndex x.length i) (min (fromIndex x.length j) x.length) (x.length+1)).length) _
  exact .of_eq rfl
theorem Qk (x y:Str) (i j:Int) (t u v w:Tok) (k:Nat) (h:Builtin.Str.lastOccurrence x y (fromIndex x.length i) (min (fromIndex x.length j) x.length)=some k):Gives (Builtin.«str.rindex» ⟨[.str x t,.str y u,.int i v,.int j w],[]⟩) (.int k):=by
  show Gives (match Builtin.Str.lastOccurrence x y (fromIndex x.length i) (min (fromIndex x.length j) x.length) with | some i=>retInt i | none=>(do rule "str.rindex.not-found"; raiseError "ValueError" "substring not found")) _
  rw [h]
  exact .of_eq rfl
theorem ro (n k:Nat):fromIndex n (k:Int)=k:=by unfold fromIndex; rw [if_neg (by lia)]; lia
section
variable {g:Gx} {pl:Bool} {D:Nat} {sc:Scope} {E E' E₁ aO:ag} {σ U σ₁ σ₂ aN:Led} {l:List Nat} {c q p:Nat}
theorem Ql (hp:p≤l.length) (fM:q < p) (hq:l[q]?=some c) (ho:∀ i,i < p→i≠q→l[i]?≠some c):Fn g pl D (.builtin "str.count") [T l,T [c],.int ((0:Nat):Int),.int (p:Int)] σ (.int ((1:Nat):Int)) σ:=by
  intro C sc ι m s vs Q Er ok ai ap ht aM kk
  refine aM.xK fun ω ω ω ω h1 h2 h3 h4=>?_
  refine h1.is fun ω=>?_; refine h2.is fun ω=>?_; refine h3.is fun ω=>?_; refine h4.is fun ω=>?_
  have g4:=Qj (S l) (S [c]) ((0:Nat):Int) (p:Int)
  rw [ro,ro,Nat.min_eq_left (by rw [bD]; exact hp),Qh hp fM hq ho] at g4
  exact call_gives F.slot_str_count (typeIs_str _ _ _) F.entry_str_count (F.args_str_count_4 _ _ _ _) (g4 _ _ _ _) (kk _ ι s.heap _ ai ap (fun ω h=>h) (.int _ _))
theorem Qm (hp:p≤l.length) (fM:q < p) (hq:l[q]?=some c) (ho:∀ i,i < p→i≠q→l[i]?≠some c):Fn g pl D (.builtin "str.rindex") [T l,T [c],.int ((0:Nat):Int),.int (p:Int)] σ (.int (q:Int)) σ:=by
  intro C sc ι m s vs Q Er ok ai ap ht aM kk
  refine aM.xK fun ω ω ω ω h1 h2 h3 h4=>?_
  refine h1.is fun ω=>?_; refine h2.is fun ω=>?_; refine h3.is fun ω=>?_; refine h4.is fun ω=>?_
  have g4:=fun t u v w=>Qk (S l) (S [c]) ((0:Nat):Int) (p:Int) t u v w q (by rw [ro,ro,Nat.min_eq_left (by rw [bD]; exact hp)]; exact Qi hp fM hq ho)
  exact call_gives F.slot_str_rindex (typeIs_str _ _ _) F.entry_str_rindex (F.args_str_rindex_4 _ _ _ _) (g4 _ _ _ _) (kk _ ι s.heap _ ai ap (fun ω h=>h) (.int _ _))
end
noncomputable abbrev gV:Stmt:=ff (af 71) 1
noncomputable def lR (col:Nat):Str:=([("line ":Str),Str.ofString (toString ((2:Nat):Int)),(", column ":Str),Str.ofString (toString (col:Int))]).foldl (·++·) Str.empty
section
variable {g:Gx} {pl:Bool} {D:Nat} {sc:Scope} {E E' E₁ aO:ag} {σ U σ₁ σ₂ aN:Led}
theorem text_len {n:Nat} (h:n < 1000000):(Str.ofString (toString (n:Int))).length≤7:=by
  rw [PySem.ofString_length]
  exact int_text_length_le10 (k:=6) (by decide) (by simpa using h)
theorem Qn {x y:Nat} (h:y≤x):bN g pl D sc E σ (binaryOp .Sub) Rep (.int (x:Int)) (.int (y:Int)) (.int ((x - y:Nat):Int)) σ:=by
  intro v u; refine .mk fun c ι m s Q Er ok S R ap ht pr k=>?_
  refine pr.1.is fun ω=>?_; refine pr.2.is fun ω=>?_
  exact PyProof.Rows.sub_int' (k _ ι m s.heap _ S R ap (fun p h=>h) (by rw [←Int.ofNat_sub h]; exact .int _ _))
theorem Qo:jl g "count" "str.count":=.mk fun ω ω ω ω ω ω ω h=>by with_reducible exact GM.count h
theorem Qp:jl g "rindex" "str.rindex":=.mk fun ω ω ω ω ω ω ω h=>by with_reducible exact GM.of (.str _ _) (typeIs_str _ _ _) F.slot_str_rindex F.type_str_rindex GM.noRef h
theorem Qq (kf:KF g) {F:Addr} {qual:Str} {l:List Nat} {q p:Nat} (h:rk σ F "coord_repr" qual (dr gV) (bZ gV) (bz gV)) (hl:l.length≤100000) (hp:p < l.length) (fM:q < p) (hq:l[q]?=some 10) (ho:∀ i,i < p→i≠q→l[i]?≠some 10):
    Fn g pl (D+1) (.ref F) [T l,.int (p:Int)] σ (.str (lR (p - q))) σ:=by
  refine (Qd (P:=fun r U=>r=.str (lR (p - q))∧U=σ) (ps:=["src","pos"]) (rest:=["line","column"]) [("src",some (T l)),("pos",some (.int (p:Int))),("line",none),("column",none)] h ?_ ?_).det fun ω ω h=>h
  · intro pm c' doc d9 vs hl
    obtain ⟨v,u,rfl⟩:=ig hl
    rfl
  refine aZ (cE ((bw (b:=.int l.length) aa (qn kf.js aa (by lia)) Kc).cast ?_) bh) ?_
  · simp; lia
  refine aZ (ba (bP (a:=.int ((1:Nat):Int)) (jm aa Qo (au (bK (l:=[10])) (au (bE (n:=0)) (au aa aU))) (Ql (by lia) fM hq ho)) (bE (n:=1)) kr)) ?_
  refine nJ (nX (b:=false) ((bw aa (bE (n:=1)) sE).cast (by decide)) (fun h=>absurd h (by decide)) fun ω=>bI (ba (bP aa (jm aa Qp (au (bK (l:=[10])) (au (bE (n:=0)) (au aa aU))) (Qm (by lia) fM hq ho)) (Qn (by lia)))) bh) ?_
  refine bC (bO (cb (vk (ys:=[("line ":Str),Str.ofString (toString ((2:Nat):Int)),(", column ":Str),Str.ofString (toString ((p - q:Nat):Int))]) (.cons eD (.cons (Bi aa (by decide)) (.cons eD (.cons (Bi aa (by lia)) .nil)))) ?_))) (.inl ⟨_,rfl,rfl,rfl⟩)
  have h1:=text_len (n:=2) (by decide)
  have h2:=text_len (n:=p - q) (by lia)
  have h3:("line ":Str).length=5:=by decide
  have h4:(", column ":Str).length=9:=by decide
  simp only [List.map_cons,List.map_nil,List.sum_cons,List.sum_nil]
  lia
end
noncomputable abbrev Qr:List Value:=[.type "ValueError",.type "Exception",.type "BaseException",.type "object"]
structure KE (g:Gx):Prop where
  fS:∃ oc od ia doc pm an ct,g.K.lookup 686=some ⟨oc,od,.func (fnOf "suffixed_err" "suffixed_err" (dr (af 71)) (bZ (af 71)) (bz (af 71)) .none .none doc pm an (.ref 685) ct),ia⟩
  cS:codeIn g.K (.ref 685) "suffixed_err"=true
  vn:∃ o vs file tf flags tg kJ text tt,g.K.lookup 685=some o∧o.cls=.type "code"∧vs[11]?=some (.ref 681)∧o.data=.fields vs∧vs.getD 11 .none=.ref 681∧vs.getD 18 .none=.str file tf∧vs.getD 7 .none=.int flags tg∧vs.getD 9 .none=.bool kJ∧vs.getD 10 .none=.int text tt
  exc:excIn g.K 364 Qr "ValueError.__new__"=true
  Bk:keepIn g.K (.ref 364)=true
noncomputable abbrev rp (t:Addr):Obj:={cls:=.ref 364,data:=.fields #[.ref t,.none,.none,.none,.bool false,.none]}
noncomputable def kQ (M:Str) (col:Nat):Str:=([M,(" (at ":Str),lR col,(")":Str)]).foldl (·++·) Str.empty
section
variable {g:Gx} {pl:Bool} {D:Nat} {sc:Scope} {E E' E₁ aO:ag} {σ U σ₁ σ₂ aN:Led}
theorem Qs {n:Nat} (h:n < 1000000):(lR n).length≤28:=by
  unfold lR
  rw [pj]
  have h1:=text_len (n:=2) (by decide)
  have h2:=text_len (n:=n) h
  have h3:("line ":Str).length=5:=by decide
  have h4:(", column ":Str).length=9:=by decide
  have h5:Str.empty.length=0:=rfl
  simp only [List.map_cons,List.map_nil,List.sum_cons,List.sum_nil]
  lia
theorem Qt (kf:KF g) (ke:KE g) {p pos:Pos} {e:Expr} {x:Str} (iO:Ev g pl D sc E σ e (.str x) σ₁) (hn:autoParam (sc.names.lookup ("TOMLDecodeError":Str)=some .globalImplicit) aK)
    (he:autoParam (∀ env,starEach [e] env=(false,eval e env)::starEach [] env) aI):
    CG g pl D sc E σ (fun c=>eval (.Call (.Name "TOMLDecodeError" p) [e] [] pos) (c.env sc)) Rep (fun a E' U=>E'=E∧∃ ex t tk,a=.val (.ref ex)∧U=(ex,rp t)::(t,cV [.str x tk])::σ₁):=by
  refine .mk fun c ι m s Q Er ok S R' ap ht k=>?_
  refine wpAny_Call_NameR ((cH kf.mA hn (by kernel_rfl)).on c ι m s _ _ ok S R' ap ht fun v ar m₁ ah ax av ai aq aj ak hv=>?_)
  refine hv.is ?_
  obtain ⟨h₀,dR⟩:=ai
  refine callWith_K (ok.kh dR) ke.Bk ((au iO aU he pos).on c ar m₁ _ _ _ ok ⟨h₀,dR⟩ aq aj av fun vs aG m₂ aB a9 a8 aw aC ay aA aM=>?_) (he _) rfl
  refine aM.dS fun v hv=>?_
  refine hv.is fun tk=>?_
  obtain ⟨e7,b9⟩:=aw
  refine ⟨ok.kh b9,?_⟩
  have O:=(own_of_in (ok.kx b9) (topRead_of (ok.tp b9)) kf.mA ke.exc).keeps b9.fr.keep
  obtain ⟨tl,N,nm,q,bs,hdct,sn,sub,ab,col,dd,k0,k1,k2,k3,k5,mN,hC,hN,vo,T⟩:=O.obj
  refine wpAny_call_exc_subT (hrest:=by simp [sizeLine]) PySem.F.excBase_ValueError T hC hN vo fun h' ex hm=>?_
  obtain ⟨t,e1,e2,e3⟩:=hm.there
  have pf:∀ {b},aB.get? b=none→e7.get? b=none:=fun {b} q=>by
    cases e:e7.get? b with
    | none=>rfl
    | some o=>rw [b9.fr.keep _ _ e] at q; cases q
  have Bl:∀ {b},aB.get? b=none→b≠c.L:=fun {b} q e=>by
    obtain ⟨oL,es,ep,n1,_⟩:=b9.fr.ns
    rw [e,n1] at q; cases q
  have aT:ex≠t:=fun q=>by rw [q,e3] at e1; cases e1
  have vp:∀ p∈aG++σ₁,p.1≠ex∧p.1≠t:=fun p hp=>⟨fun q=>(by have:=(b9.nw p hp).1; rw [q,hm.new] at this; cases this),fun q=>(by have:=(b9.nw p hp).1; rw [q,e2] at this; cases this)⟩
  refine k _ (.val (.ref ex)) E _ aG m₂ h' a9 a8 (b9.to (b9.fr.after hm.keeps) fun p hp=>?_) aC ⟨fun p hp q hq=>?_,?_,ay.hx⟩ (fun p hp=>aA p (ak p hp)) (.val _) ⟨rfl,ex,t,tk,rfl,rfl⟩
  · rcases List.mem_append.mp hp with hp | hp
    · have z:=b9.nw p (List.mem_append_left _ hp); exact ⟨hm.keeps _ _ z.1,z.2⟩
    rcases List.mem_cons.mp hp with rfl | hp
    · exact ⟨e1,Bl hm.new,pf hm.new⟩
    rcases List.mem_cons.mp hp with rfl | hp
    · exact ⟨e3,Bl e2,pf e2⟩
    · have z:=b9.nw p (List.mem_append_right _ hp); exact ⟨hm.keeps _ _ z.1,z.2⟩
  · have z:=vp p (List.mem_append_left _ hp)
    rcases List.mem_cons.mp hq with rfl | hq
    · exact z.1
    rcases List.mem_cons.mp hq with rfl | hq
    · exact z.2
    · exact ay.apart p hp q hq
  · rw [List.map_cons,List.map_cons,List.nodup_cons,List.nodup_cons]
    refine ⟨fun hq=>?_,fun hq=>?_,ay.once⟩
    · rcases List.mem_cons.mp hq with e | hq
      · exact aT e
      · obtain ⟨r,h1,h2⟩:=List.mem_map.mp hq
        exact (vp r (List.mem_append_right _ h1)).1 h2
    · obtain ⟨r,h1,h2⟩:=List.mem_map.mp hq
      exact (vp r (List.mem_append_right _ h1)).2 h2
theorem Qu {f:Addr} {od:Option Addr} {ia:Array (Option Value)} {oc:Value} {name qual:Str} {params:Arguments} {body:List Stmt} {sc:Scope} {dV kV doc pm bb ct:Value} {an:Option Addr} {ps rest:List Str} {as:List AV} {P:AV→Led→Prop}
    (ho:g.K.lookup f=some ⟨oc,od,.func (fnOf name qual params body sc dV kV doc pm an bb ct),ia⟩) (cy:codeIn g.K bb qual=true)
    (hb:∀ (s:Shared) (vs:List Value),vs.length=as.length→BindsTo s (fnOf name qual params body sc dV kV doc pm an bb ct) ⟨vs,[]⟩ (ps.zip vs))
    (hlen:ps.length=as.length) (hq:gH sc ps rest)
    (du:∀ (c:Cx) (ι:Led) (m:Str→Option Value) (s:Shared) (Q:Flow→Shared→Prop) (Er:Value→Shared→Prop),c.Ok g sc pl D→c.cd=bb→c.nm=qual→c.cl=[]→St g c (ι++σ) m s.heap→bF ι (fY ps as rest) m→Ap c ι σ→0 < s.toks→
      (∀ v r U ae m' h' ao,0 < ao→St g c (ae++U) m' h'→Ap c ae U→(∀ p∈ι,p∈ae)→Rep ae v r→P r U→Q (.ret v) {s with heap:=h',toks:=ao})→wpAny g.M c.A (execs body (c.env sc)) Q Er s)
    :dW g pl (D+1) (.ref f) as σ P:=by
  intro c ji ι m s vs Q Er ok ⟨h₀,I⟩ ap ht aM k
  have kx:=ok.kh I
  refine wpAny_call (codeAny_call_def (fd:=fnOf name qual params body sc dV kV doc pm an bb ct) (body:=body) (binds:=ps.zip vs) (Nat.lt_of_le_of_lt (Nat.le_add_right _ _) (Nat.lt_trans ok.dp (by decide))) (kx _ _ ho) rfl ((ok.tp I).nolimit.keeps I.fr.keep) (codeRec_of kx cy) rfl (hb s vs aM.length) hq.2.2.1 (fun x hx=>hq.2.1 _ (List.of_mem_zip hx).1) (fun ah cN cx=>?_) hq.2.2.2.1 hq.2.2.2.2.1 hq.2.2.2.2.2)
  have ⟨oL,hL,ai⟩:=sI ok I qual f bb sc [] cN cx
  exact du _ ι _ _ _ _ (ok.into hq.2.2.2.2.2) rfl rfl rfl ai (sL hq.1 hlen aM) ap (by exact Nat.lt_of_lt_of_le ht (Nat.le_add_right _ _)) fun v r U ae m' h' ao aQ S' aX=>k _ r ae U h' ao (pZ I hL S') aX
theorem Qv (kf:KF g) (ke:KE g) {l:List Nat} {q p:Nat} {M:Str} {tb:Obj} (hl:l.length≤100000) (hp:p < l.length) (fM:q < p) (hq:l[q]?=some 10) (ho:∀ i,i < p→i≠q→l[i]?≠some 10) (hM:M.length≤100000) (hP:(681,tb)∈σ) (fL:tb=tabObj #[]):
    dW g pl (D+4) (.ref 686) [T l,.int (p:Int),.str M] σ (fun r U=>∃ ex t tk F fo c' co more,r=.val (.ref ex)∧U=(ex,rp t)::(t,cV [.str (kQ M (p - q)) tk])::(F,fo)::(c',co)::putL σ 681 (tabObj more)):=by
  obtain ⟨oc,od,ia,doc,pm,an,ct,hK⟩:=ke.fS
  refine Qu (ps:=["src","pos","msg"]) (rest:=["coord_repr"]) hK ke.cS (fun s vs Qw=>BindsTo.of_eq ?_) rfl (by decide+kernel) fun c ι m s Q Er ok cy Bm jF S R ap ht k=>?_
  · obtain ⟨v,u,w,rfl⟩:=nW Qw
    rfl
  refine wpAny_execs_cons ((show Ex g pl (D+3) (bz (af 71)) (fY ["src","pos","msg"] [T l,.int (p:Int),.str M] ["coord_repr"]) σ _ .next _ σ from lr).on c ι m s _ _ ok S R ap ht fun v ar m₁ ah ax av ai aq aj ak hv=>?_)
  refine hv.kZ ?_
  have kO:(c.env (bz (af 71))).kindOf "coord_repr"=some .local:=by unfold Env.kindOf; kernel_rfl
  have vq:qualnameIn (c.env (bz (af 71))) "coord_repr" "coord_repr"=("suffixed_err":Str)++".<locals>."++"coord_repr":=by
    unfold qualnameIn
    rw [kO,if_neg (by decide)]
    show (c.nm++".<locals>.")++"coord_repr"=_
    rw [Bm]
  refine wpAny_execs_cons (PU (cc:=685) (Pl:=681) (ps:=#[]) (qual:=("suffixed_err":Str)++".<locals>."++"coord_repr") (params:=dr gV) (body:=bZ gV) (scope:=bz gV) ok ai aj cy hP fL ke.vn trivial (by decide) rfl (by decide) rfl rfl rfl (fun ω=>rfl) (by decide+kernel) (by decide+kernel) vq fun F c' d9 co vs t more Bn Bo h' ao hd hw aw ay a8=>?_)
  have aC:bF ar [("src",some (T l)),("pos",some (.int (p:Int))),("msg",some (.str M)),("coord_repr",some (.val (.ref F)))] (fun y=>if y="coord_repr" then some (.ref F) else m₁ y):=aq.upd (.there (.there (.there .here))) (.val _)
  have hF:rk ((F,pb "coord_repr" (("suffixed_err":Str)++".<locals>."++"coord_repr") (dr gV) (bZ gV) (bz gV) Bo c' Bn d9)::(c',co)::putL σ 681 (tabObj more)) F "coord_repr" (("suffixed_err":Str)++".<locals>."++"coord_repr") (dr gV) (bZ gV) (bz gV):=
    ⟨⟨Bo,c',Bn,d9,.head _,co,vs,t,.tail _ (.head _),hd,hw⟩⟩
  have hz:=Qs (n:=p - q) (by lia)
  have h1:(" (at ":Str).length=5:=by decide
  have h2:(")":Str).length=1:=by decide
  have body:b0 g pl (D+3) (bz (af 71)) [("src",some (T l)),("pos",some (.int (p:Int))),("msg",some (.str M)),("coord_repr",some (.val (.ref F)))] _ [ff (af 71) 2] _:=
    dX (A8 (Qt kf ke (vk (ys:=[M,(" (at ":Str),lR (p - q),(")":Str)]) (.cons (Bh aa (by lia)) (.cons eD (.cons (Bh (Qf (.there (.there (.there .here))) hF (au aa (au aa aU)) (Qq kf hF hl hp fM hq ho)) (by lia)) (.cons eD .nil)))) (by simp only [List.map_cons,List.map_nil,List.sum_cons,List.sum_nil]; lia))))
  refine body.on c ar _ _ _ _ ok aw aC ay a8 fun v b E' U ae m' cK il aQ S' R' aX bk hv hP=>?_
  obtain ⟨a,rfl,rfl,ex,t',tk,rfl,rfl⟩:=hP
  refine hv.pV fun ω hv=>?_
  exact k _ _ _ ae m' cK il aQ S' aX (fun p hp=>bk p (ak p hp)) hv ⟨ex,t',tk,F,_,c',co,more,rfl,rfl⟩
end
noncomputable def eH (xs:List (List Nat)):PyData:=.tuple (xs.map fun x=>.str (S x))
noncomputable def tupS (xs:List (List Nat)):Str:=(eH xs).shown
theorem vr {h:Heap} {ι:Led}:∀ {xs:List (List Nat)} {vs:List Value},aY ι vs (xs.map T)→ReadsAll h vs (xs.map fun x=>.str (S x)) []
  | [],_,.nil=>.nil
  | x::xs,_,.cons h1 h2=>by
    refine h1.is fun ω=>?_
    exact .cons (as:=[]) (bs:=[]) (.str _ _) (vr h2)
theorem Bp:∀ xs:List (List Nat),PyData.showableAll (xs.map fun x=>.str (S x))=true
  | []=>rfl
  | x::xs=>by rw [List.map_cons]; unfold PyData.showableAll; rw [Bp xs]; rfl
theorem Bq:∀ xs:List (List Nat),PyData.hasDictAll (xs.map fun x=>.str (S x))=false
  | []=>rfl
  | x::xs=>by rw [List.map_cons]; unfold PyData.hasDictAll; rw [Bq xs]; rfl
theorem depthAll:∀ xs:List (List Nat),PyData.depthAll (xs.map fun x=>.str (S x))≤1
  | []=>Nat.zero_le _
  | x::xs=>by
    rw [List.map_cons]; unfold PyData.depthAll
    have:=depthAll xs
    have:PyData.depth (.str (S x))≤1:=by unfold PyData.depth; lia
    lia
theorem Br (xs:List (List Nat)):(eH xs).showable=true:=by unfold eH PyData.showable; exact Bp xs
theorem Bs (xs:List (List Nat)):(eH xs).hasDict=false:=by unfold eH PyData.hasDict; exact Bq xs
theorem Bt (xs:List (List Nat)):(eH xs).depth≤3:=by unfold eH PyData.depth; have:=depthAll xs; lia
section
variable {g:Gx} {pl:Bool} {D:Nat} {sc:Scope} {E E' E₁ aO:ag} {σ U σ₁ σ₂ aN:Led}
theorem vt {c:Cx} {ι:Led} {m:Str→Option Value} {h₀ h:Heap} {xs:List (List Nat)} {v:Value} (I:Inv g c (ι++σ) m h₀ h) (hv:Rep ι v (.tup (xs.map T))):∃ a,v=.ref a∧Reads h (.ref a) (eH xs) []:=by
  refine hv.isTup fun ω ω hm hr=>?_
  exact ⟨_,rfl,.tuple (n:=0) (I.nw _ (List.mem_append_left _ hm)).1 rfl rfl (by simpa using vr hr)⟩
theorem Qx {e:Expr} {pos:Pos} {xs:List (List Nat)} (h:Ev g pl D sc E σ e (.tup (xs.map T)) σ₁) (hz:(tupS xs).length≤1000000):Ev g pl D sc E σ (.FormattedValue e (-1) none pos) (.str (tupS xs)) σ₁:=by
  refine Comes.of fun c ι m s Q Er ok S R ap ht k=>?_
  refine FormattedValue_plain (h.on c ι m s _ _ ok S R ap ht fun v ar m₁ ah ax av ai aq aj ak hv=>?_)
  obtain ⟨h₀,I⟩:=ai
  obtain ⟨a,rfl,r⟩:=vt I hv
  refine formatField_of_reads (s:={s with heap:=ah,toks:=ax}) r (Br xs) (PyData.noDict_hsm (Bs xs)) ok.gs (by have:=ok.un; have:=Bt xs; unfold cLine; lia) (fun ω ω e=>e) (fun h' u tk hk=>?_) (by rw [sizeLine_eq]; exact Nat.le_trans hz (by lia))
  exact k _ ar m₁ h' tk (I.to (I.fr.after hk) fun p hp=>⟨hk _ _ (I.nw p hp).1,(I.nw p hp).2⟩) aq aj ak (.str _ _)
theorem Qy {xs:List (List Nat)} (hz:(tupS xs).length≤1000000):Fn g pl D (.type "str") [.tup (xs.map T)] σ (.str (tupS xs)) σ:=by
  intro c sc ι m s vs Q Er ok ⟨h₀,I⟩ ap ht aM k
  refine aM.dS fun v hv=>?_
  obtain ⟨a,rfl,r⟩:=vt I hv
  refine str_of_reads r (Br xs) (PyData.noDict_hsm (Bs xs)) ok.gs (by have:=ok.un; have:=Bt xs; unfold cLine; lia) (fun ω ω e=>e) (fun h' u tk hk=>?_) (by rw [sizeLine_eq]; exact Nat.le_trans hz (by lia))
  exact k _ ι h' tk ⟨h₀,I.fr.after hk,fun p hp=>⟨hk _ _ (I.nw p hp).1,(I.nw p hp).2⟩,I.bl,I.fo⟩ ap (fun ω h=>h) (.str _ _)
end
section
variable {g:Gx} {pl:Bool} {D:Nat} {sc:Scope} {E E' E₁ aO:ag} {σ U σ₁ σ₂ aN:Led} {X:Value} {PX:ag→Led→Led→Option Value→Prop} {P P₁:Fl→ag→Led→Prop}
theorem St.sealed {c:Cx} {ι:Led} {m:Str→Option Value} {h:Heap} {t:Addr} {o:Obj} (S:St g c (ι++(t,o)::σ) m h) (ap:Ap c ι ((t,o)::σ)):St g c (((t,o)::ι)++σ) m h∧Ap c ((t,o)::ι) σ:=by
  obtain ⟨h₀,I⟩:=S
  have hn:=ap.once
  rw [List.map_cons,List.nodup_cons] at hn
  refine ⟨⟨h₀,I.fr,fun p hp=>I.nw p ?_,I.bl,I.fo⟩,fun p hp q hq=>?_,hn.2,fun p hp=>.tail _ (ap.hx p hp)⟩
  · rcases List.mem_append.mp hp with hp | hp
    · rcases List.mem_cons.mp hp with rfl | hp
      · exact List.mem_append_right _ (.head _)
      · exact List.mem_append_left _ hp
    · exact List.mem_append_right _ (.tail _ hp)
  · rcases List.mem_cons.mp hp with rfl | hp
    · exact fun e=>hn.1 (by rw [show t=q.1 from e]; exact List.mem_map_of_mem (f:=(·.1)) hq)
    · exact ap.apart p hp q (.tail _ hq)
theorem St.hide {c:Cx} {ι:Led} {m:Str→Option Value} {h:Heap} {e:Addr} {o:Obj} (S:St g c (ι++(e,o)::σ) m h) (ap:Ap c ι ((e,o)::σ)):St g c (ι++σ) m (hideAll h [e])∧Ap c ι σ∧(hideAll h [e]).get? e=none∧(∀ p∈ι++σ,p.1∉eR c)∧∀ aP,Kept aP (hideAll h [e]) h:=by
  obtain ⟨h₀,I⟩:=S
  have hn:=ap.once
  rw [List.map_cons,List.nodup_cons] at hn
  have ze:=I.nw (e,o) (List.mem_append_right _ (.head _))
  have old:∀ p∈ι++σ,p∈ι++(e,o)::σ:=fun p hp=>by
    rcases List.mem_append.mp hp with hp | hp
    · exact List.mem_append_left _ hp
    · exact List.mem_append_right _ (.tail _ hp)
  have ne:∀ p∈ι++σ,p.1∉[e]:=fun p hp q=>by
    have q':p.1=e:=by simpa using q
    rcases List.mem_append.mp hp with hp | hp
    · exact ap.apart p hp _ (.head _) q'
    · exact hn.1 (by rw [←q']; exact List.mem_map_of_mem (f:=(·.1)) hp)
  refine ⟨⟨h₀,⟨I.fr.ns.at' fun o' q=>hideAll_get _ q (by simpa using ze.2.1.symm),fun b o' q=>hideAll_get _ (I.fr.keep _ _ q) (fun z=>?_),I.fr.above⟩,fun p hp=>?_,I.bl,I.fo⟩,⟨fun p hp q hq=>ap.apart p hp q (.tail _ hq),hn.2,ap.hx⟩,hideAll_none _ (.head _),fun p hp=>I.off p (old p hp),fun aP=>Kept.of fun b o' q=>of_hideAll _ q⟩
  · have z':b=e:=by simpa using z
    rw [z',ze.2.2] at q; cases q
  · have z:=I.nw p (old p hp)
    exact ⟨hideAll_get _ z.1 (ne p hp),z.2⟩
theorem Qz (kf:KF g) (ke:KE g) {e:Expr} {pos:Pos} {x:Str} {Z:Led→Prop} (h:CG g true D sc E σ (fun c=>eval e (c.env sc)) Rep (fun a E' U=>E'=E∧∃ ex t tk,a=.val (.ref ex)∧∃ σ₂,U=(ex,rp t)::(t,cV [.str x tk])::σ₂∧Z σ₂)):
    fD g true D sc E σ (.Raise (some e) none pos) P (.ref 364) (fun E' U ι a0=>E'=E∧(∃ t tk,a0=some (.ref t)∧(t,cV [.str x tk])∈ι)∧Z U):=by
  refine .mk fun c ι m s Q Er ok S R' ap ht k kx=>?_
  show wpAny g.M c.A (exec (.Raise (some e) none pos) (c.env sc)) Q Er s
  rw [arm_exec_Raise]
  rw [arm_evalOpt_some]
  have O:=own_of_in ok.gd.kx (topRead_of ok.gd.tp) kf.mA ke.exc
  obtain ⟨tl,N,nm,q,bs,hdct,sn,sub,ab,col,dd,k0,k1,k2,k3,k5,mN,hC,hN,vo,T⟩:=O.obj
  have XG:=hC
  refine wpAny_bind (wpAny_standAt (wpAny_raiseStmt_made_sub (C:=364) (nm:=nm) (q:=q) (N:=N) (bs:=bs) (bm:=tl) (hdct:=hdct) (sn:=sn) (sub:=sub) (ab:=ab) (col:=col) (dd:=dd) (k0:=k0) (k1:=k1) (k2:=k2) (k3:=k3) (k5:=k5) (newId:="ValueError.__new__") (T.hasType PySem.F.excBase_ValueError.hasBase) ok.hn (wpAny_bind (h.on c ι m s _ _ ok S R' ap ht fun v a E' U ar m₁ ah ax av ai aq aj ak hv hP=>wpAny_bind (wpAny_standAt (wpAny_pure ?_))))))
  obtain ⟨rfl,ex,t,tk,rfl,σ₂,rfl,hZ⟩:=hP
  refine hv.is ?_
  have QA:ah.get? 364=some (excClassObj nm q 364 N bs tl hdct sn sub ab col dd k0 k1 k2 k3 k5 "ValueError.__new__"):=by obtain ⟨h₀,I⟩:=ai; exact I.fr.keep _ _ (I.bl.stays _ _ hC)
  have pk:ah.get? ex=some (rp t):=by obtain ⟨h₀,I⟩:=ai; exact (I.nw _ (List.mem_append_right _ (.head _))).1
  refine ⟨ex,t,rfl,QA,pk,?_⟩
  obtain ⟨aw,ay,QB,QC,QD⟩:=ai.hide aj
  obtain ⟨bj,bp⟩:=aw.sealed ay
  refine kx ex (some (.ref t)) E' σ₂ _ m₁ _ ah ax av bj (aq.mono fun p hp=>.tail _ hp) bp (fun p hp=>.tail _ (ak p hp)) ⟨eR c,fun ω q=>q,fun ω q=>.inl q,fun p hp=>QC p ?_,.inl ⟨#[.ref t,.none,.none,.none,.bool false,.none],rfl,QD _,⟨_,pk,rfl,rfl⟩,rfl,rfl,QB⟩⟩ ⟨rfl,⟨t,tk,rfl,.head _⟩,hZ⟩
  rcases List.mem_append.mp hp with hp | hp
  · rcases List.mem_cons.mp hp with rfl | hp
    · exact List.mem_append_right _ (.head _)
    · exact List.mem_append_left _ hp
  · exact List.mem_append_right _ (.tail _ hp)
theorem lS {t:Expr} {body orelse:List Stmt} {pos:Pos} {b:Bool} (ht:cv g pl D sc E σ t b σ₁) (hy:b=true→eF g pl D sc E σ₁ body P X PX) (hn:b=false→eF g pl D sc E σ₁ orelse P X PX):fD g pl D sc E σ (.If t body orelse pos) P X PX:=by
  refine .mk fun c ι m s Q Er ok S R ap aQ k kx=>?_
  refine wpAny_If (ht.on c ι m s _ _ ok S R ap aQ fun v ar m₁ ah ax av ai aq aj ak hv=>?_)
  subst hv
  have k':=fun v b E' U ae m' h' ao a1 a2 a3 a4 (a5:∀ p∈ar,p∈ae)=>k v b E' U ae m' h' ao a1 a2 a3 a4 fun p hp=>a5 p (ak p hp)
  have Bu:=fun e a0 E' U ae m' h h' ao a1 a2 a3 a4 (a5:∀ p∈ar,p∈ae)=>kx e a0 E' U ae m' h h' ao a1 a2 a3 a4 fun p hp=>a5 p (ak p hp)
  cases v with
  | true=>exact (hy rfl).on c ar m₁ _ _ _ ok ai aq aj av k' Bu
  | false=>exact (hn rfl).on c ar m₁ _ _ _ ok ai aq aj av k' Bu
end
noncomputable def declS (xs:List (List Nat)):Str:=([("Cannot declare ":Str),tupS xs,(" twice":Str)]).foldl (·++·) Str.empty
section
variable {g:Gx} {pl:Bool} {D:Nat} {sc:Scope} {E E' E₁ aO:ag} {σ U σ₁ σ₂ aN:Led} {X:Value} {P:AV→Led→Prop} {PX:Led→Led→Option Value→Prop}
theorem fD.weak {st:Stmt} {P₁ Bv:Fl→ag→Led→Prop} {QX pn:ag→Led→Led→Option Value→Prop} (h:fD g pl D sc E σ st P₁ X QX) (hp:∀ fl E' U,P₁ fl E' U→Bv fl E' U) (hx:∀ E' U ι a0,QX E' U ι a0→pn E' U ι a0):fD g pl D sc E σ st Bv X pn:=
  .mk fun c ι m s Q Er ok S R ap ht k kx=>h.on c ι m s Q Er ok S R ap ht (fun v b E' U ae m' h' ao a1 a2 a3 a4 a5 a6 a7=>k v b E' U ae m' h' ao a1 a2 a3 a4 a5 a6 (hp _ _ _ a7)) fun e a0 E' U ae m' h h' ao a1 a2 a3 a4 a5 a6 a7=>kx e a0 E' U ae m' h h' ao a1 a2 a3 a4 a5 a6 (hx _ _ _ _ a7)
theorem Bw {x:Str} {p pos:Pos} {e:Expr} {es:List Expr} {as:List AV} {f:Addr} {P:AV→Led→Prop} (e0:nsIn g.K mainGlobals x=some (some (.ref f))) (hk:keepIn g.K (.ref f)=true) (dq:ee g pl D sc E σ (e::es) as σ₁) (cP:dW g pl D (.ref f) as σ₁ P)
    (hn:autoParam (sc.names.lookup x=some .globalImplicit) aK) (hd:autoParam ((x==("__debug__":Str))=false) aK)
    (he:autoParam (∀ env,starEach (e::es) env=(false,eval e env)::starEach es env) aI) (cW:autoParam (∀ pos env,(backTo pos (starEach es env)).any (·.1)=false) aJ):
    CG g pl D sc E σ (fun c=>eval (.Call (.Name x p) (e::es) [] pos) (c.env sc)) Rep (fun a E' U=>E'=E∧P a U):=by
  refine .mk fun c ι m s Q Er ok S R' ap ht k=>?_
  refine wpAny_Call_NameR ((cH e0 hn hd).on c ι m s _ _ ok S R' ap ht fun v ar m₁ ah ax av ai aq aj ak hv=>?_)
  refine hv.is ?_
  obtain ⟨h₀,dR⟩:=ai
  refine callWith_K (ok.kh dR) hk ((dq pos).on c ar m₁ _ _ _ ok ⟨h₀,dR⟩ aq aj av fun vs aG m₂ aB a9 a8 aw aC ay aA aM=>?_) (he _) (cW _ _)
  obtain ⟨e7,b9⟩:=aw
  refine ⟨ok.kh b9,wpAny_with_toks (n:=1) a8 (cP c sc aG m₂ _ _ _ _ ok ⟨e7,b9⟩ ay a8 aM fun v r br aN bu bx bj bp bo b8 hP=>fun et=>?_)⟩
  exact k v r E aN br m₂ bu bx et bj (aC.mono bo) bp (fun p hp=>bo p (aA p (ak p hp))) b8 ⟨rfl,hP⟩
theorem QE (kf:KF g) (sf:SF g) (kc:KC g) (ko:KO g) (ke:KE g) {f:Str→Option Value} (hM:(353,f)∈g.eK) (hf:fG f) {l:List Nat} {xs:List (List Nat)} {k n e q:Nat} {a:fK} {F1 F2:List Addr} {tb:Obj} (hl:l.length≤100000) (gw:xs.length≤1000)
    (he:l[k+1]?=some e) (hw:eo.contains e=false) (h:kC l (k+1) xs n) (hn:n < l.length) (O:d8 g σ a xs F1 F2) (vq:q < n) (hq:l[q]?=some 10) (ho:∀ i,i < n→i≠q→l[i]?≠some 10) (hz:(tupS xs).length≤50000) (hP:(681,tb)∈σ) (fL:tb=tabObj #[]):
    dO g true (D+10) (.ref 573) [T l,.int k,.val (.ref a.x)] σ (fun ω ω=>False) (.ref 364) (fun U ι a0=>(∃ t tk,a0=some (.ref t)∧(t,cV [.str (kQ (declS xs) (n - q)) tk])∈ι)∧∃ more,(681,tabObj more)∈U):=by
  have pa:xs≠[]:=by obtain ⟨⟩:=h; simp
  refine Mp (ps:=["src","pos","out"]) (rest:=["key"]) [("src",some (T l)),("pos",some (.int k)),("out",some (.val (.ref a.x))),("key",none)] kf.ti ?_ ?_
  · intro doc pm an bb ct vs hl
    obtain ⟨v,u,w,rfl⟩:=nW hl
    rfl
  refine dZ (fB (bE (n:=1)) iR) ?_
  refine dZ (ba (cj kf.ie kf.ib (au aa (au aa (au (cH kf.iN) aU))) (jD kf sf.ws ⟨Nat.le_refl _,fun j h1 h2=>absurd h2 (by lia)⟩ he hw hl))) ?_
  refine dZ (mC (cj kf.qh kf.qe (au aa (au aa aU)) (uk kf sf hM hf hl gw h))) ?_
  have h1:("Cannot declare ":Str).length=15:=by decide
  have h2:(" twice":Str).length=6:=by decide
  have hd:(declS xs).length≤60000:=by
    unfold declS
    rw [pj]
    have:Str.empty.length=0:=rfl
    simp only [List.map_cons,List.map_nil,List.sum_cons,List.sum_nil]
    lia
  refine n8 (lS (σ₁:=σ) (iL (b:=true) (or_cons (b:=true) (c:=false) (dw (rb (qR (lM kf kc ko aa O.st.ob O.st.di (.inr ⟨rfl,rfl⟩) ko.fFlags ko.mR ko.mS ko.mT) O.st.fl (kc.iX _) kc.qO kc.qP rfl ko.q9 (au aa (au (rf kf ko ko.q8) aU))
    ((u4 kf kc O.st.fl rfl O.fc pa (by lia)).toG ⟨by simp,rfl⟩)) fun ω ω h=>h) (.bool _)) fun h=>absurd h (by decide))) (fun ω=>?_) fun h=>absurd h (by decide))
  refine n8 ((Qz (P:=never) (x:=kQ (declS xs) (n - q)) (Z:=fun U=>∃ more,(681,tabObj more)∈U) kf ke ?_).weak (fun ω ω ω h=>h) fun E' U ι a0 h=>h.2)
  refine (Bw kf.yL kf.yv (au aa (au aa (au (vk (ys:=[("Cannot declare ":Str),tupS xs,(" twice":Str)]) (z:=declS xs) (.cons eD (.cons (Qx aa (by lia)) (.cons eD .nil))) (by simp only [List.map_cons,List.map_nil,List.sum_cons,List.sum_nil]; lia)) aU)))
    (Qv (D:=D+5) kf ke hl hn vq hq ho (by lia) hP fL)).mono fun a' E' U h=>?_
  obtain ⟨rfl,ex,t,tk,F,fo,c',co,more,rfl,rfl⟩:=h
  refine ⟨rfl,ex,t,tk,rfl,_,rfl,more,.tail _ (.tail _ ?_)⟩
  have:=List.mem_map_of_mem (f:=fun p:Addr×Obj=>if p.1=681 then ((681:Addr),tabObj more) else p) hP
  rwa [if_pos rfl] at this
end
theorem QF {a:Addr} {o o':Obj} {σ:Led} (hn:(σ.map (·.1)).Nodup) (h1:(a,o)∈σ) (h2:(a,o')∈σ):o=o':=by
  induction σ with
  | nil=>cases h1
  | cons p σ ih=>
    rw [List.map_cons,List.nodup_cons] at hn
    have no:∀ {o},(a,o)∈σ→a≠p.1:=fun h e=>hn.1 (e▸List.mem_map_of_mem (f:=(·.1)) h)
    rcases List.mem_cons.mp h1 with e1 | h1
    · exact (List.mem_cons.mp h2).elim (fun e2=>(Prod.mk.inj (e1.trans e2.symm)).2) fun h2=>absurd (congrArg Prod.fst e1) (no h2)
    · exact (List.mem_cons.mp h2).elim (fun e2=>absurd (congrArg Prod.fst e2) (no h1)) fun h2=>ih hn.2 h1 h2
theorem QG {l:List Addr} (h:l.Nodup) (i j:Nat) {a b:Addr} (hi:l[i]?=some a) (hj:l[j]?=some b) (tL:Nat.beq i j=false):a≠b:=fun e=>
  Nat.ne_of_beq_eq_false tL ((List.getElem?_inj (List.getElem?_eq_some_iff.mp hi).1 h).mp (hi.trans ((congrArg some e).trans hj.symm)))
theorem lT {b d e:Addr} (h1:b≠d) (h2:b≠e):b∉[d]∧b∉[e]:=⟨mt List.mem_singleton.mp h1,mt List.mem_singleton.mp h2⟩
section
variable {g:Gx} {pl:Bool} {D:Nat} {sc:Scope} {E E' E₁ aO:ag} {σ U σ₁ σ₂ aN:Led}
theorem d8.pend {a:fK} {names:List (List Nat)} {F1 F2:List Addr} {n f mv:Nat} {led pl:Bool} (O:d8 g σ a names F1 F2) (hN:bY σ):d8 g (putL σ a.sp (fh n f mv led pl)) a names F1 F2:=by
  obtain ⟨n',f',o8,o9,dK,hp⟩:=O.st.pd
  have keep:∀ p∈σ,p.1≠a.sp→p∈putL σ a.sp (fh n f mv led pl):=fun p hp hn=>cn (x:=p.1) (o:=p.2) hp hn
  have ne:∀ (b:Addr) (o:Obj),(b,o)∈σ→o.cls≠.type "set"→b≠a.sp:=fun b o hb hc e=>hc (by rw [QF hN.1 (show (a.sp,o)∈σ from e▸hb) hp])
  have vu:(.type "dict":Value)≠.type "set":=by decide
  have QH:∀ p∈σ,p.1∈F1→p.1≠a.sp:=fun p ω hF e=>(O.off a.sp (by simp)).1 (e▸hF)
  have QI:∀ p∈σ,p.1∈F2→p.1≠a.sp:=fun p ω hF e=>(O.off a.sp (by simp)).2 (e▸hF)
  refine ⟨⟨keep _ O.st.ob (ne _ _ O.st.ob fun h=>nomatch h),keep _ O.st.di (ne _ _ O.st.di vu),⟨keep _ O.st.nd.ob (ne _ _ O.st.nd.ob fun h=>nomatch h),keep _ O.st.nd.di (ne _ _ O.st.nd.di vu)⟩,⟨keep _ O.st.fl.ob (ne _ _ O.st.fl.ob fun h=>nomatch h),keep _ O.st.fl.di (ne _ _ O.st.fl.di vu)⟩,⟨n,f,mv,led,pl,gy hp⟩⟩,
    O.ch.mono fun p hp hF=>keep p hp (QH p hp hF),O.fc.mono fun p hp hF=>keep p hp (QI p hp hF),O.off,O.apart⟩
noncomputable abbrev lU (g:Gx) (σ:Led) (n dn dN:Addr) (t:Tok):Led:=putL ((dN,emptyDict)::(n,instObj 463 dn)::(dn,emptyDict)::σ) dn (dictOf [ent g "dict" t (.ref dN)] 1)
section
variable {c:Cx} {ι:Led} {m:Str→Option Value} {s:Shared} {Q:Value→Shared→Prop} {Er:Value→Shared→Prop} {p q:Pos}
theorem QJ (kf:KF g) (kc:KC g) (ko:KO g) (h2:sc.names.lookup ("NestedDict":Str)=some .globalImplicit) (ok:c.Ok g sc pl (D+4)) (S:St g c (ι++σ) m s.heap) (R:bF ι E m) (ap:Ap c ι σ) (ht:0 < s.toks)
    (k:∀ n dn dN t ae m' h' ao,0 < ao→St g c (ae++lU g σ n dn dN t) m' h'→bF ae E m'→Ap c ae (lU g σ n dn dN t)→(∀ p∈ι,p∈ae)→Q (.ref n) {s with heap:=h',toks:=ao}):wpAny g.M c.A (eval (.Call (.Name "NestedDict" p) [] [] q) (c.env sc)) Q Er s:=
  (Ba (E:=E) (sc:=sc) (p:=p) (pos:=q) kf.yS ko.kN (Ou (g:=g) (pl:=pl) (D:=D) (σ:=σ) kf kc).fn h2 (by kernel_rfl)).on c ι m s Q Er ok S R ap ht fun v a E' U ae m' h' ao aQ S' R' aX hs hv hP=>by
    obtain ⟨rfl,n,dn,rfl,_,dN,t,rfl⟩:=hP
    exact hv.is (k n dn dN t ae m' h' ao aQ S' R' aX hs)
theorem QK (kf:KF g) (kc:KC g) (ko:KO g) (h3:sc.names.lookup ("Flags":Str)=some .globalImplicit) (ok:c.Ok g sc pl (D+4)) (S:St g c (ι++σ) m s.heap) (R:bF ι E m) (ap:Ap c ι σ) (ht:0 < s.toks)
    (k:∀ f df dF sp tf tp led ae m' h' ao,0 < ao→St g c (ae++jL g σ f df dF sp tf tp led) m' h'→bF ae E m'→Ap c ae (jL g σ f df dF sp tf tp led)→(∀ p∈ι,p∈ae)→Q (.ref f) {s with heap:=h',toks:=ao}):wpAny g.M c.A (eval (.Call (.Name "Flags" p) [] [] q) (c.env sc)) Q Er s:=
  (Ba (E:=E) (sc:=sc) (p:=p) (pos:=q) kf.tG ko.kF (Ow (g:=g) (pl:=pl) (D:=D) (σ:=σ) kf kc).fn h3 (by kernel_rfl)).on c ι m s Q Er ok S R ap ht fun v a E' U ae m' h' ao aQ S' R' aX hs hv hP=>by
    obtain ⟨rfl,f,df,rfl,_,dF,sp,tf,tp,led,rfl⟩:=hP
    exact hv.is (k f df dF sp tf tp led ae m' h' ao aQ S' R' aX hs)
theorem QL (kf:KF g) (kc:KC g) (ko:KO g) {n f:Addr} (ok:c.Ok g sc pl (D+4)) (S:St g c (ι++σ) m s.heap) (ap:Ap c ι σ) (ht:0 < s.toks)
    (k:∀ x dx ae h' ao,0 < ao→St g c (ae++(x,dJ n f dx)::(dx,emptyDict)::σ) m h'→Ap c ae ((x,dJ n f dx)::(dx,emptyDict)::σ)→(∀ p∈ι,p∈ae)→Q (.ref x) {s with heap:=h',toks:=ao}):wpAny g.M c.A (call (.ref 535) [.ref n,.ref f]) Q Er s:=
  wpAny_with_toks (n:=1) ht ((PD (g:=g) (pl:=pl) (D:=D+1) kf kc ko (n:=n) (f:=f)).fn c sc ι m _ _ _ _ ok S ap ht (.cons (.val _) (.cons (.val _) .nil)) fun v r ae U h' ao S' aX hs hv hP et=>by
    obtain ⟨x,dx,rfl,rfl⟩:=hP
    exact hv.is (k x dx ae h' ao et S' aX hs))
end
theorem QM {x dx n f df dF sp tf tp dn dN:Addr} {t:Tok} {led:Bool} (hN:bY ((x,dJ n f dx)::(dx,emptyDict)::jL g (lU g σ n dn dN t) f df dF sp tf tp led)):
    d8 g ((x,dJ n f dx)::(dx,emptyDict)::jL g (lU g σ n dn dN t) f df dF sp tf tp led) ⟨x,n,f,dx,dn,df,dN,dF,sp,t,tf,tp⟩ [] [dN] [dF]∧∀ p∈σ,p∈(x,dJ n f dx)::(dx,emptyDict)::jL g (lU g σ n dn dN t) f df dF sp tf tp led∧p.1≠dN∧p.1≠dF∧p.1≠sp:=by
  have hn:=hN.1
  rw [List.map_cons,List.map_cons,n0,List.map_cons,n0,List.map_cons,List.map_cons,List.map_cons,n0,List.map_cons,List.map_cons,List.map_cons] at hn
  have hn:([x,dx,sp,dF,f,df,dN,n,dn]++σ.map (·.1)).Nodup:=hn
  have kM:∀ b∈[x,dx,sp,dF,f,df,dN,n,dn],∀ p∈σ,p.1≠b:=fun b hb p hp e=>(List.nodup_append.mp hn).2.2 b hb b (e▸List.mem_map_of_mem (f:=(·.1)) hp) rfl
  have ne:=fun {a b:Addr} (i j:Nat)=>QG (a:=a) (b:=b) (List.nodup_append.mp hn).1 i j
  have c5:sp≠df:=ne 2 5 rfl rfl rfl
  have d5:dF≠df:=ne 3 5 rfl rfl rfl
  have e5:f≠df:=ne 4 5 rfl rfl rfl
  have lift:∀ q∈lU g σ n dn dN t,q.1≠df→q∈(x,dJ n f dx)::(dx,emptyDict)::jL g (lU g σ n dn dN t) f df dF sp tf tp led:=fun q hq aT=>
    .tail _ (.tail _ (cn (x:=q.1) (o:=q.2) (.tail _ (cn (x:=q.1) (o:=q.2) (.tail _ (.tail _ (.tail _ hq))) aT)) aT))
  exact ⟨⟨{
    ob:=.head _
    di:=.tail _ (.head _)
    nd:=⟨lift (n,_) (cn (.tail _ (.head _)) (ne 7 8 rfl rfl rfl)) (ne 7 5 rfl rfl rfl),lift (dn,_) (gy (.tail _ (.tail _ (.head _)))) (ne 8 5 rfl rfl rfl)⟩
    fl:=⟨.tail _ (.tail _ (cn (.tail _ (cn (.tail _ (.head _)) e5)) e5)),.tail _ (.tail _ (gy (.tail _ (gy (.tail _ (.tail _ (.head _)))))))⟩
    pd:=⟨0,0,0,led,true,.tail _ (.tail _ (cn (.head _) c5))⟩},
    ⟨rfl,emptyDict,lift (dN,_) (cn (.head _) (ne 6 8 rfl rfl rfl)) (ne 6 5 rfl rfl rfl),kK⟩,⟨rfl,emptyDict,.tail _ (.tail _ (cn (.tail _ (cn (.head _) d5)) d5)),kK⟩,
    List.forall_mem_cons.mpr ⟨lT (ne 0 6 rfl rfl rfl) (ne 0 3 rfl rfl rfl),List.forall_mem_cons.mpr ⟨lT (ne 1 6 rfl rfl rfl) (ne 1 3 rfl rfl rfl),List.forall_mem_cons.mpr ⟨lT (ne 7 6 rfl rfl rfl) (ne 7 3 rfl rfl rfl),List.forall_mem_cons.mpr ⟨lT (ne 8 6 rfl rfl rfl) (ne 8 3 rfl rfl rfl),List.forall_mem_cons.mpr ⟨lT (ne 4 6 rfl rfl rfl) (ne 4 3 rfl rfl rfl),List.forall_mem_cons.mpr ⟨lT (ne 5 6 rfl rfl rfl) (ne 5 3 rfl rfl rfl),List.forall_mem_cons.mpr ⟨lT (ne 2 6 rfl rfl rfl) (ne 2 3 rfl rfl rfl),fun ω q=>nomatch q⟩⟩⟩⟩⟩⟩⟩,
    fun b hb=>mt List.mem_singleton.mp (List.mem_singleton.mp hb▸ne 6 3 rfl rfl rfl)⟩,
    fun q hq=>⟨lift q (cn (x:=q.1) (o:=q.2) (.tail _ (.tail _ (.tail _ hq))) (kM dn (by simp) q hq)) (kM df (by simp) q hq),kM dN (by simp) q hq,kM dF (by simp) q hq,kM sp (by simp) q hq⟩⟩
theorem QN (kf:KF g) (kc:KC g) (ko:KO g) {p1 p2 p3 p4 p5 p6:Pos} (h1:autoParam (sc.names.lookup ("Output":Str)=some .globalImplicit) aK) (h2:autoParam (sc.names.lookup ("NestedDict":Str)=some .globalImplicit) aK) (h3:autoParam (sc.names.lookup ("Flags":Str)=some .globalImplicit) aK):
    CG g pl (D+4) sc E σ (fun c=>eval (.Call (.Name "Output" p1) [.Call (.Name "NestedDict" p2) [] [] p3,.Call (.Name "Flags" p4) [] [] p5] [] p6) (c.env sc)) Rep (fun a E' U=>E'=E∧∃ o:fK,a=.val (.ref o.x)∧d8 g U o [] [o.dN] [o.dF]∧(∀ p∈σ,p∈U∧p.1≠o.dN∧p.1≠o.dF∧p.1≠o.sp)∧bY U):=by
  refine .mk fun c ι m s Q Er ok S R' ap ht k=>?_
  refine wpAny_Call_NameR ((cH kf.yU h1 (by kernel_rfl)).on c ι m s _ _ ok S R' ap ht fun v ar m₁ ah ax av ai aq aj ak hv=>hv.is ?_)
  refine callWith_K (have ⟨_,I⟩:=ai; ok.kh I) ko.keep (spliced_more (QJ kf kc ko h2 ok ai aq aj av fun n dn dN t aG m₂ aB a9 a8 aw aC ay aA=>spliced_more (QK kf kc ko h3 ok aw aC ay a8 fun f df dF sp tf tp led br cD bu bx ck bj cI bp bo=>spliced_none ⟨have ⟨_,I⟩:=bj; ok.kh I,QL kf kc ko ok bj bp ck fun x dx iS eO jE iv dM eS fb=>?_⟩) rfl) rfl) rfl rfl
  have hN:=dM.gR kc ok eS
  have O:=QM hN
  exact k _ _ E _ iS cD eO jE iv dM (cI.mono fb) eS (fun p hp=>fb p (bo p (aA p (ak p hp)))) (.val _) ⟨rfl,⟨x,n,f,dx,dn,df,dN,dF,sp,t,tf,tp⟩,rfl,O.1,O.2,hN⟩
end
section
variable {g:Gx} {pl:Bool} {D:Nat} {sc:Scope} {E E' E₁ aO:ag} {σ U σ₁ σ₂ aN:Led} {X:Value} {PX:ag→Led→Led→Option Value→Prop} {P:Fl→ag→Led→Prop}
theorem QO {n:Nat} {p:Pos} {body:List Stmt} {pos:Pos} (J:Nat→ag→Led→Prop)
    (step:∀ n E₁ σ₁,J n E₁ σ₁→eF g pl D sc E₁ σ₁ body (fun fl E' U=>((fl=.next∨fl=.cont)∧∃ m,m < n∧J m E' U)∨(fl=.brk∧P .next E' U)∨∃ a,fl=.ret a∧P (.ret a) E' U) X PX)
    {k:Nat} (h0:J k E σ):fD g pl D sc E σ (.While (.Constant (.bool true) n p) body [] pos) P X PX:=by
  refine .mk fun c ι m s Q Er ok S R ap ht kk kx=>?_
  refine wpAny_While ?_
  refine codeAny_whileLoop (WhileInv g c ι s J) ?_ k ⟨E,σ,ι,m,s.heap,s.toks,rfl,ht,S,R,ap,fun ω h=>h,h0⟩
  rintro n' s' ⟨E₁,σ₁,ar,m₁,ah,ax,rfl,av,ai,aq,aj,ak,hJ⟩
  refine (dw iJ (.bool true):cv g pl D sc E₁ σ₁ (.Constant (.bool true) n p) true σ₁).on c ar m₁ _ _ _ ok ai aq aj av fun v aG m₂ aB a9 a8 aw aC ay aA hv=>?_
  subst hv
  refine (step n' E₁ σ₁ hJ).on c aG m₂ _ _ _ ok aw aC ay a8 (fun v b gD aN br cD bu bx ck bj cI bp bo hv hP=>?_) fun e a0 aO σ₂ br cD h bu bx ck bj cI bp bo y lz=>?_
  · have bk:∀ p∈ι,p∈br:=fun p hp=>bo p (aA p (ak p hp))
    rcases hP with ⟨rfl | rfl,n',bq,qE⟩ | ⟨rfl,hP⟩ | ⟨a,rfl,hP⟩
    · refine hv.kZ ?_; exact ⟨n',bq,gD,aN,br,cD,bu,bx,rfl,ck,bj,cI,bp,bk,qE⟩
    · obtain ⟨_,rfl⟩:=hv.inv; exact ⟨n',bq,gD,aN,br,cD,bu,bx,rfl,ck,bj,cI,bp,bk,qE⟩
    · obtain ⟨_,rfl⟩:=hv.inv; exact kk _ _ _ _ br cD bu bx ck bj cI bp bk .next hP
    · exact hv.pV fun ω hv=>kk _ _ _ _ br cD bu bx ck bj cI bp bk (.ret hv) hP
  · refine qr (s:={s with heap:=bu,toks:=bx}) ok bj y fun h3 aP T vs a1 a2 a3 v0 F3=>?_
    refine zh (s:={s with heap:=h3,toks:=bx}) (L:=c.L) rfl F3 fun h4 F4=>?_
    exact kx e a0 aO σ₂ br cD h h4 bx ck bj cI bp (fun p hp=>bo p (aA p (ak p hp))) (F4.fy v0 a1 a2 a3) lz
theorem Bx {x y:Str} {p1 p2 tp pos:Pos} {k:Nat} {e:Expr} {a b:AV} {P1:Led→Prop} (hv:lx g pl D sc E σ e (fun r E' U=>E'=E∧r=.tup [a,b]∧P1 U) X (fun E' U ι a0=>PX E' U ι a0)) (hu:Upd x a E E₁) (gn:Upd y b E₁ aO) (hk:autoParam (sc.names.lookup x=some .local) aK) (jr:sc.names.lookup y=some .local:=by kernel_rfl)
    (hs:autoParam (∀ env,swapsWithSole [.Tuple [.Name x p1,.Name y p2] k tp] e pos.line env=pure false) aI) (hw:autoParam (∀ env,swappedStores [.Tuple [.Name x p1,.Name y p2] k tp] e env=pure none) aI):
    fD g pl D sc E σ (.Assign [.Tuple [.Name x p1,.Name y p2] k tp] e pos) (fun fl E' U=>fl=.next∧E'=aO∧P1 U) X PX:=by
  refine .mk fun c ι m s Q Er ok S R ap ht kk kx=>?_
  refine Assign_Tuple ?_ (hs _) (hw _)
  refine hv.on c ι m s _ _ ok S R ap ht (fun v r E' U ar m₁ ah ax av ai aq aj ak hv hP=>?_) kx
  obtain ⟨rfl,rfl,QP⟩:=hP
  refine hv.isTup fun ω ω hm hr=>?_
  obtain ⟨u,v,rfl,nS,ki⟩:=hr.two
  rw [PyProof.Rows.assign_Tuple]
  refine wpAny_bind (wpAny_standAt ?_)
  unfold unpack
  refine wpAny_bind (wpAny_holding ?_)
  show wpAny g.M c.A (unpackItems (.ref _) [u,v].length none) _ _ _
  refine sZ (vs:=[u,v]) (s:={s with heap:=ah,toks:=ax}) ok ai aj hm fun aB aw=>?_
  show wpAny g.M c.A (assignInOrder [assign (.Name x p1) (c.env sc),assign (.Name y p2) (c.env sc)] [u,v]) _ _ _
  refine wpAny_bind (wpAny_holding (PySem.wpAny_assign_Name (fq ok aw hk fun bu bj=>?_)))
  refine wpAny_bind (wpAny_holding (PySem.wpAny_assign_Name (fq ok bj jr fun eO dM=>?_)))
  exact wpAny_pure (kk .next .next aO U ar _ eO _ (Nat.succ_pos _) dM ((aq.upd hu nS).upd gn ki) aj ak .next ⟨rfl,rfl,QP⟩)
end
structure Doc (l:List Nat) (gf iZ:List (List Nat)) (n1 n2:Nat):Prop where
  len:l.length≤100000
  cr:13∉l
  s1:gf.length≤1000
  s2:iZ.length≤1000
  o1:l[0]?=some 91
  k1:kC l 1 gf n1
  f1:∃ e,l[1]?=some e∧eo.contains e=false∧e≠91
  c1:l[n1]?=some 93
  nl:l[n1+1]?=some 10
  o2:l[n1+2]?=some 91
  k2:kC l (n1+3) iZ n2
  f2:∃ e,l[n1+3]?=some e∧eo.contains e=false∧e≠91
  c2:l[n2]?=some 93
  en:l.length=n2+1
section
variable {g:Gx} {pl:Bool} {D:Nat} {sc:Scope} {E E' E₁ aO:ag} {σ U σ₁ σ₂ aN:Led} {X:Value} {P:Fl→ag→Led→Prop} {PX:ag→Led→Led→Option Value→Prop}
theorem mY {st:Stmt} (h:fD g pl D sc E σ st P X PX):eF g pl D sc E σ [st] P X PX:=
  kq h fun fl E₁ σ₁ hp=>by
    cases fl with
    | next=>exact CX.of (bh.toG hp)
    | brk=>exact hp
    | cont=>exact hp
    | ret a=>exact hp
theorem rq {st:Stmt} {rest:List Stmt} {P₁:Fl→ag→Led→Prop} (h:dg g pl D sc E σ st P₁) (hr:∀ fl E₁ σ₁,P₁ fl E₁ σ₁→match fl with | .next=>eF g pl D sc E₁ σ₁ rest P X PX | fl=>P fl E₁ σ₁):eF g pl D sc E σ (st::rest) P X PX:=
  kq (CX.of h) hr
theorem CX.weak {α β:Type} {tr:Cx→Sem α} {R:Led→α→β→Prop} {P P':β→ag→Led→Prop} {QX pn:ag→Led→Led→Option Value→Prop} (h:CX g pl D sc E σ tr R P X QX) (hp:∀ b E' U,P b E' U→P' b E' U) (hx:∀ E' U ι a0,QX E' U ι a0→pn E' U ι a0):CX g pl D sc E σ tr R P' X pn:=
  .mk fun c ι m s Q Er ok S Rr ap ht k kx=>h.on c ι m s Q Er ok S Rr ap ht (fun v b E' U ae m' h' ao a1 a2 a3 a4 a5 a6 a7=>k v b E' U ae m' h' ao a1 a2 a3 a4 a5 a6 (hp _ _ _ a7)) fun e a0 E' U ae m' h h' ao a1 a2 a3 a4 a5 a6 a7=>kx e a0 E' U ae m' h h' ao a1 a2 a3 a4 a5 a6 (hx _ _ _ _ a7)
theorem rt {st:List Stmt} {fl:Fl} (h:ef g pl D sc E σ st fl E₁ σ₁) (hp:P fl E₁ σ₁):eF g pl D sc E σ st P X PX:=CX.of (h.toG hp)
theorem QQ {o:Expr} {apos pos p1 p2:Pos} {m1 m2:Nat} {x:List Nat} {ys zs:Str} (ho:Ev g pl D sc E σ o (T x) σ₁) (hx:13∉x) (hl:x.length≤100000) (hy:autoParam (ys=S [13,10]) aR) (hz:autoParam (zs=S [10]) aR)
    (hm:autoParam (∀ env,∃ pl,eval (.Call (.Attribute o "replace" apos) [.Constant (.str ys) m1 p1,.Constant (.str zs) m2 p2] [] pos) env=(do
      let ov ←eval o env
      standAt apos.atName
      let (f,first) ←holding [ov] (getMethod ov "replace" pl)
      callWith pos f first (backTo pos (starEach [.Constant (.str ys) m1 p1,.Constant (.str zs) m2 p2] env)) [])) aE):
    Ev g pl D sc E σ (.Call (.Attribute o "replace" apos) [.Constant (.str ys) m1 p1,.Constant (.str zs) m2 p2] [] pos) (T x) σ₁:=by
  subst hy hz
  have:=zA (x:=S x) ho (by decide) (by rw [bD,bD]; simp only [List.length_cons,List.length_nil]; lia) hm
  rwa [MH x [13,10] [10] 13 rfl hx] at this
theorem CX.iB (kc:KC g) {α β:Type} {tr:Cx→Sem α} {R:Led→α→β→Prop} {P:β→ag→Led→Prop} (h:bY σ→CX g pl D sc E σ tr R P X PX):CX g pl D sc E σ tr R P X PX:=
  .mk fun c ι m s Q Er ok S Rr ap ht k kx=>(h (S.gR kc ok ap)).on c ι m s Q Er ok S Rr ap ht k kx
theorem By (kf:KF g) (kc:KC g) (ko:KO g) {o:Expr} {p1 p2 p3 pos:Pos} {a:fK} {names:List (List Nat)} {F1 F2:List Addr} (ho:Ev g true (D+4) sc E σ o (.val (.ref a.x)) σ) (O:d8 g σ a names F1 F2)
    (hm:autoParam (∀ env,∃ pl,eval (.Call (.Attribute (.Attribute o "flags" p1) "finalize_pending" p2) [] [] p3) env=(do
      let ov ←eval (.Attribute o "flags" p1) env
      standAt p2.atName
      let (f,first) ←holding [ov] (getMethod ov "finalize_pending" pl)
      callWith p3 f first (backTo p3 (starEach [] env)) [])) aE)
    (mW:autoParam (∀ env,eval (.Attribute o "flags" p1) env=(do
      let v ←eval o env
      standAt p1.atName
      let r ←holding [v] (getAttr v "flags" true)
      letTemporaryGo o v r
      pure r)) aI)
    (hi:autoParam (∀ (c:Cx),interactive (c.env sc)=false) aI) (hs:autoParam (∀ (c:Cx),swapsWith (.Call (.Attribute (.Attribute o "flags" p1) "finalize_pending" p2) [] [] p3) none pos.line (c.env sc)=pure false) aI):
    dg g true (D+4) sc E σ (.Expr (.Call (.Attribute (.Attribute o "flags" p1) "finalize_pending" p2) [] [] p3) pos) (fun fl E' U=>fl=.next∧E'=E∧d8 g U a names F1 F2∧∀ p∈σ,p.1≠a.sp→p∈U):=by
  refine CG.iB kc fun hN=>?_
  obtain ⟨n,f,mv,led,dK,hp⟩:=O.st.pd
  refine (va (Ox (lM kf kc ko ho O.st.ob O.st.di (.inr ⟨rfl,rfl⟩) ko.fFlags ko.mR ko.mS ko.mT mW) O.st.fl (kc.iX _) kc.Ar kc.Av rfl ko.A3 (PS kf kc O.st.fl (by rfl) hp) hm) hi hs).mono fun fl E' U h=>?_
  obtain ⟨rfl,r,rfl,rfl,n',f',o8,o9,PR,rfl⟩:=h
  exact ⟨rfl,rfl,O.pend hN,fun p hp hn=>cn (x:=p.1) (o:=p.2) hp hn⟩
theorem Bz (kf:KF g) (sf:SF g) (kc:KC g) (ko:KO g) {f:Str→Option Value} (hM:(353,f)∈g.eK) (hf:fG f) {l:List Nat} {gf iZ:List (List Nat)} {n1 n2:Nat} (d:Doc l gf iZ n1 n2) {R:fK→Led→Prop} {PX:Led→Led→Option Value→Prop} (hR:∀ a U,R a U→iY g U a)
    (QR:∀ a σ₁ F1 F2,d8 g σ₁ a gf F1 F2→(∀ p∈σ,p∈σ₁)→dO g true (D+10) (.ref 573) [T l,.int ((n1+2:Nat):Int),.val (.ref a.x)] σ₁ (fun r U=>r=.tup [.int ((n2+1:Nat):Int),.tup (iZ.map T)]∧R a U) (.ref 364) PX):
    dO g true (D+11) (.ref 375) [T l] σ (fun r U=>∃ a,r=.val (.ref a.dN)∧R a U) (.ref 364) PX:=by
  obtain ⟨e1,BA,QS,QT⟩:=d.f1
  obtain ⟨e2,QU,XH,QV⟩:=d.f2
  have hlen:=d.len
  have QW:gf≠[]:=by have:=d.k1; obtain ⟨⟩:=this; simp
  let En:fK→Nat→List (List Nat)→Option AV→Option AV→ag:=fun a p h c lV=>[("s",some (T l)),("parse_float",some (.val (.type "float"))),("src",some (T l)),("pos",some (.int (p:Int))),("out",some (.val (.ref a.x))),("header",some (.tup (h.map T))),("char",c),("second_char",lV)]
  refine Mo (as:=[T l]) (bs:=[T l,.val (.type "float")]) (ps:=["s","parse_float"]) (rest:=["src","pos","out","header","char","second_char"]) [("s",some (T l)),("parse_float",some (.val (.type "float"))),("src",none),("pos",none),("out",none),("header",none),("char",none),("second_char",none)] kf.yh ?_ ?_
  · exact fun doc pm an bb ct s ι vs kx hv=>hv.dS fun v h1=>⟨[v,.type "float"],.cons h1 (.cons (.val _) .nil),nY.to ⟨_,rfl,fun ω ω ω ω ω ω=>rfl⟩ kx kf.yz⟩
  refine dZ lr ?_
  refine dZ (ba (QQ aa d.cr hlen)) ?_
  refine dZ (ba (bE (n:=0))) ?_
  refine rq (P₁:=fun fl E' U=>fl=.next∧∃ a:fK,E'=([("s",some (T l)),("parse_float",some (.val (.type "float"))),("src",some (T l)),("pos",some (.int ((0:Nat):Int))),("out",some (.val (.ref a.x))),("header",none),("char",none),("second_char",none)]:ag)∧d8 g U a [] [a.dN] [a.dF]∧(∀ p∈σ,p∈U∧p.1≠a.dN∧p.1≠a.dF∧p.1≠a.sp)∧bY U)
    (n5 (QN kf kc ko) fun r E₁ σ₁ h=>?_) ?_
  · obtain ⟨rfl,a,rfl,h1,h2,h3⟩:=h
    exact ⟨_,.there (.there (.there (.there .here))),rfl,a,rfl,h1,h2,h3⟩
  rintro _ _ σ₁ ⟨rfl,a,rfl,hO,dz,gb⟩
  refine dZ (ba (fm aU)) ?_
  refine dZ (ba (cj kf.yM kf.yx (au aa aU) (NA kf))) ?_
  refine kq (P₁:=fun fl E' U=>fl=.next∧∃ c lV p h,E'=En a p h c lV∧R a U) (QO (fun n E' U=>(n=2∧E'=En a 0 [] none none∧d8 g U a [] [a.dN] [a.dF]∧(∀ p∈σ,p∈U∧p.1≠a.dN∧p.1≠a.dF∧p.1≠a.sp))∨(n=1∧∃ F1 F2 c lV,E'=En a (n1+2) gf c lV∧d8 g U a gf F1 F2∧(∀ p∈σ,p∈U∧p.1≠a.sp))) ?_ (k:=2) (.inl ⟨rfl,rfl,hO,dz⟩)) ?_
  · rintro n E₁ σ₁ (⟨rfl,rfl,O,fr⟩ | ⟨rfl,F1,F2,c,lV,rfl,O,fr⟩)
    · refine dZ (ba (cj kf.ie kf.ib (au aa (au aa (au (cH kf.iN) aU))) (jD kf sf.ws ⟨Nat.le_refl _,fun j h1 h2=>absurd h2 (by lia)⟩ d.o1 (by decide) hlen))) ?_
      refine dZ (eQ (bI (ba (dU aa aa d.o1 (by lia))) bh)) ?_
      refine dZ (cE ((bw aa (bK (l:=[10])) dH).cast (by decide)) bh) ?_
      refine kq (P₁:=fun fl E' U=>fl=.next∧E'=En a (n1+1) gf (some (T [91])) (some (T [e1]))∧∃ F1 F2,d8 g U a gf F1 F2∧∀ p∈σ,p∈U∧p.1≠a.sp) (lS (b:=false) ((bw aa (cH kf.tF) (jC sf.init)).cast (by decide)) (fun h=>absurd h (by decide)) fun ω=>mY (lS (b:=true) ((bw aa (bK (l:=[91])) dH).cast (by decide)) (fun ω=>?_) fun h=>absurd h (by decide))) ?_
      · refine dZ (eQ (bI (ba (dU (k:=0+1) aa (bP aa (bE (n:=1)) kr) BA (by lia))) bh)) ?_
        refine rq (By (D:=D+6) kf kc ko aa O) ?_
        rintro _ _ σ₂ ⟨rfl,rfl,vv,vw⟩
        refine kq (P₁:=fun fl E' U=>fl=.next∧E'=En a (n1+1) gf (some (T [91])) (some (T [e1]))∧∃ F1 F2,d8 g U a gf F1 F2∧∀ p∈σ,p∈U∧p.1≠a.sp) (lS (b:=false) ((bw aa (bK (l:=[91])) dH).cast (by simpa using QT)) (fun h=>absurd h (by decide)) fun ω=>mY ?_) ?_
        · refine fD.weak (Bx (a:=.int ((n1+1:Nat):Int)) (b:=.tup (gf.map T)) (P1:=fun U=>∃ F1 F2,d8 g U a gf F1 F2∧∀ p∈σ,p∈U∧p.1≠a.sp) ?_ (.there (.there (.there .here))) (.there (.there (.there (.there (.there .here)))))) (fun fl E' U h=>?_) fun ω ω ω ω h=>h
          · refine CX.of (CG.mono (Bw kf.tC kf.tj (au aa (au aa (au aa aU))) (Bb (D:=D) (k:=0) kf sf kc ko hM hf hlen d.s1 BA QS d.k1 d.c1 vv QW.symm)) fun r E' U h=>?_)
            obtain ⟨rfl,rfl,h1,h2,h3,h4⟩:=h
            obtain ⟨lN,kP,h5⟩:=h3 rfl
            exact ⟨rfl,rfl,lN,kP,h5,fun p hp=>⟨h4 p (vw p (fr p hp).1 (fr p hp).2.2.2) (by simpa using (fr p hp).2.1) (by simpa using (fr p hp).2.2.1),(fr p hp).2.2.2⟩⟩
          · obtain ⟨rfl,rfl,h1⟩:=h
            exact ⟨rfl,rfl,h1⟩
        rintro _ _ aN ⟨rfl,rfl,h3⟩
        exact rt (bI (ba (cj kf.ie kf.ib (au aa (au aa (au (cH kf.iN) aU))) (jD (n:=n1+1) kf sf.ws ⟨Nat.le_refl _,fun j h1 h2=>absurd h2 (by lia)⟩ d.nl (by decide) hlen))) bh) ⟨rfl,rfl,h3⟩
      · rintro _ _ aN ⟨rfl,rfl,F1,F2,QY,QZ⟩
        refine dZ (ba (cj kf.tB kf.th (au aa (au aa aU)) (Nr kf d.nl (by decide) hlen))) ?_
        refine dZ (eQ (bI (ba (dU aa aa d.nl (by lia))) bh)) ?_
        refine dZ (cE ((bw aa (bK (l:=[10])) ju).cast (by decide)) bh) ?_
        exact rt (bI (fB (bE (n:=1)) iR) bh) (.inl ⟨.inl rfl,1,by lia,.inr ⟨rfl,F1,F2,_,_,rfl,QY,QZ⟩⟩)
    · refine dZ (ba (cj kf.ie kf.ib (au aa (au aa (au (cH kf.iN) aU))) (jD (n:=n1+2) kf sf.ws ⟨Nat.le_refl _,fun j h1 h2=>absurd h2 (by lia)⟩ d.o2 (by decide) hlen))) ?_
      refine dZ (eQ (bI (ba (dU aa aa d.o2 (by lia))) bh)) ?_
      refine dZ (cE ((bw aa (bK (l:=[10])) dH).cast (by decide)) bh) ?_
      refine kq (P₁:=fun fl E' U=>fl=.next∧E'=En a l.length iZ (some (T [91])) (some (T [e2]))∧R a U) (lS (b:=false) ((bw aa (cH kf.tF) (jC sf.init)).cast (by decide)) (fun h=>absurd h (by decide)) fun ω=>mY (lS (b:=true) ((bw aa (bK (l:=[91])) dH).cast (by decide)) (fun ω=>?_) fun h=>absurd h (by decide))) ?_
      · refine dZ (eQ (bI (ba (dU (k:=n1+2+1) aa (bP aa (bE (n:=1)) kr) QU (by lia))) bh)) ?_
        refine rq (By (D:=D+6) kf kc ko aa O) ?_
        rintro _ _ σ₂ ⟨rfl,rfl,vv,vw⟩
        refine kq (P₁:=fun fl E' U=>fl=.next∧E'=En a l.length iZ (some (T [91])) (some (T [e2]))∧R a U) (lS (b:=false) ((bw aa (bK (l:=[91])) dH).cast (by simpa using QV)) (fun h=>absurd h (by decide)) fun ω=>mY ?_) ?_
        · refine fD.weak (Bx (a:=.int ((n2+1:Nat):Int)) (b:=.tup (iZ.map T)) (P1:=fun U=>R a U) ?_ (.there (.there (.there .here))) (.there (.there (.there (.there (.there .here)))))) (fun fl E' U h=>?_) fun ω ω ω ω h=>h
          · refine CX.weak (t6 kf.tC kf.tj (au aa (au aa (au aa aU))) (QR a σ₂ F1 F2 vv fun p hp=>vw p (fr p hp).1 (fr p hp).2)) (fun r E' U h=>⟨h.1,h.2⟩) fun E' U ι a0 h=>h.2
          · obtain ⟨rfl,rfl,h1⟩:=h
            exact ⟨rfl,by rw [d.en],h1⟩
        rintro _ _ aN ⟨rfl,rfl,h3⟩
        exact rt (bI (ba (cj kf.ie kf.ib (au aa (au aa (au (cH kf.iN) aU))) (Nv kf sf.ws ⟨Nat.le_refl _,fun j h1 h2=>absurd h2 (by lia)⟩ hlen))) bh) ⟨rfl,rfl,h3⟩
      · rintro _ _ aN ⟨rfl,rfl,ru⟩
        refine dZ (ba (cj kf.tB kf.th (au aa (au aa aU)) (Nw kf hlen))) ?_
        refine rq (P₁:=fun fl E' U=>fl=.brk∧E'=En a l.length iZ (some (T [91])) (some (T [e2]))∧R a U) (tW (PX:=fun E' U ω ω=>E'=En a l.length iZ (some (T [91])) (some (T [e2]))∧U=aN) (n8 (zj (uw aa aa (Nat.le_refl _) (by lia)))) ?_ kf.qj uv (by decide+kernel) uq ur uu) ?_
        · rintro _ _ _ _ ⟨rfl,rfl⟩
          exact dX (M9.toG ⟨rfl,rfl,ru⟩)
        · rintro _ _ XI ⟨rfl,rfl,h4⟩
          exact .inr (.inl ⟨rfl,rfl,_,_,_,_,rfl,h4⟩)
  · rintro _ _ σ₂ ⟨rfl,c,lV,p,h,rfl,ru⟩
    have st:=hR _ _ ru
    exact rt (bO (cb (mM (lM kf kc ko aa st.ob st.di (.inl ⟨rfl,rfl⟩) ko.fData ko.vb ko.vc ko.vd) st.nd (kc.qN _) kc.qM kc.uN rfl (by rfl) rfl))) (.inl ⟨_,rfl,a,rfl,ru⟩)
end
theorem rv:∀ xs ys:List (List Nat),PyData.eqvAll (xs.map fun x=>.str (S x)) (ys.map fun x=>.str (S x))=decide (xs=ys)
  | [],[]=>rfl
  | [],_::_=>rfl
  | _::_,[]=>rfl
  | x::xs,y::ys=>by
    rw [List.map_cons,List.map_cons]
    unfold PyData.eqvAll PyData.eqv
    rw [rv xs ys,qa,Bool.eq_iff_iff]
    simp
noncomputable def i0 (xs:List (List Nat)):Prop:=∀ x∈xs,∀ c∈x,c < 1114112
theorem vx:∀ {xs:List (List Nat)},i0 xs→PyData.canLayAll0 (xs.map fun x=>.str (S x))=true
  | [],_=>rfl
  | x::xs,h=>by
    rw [List.map_cons]
    unfold PyData.canLayAll0 PyData.canLay0
    rw [vx fun y hy=>h y (.tail _ hy),Bool.and_true]
    unfold PyData.strOk
    have:∀ c∈x,c < 1114112:=h x (.head _)
    simp
    intro i hi
    exact this _ hi
section
variable {g:Gx} {pl:Bool} {D:Nat} {sc:Scope} {E E' E₁ aO:ag} {σ U σ₁ σ₂ aN:Led}
theorem rx {c:Cx} {ι:Led} {m:Str→Option Value} {h₀ h:Heap} {l:List AV} {v:Value} (I:Inv g c (ι++σ) m h₀ h) (hv:Rep ι v (.lst l)):∃ a vs,v=.ref a∧h.IsList a vs.toArray∧aY ι vs l:=by
  refine hv.jf fun ω ω ω hm ho hr=>?_
  exact ⟨_,_,rfl,⟨_,(I.nw _ (List.mem_append_left _ hm)).1,ho.1,ho.2.2⟩,hr⟩
theorem ry {c:Cx} {ι:Led} {m:Str→Option Value} {h₀ h:Heap} {xs:List (List Nat)} {v:Value} (I:Inv g c (ι++σ) m h₀ h) (hv:Rep ι v (TL xs)):∃ as,Reads h v (.list (xs.map fun x=>.str (S x))) as:=by
  refine hv.jf fun ω ω ω hm ho hr=>?_
  obtain ⟨h1,h2,n,h3⟩:=ho
  exact ⟨_,.list (n:=n) (I.nw _ (List.mem_append_left _ hm)).1 h1 h3 (by simpa using vr hr)⟩
theorem rz {xs:List (List Nat)} (h:i0 xs):SeqAt.shaped (.list (xs.map fun x=>.str (S x)))=true:=by
  unfold SeqAt.shaped PyData.canLay0 PyData.depth
  rw [vx h,Bool.true_and,decide_eq_true_eq]
  have:=depthAll xs
  lia
theorem Q1 {xs ys:List (List Nat)} (hx:i0 xs) (hy:i0 ys):bN g pl D sc E σ (compareOp .NotEq) Rep (TL xs) (TL ys) (.bool (!decide (xs=ys))) σ:=by
  intro v u; refine .mk fun c ι m s Q Er ok ⟨h₀,I⟩ R ap ht pr k=>?_
  obtain ⟨as,r1⟩:=ry I pr.1
  obtain ⟨bs,r2⟩:=ry I pr.2
  refine SeqAt.compareNe_shaped r1 r2 (rz hx) (rz hy) (by have:=ok.un; unfold cLine; lia) ?_
  unfold PyData.eqv
  rw [rv]
  exact k _ ι m s.heap _ ⟨h₀,I⟩ R ap (fun p h=>h) (.bool _)
theorem Q2 {xs ys:List (List Nat)} (hx:i0 xs) (hy:i0 ys):bN g pl D sc E σ (compareOp .Eq) Rep (TL xs) (TL ys) (.bool (decide (xs=ys))) σ:=by
  intro v u; refine .mk fun c ι m s Q Er ok ⟨h₀,I⟩ R ap ht pr k=>?_
  obtain ⟨as,r1⟩:=ry I pr.1
  obtain ⟨bs,r2⟩:=ry I pr.2
  refine SeqAt.compareEq_shaped r1 r2 (rz hx) (rz hy) (by have:=ok.un; unfold cLine; lia) ?_
  unfold PyData.eqv
  rw [rv]
  exact k _ ι m s.heap _ ⟨h₀,I⟩ R ap (fun p h=>h) (.bool _)
theorem Q3 {xs:List (List Nat)} {n:Int} (hx:i0 xs):bN g pl D sc E σ (compareOp .NotEq) Rep (.tup [.int n,.tup (xs.map T)]) (.tup [.int n,.tup (xs.map T)]) (.bool false) σ:=by
  intro v u; refine .mk fun c ι m s Q Er ok ⟨h₀,I⟩ R ap ht pr k=>?_
  have rd:∀ {v},Rep ι v (.tup [.int n,.tup (xs.map T)])→Reads s.heap v (.tuple [.int n,eH xs]) []:=fun {v} hv=>by
    refine hv.isTup fun ω ω hm hr=>?_
    obtain ⟨_,_,rfl,h1,h2⟩:=hr.two
    obtain ⟨_,rfl⟩:=h1.inv
    obtain ⟨a,rfl,r⟩:=vt I h2
    exact .tuple (n:=0) (I.nw _ (List.mem_append_left _ hm)).1 rfl rfl (.cons (as:=[]) (bs:=[]) (.int _ _) (.cons (as:=[]) (bs:=[]) r .nil))
  have oM:SeqAt.shaped (.tuple [.int n,eH xs])=true:=by
    unfold SeqAt.shaped PyData.canLay0 PyData.canLayAll0 PyData.canLayAll0 PyData.canLayAll0 PyData.depth PyData.depthAll PyData.depthAll PyData.depthAll PyData.canLay0 eH PyData.depth
    dsimp only
    rw [vx hx]
    have:=depthAll xs
    simp
    lia
  refine SeqAt.compareNe_shaped (rd pr.1) (rd pr.2) oM oM (by have:=ok.un; unfold cLine; lia) ?_
  have he:PyData.eqv (.tuple [.int n,eH xs]) (.tuple [.int n,eH xs])=true:=by
    unfold PyData.eqv PyData.eqvAll PyData.eqvAll PyData.eqvAll eH PyData.eqv
    rw [rv]
    simp
  rw [he]
  exact k _ ι m s.heap _ ⟨h₀,I⟩ R ap (fun p h=>h) (.bool _)
theorem BB {l:List AV} (hl:l.length≤100000):Fn g pl D (.type "tuple") [.lst l] σ (.tup l) σ:=by
  intro c sc ι m s vs Q Er ok ⟨h₀,I⟩ ap ht aM k
  refine aM.dS fun v hv=>?_
  obtain ⟨a,ws,rfl,hL,hr⟩:=rx I hv
  refine call_tuple_list hL (fun h' hk=>?_) (by rw [sizeLine_eq]; have:=hr.length; simp; lia)
  have F':=I.fr.after hk
  have N':News h₀ c.L h' (ι++σ):=fun p hp=>⟨hk _ _ (I.nw p hp).1,(I.nw p hp).2⟩
  have J:Inv g c (ι++σ) m h₀ h':=⟨F',N',I.bl,I.fo⟩
  exact k _ ((h'.objs.size,cV ws)::ι) _ s.toks ⟨h₀,F'.push _,N'.push F' _,I.bl,I.fo⟩ (ap.cons fun q hq=>J.fresh q (List.mem_append_right _ hq)) (fun p hp=>.tail _ hp) (.tup (.head _) (hr.mono fun p hp=>.tail _ hp))
theorem Q4 {l:List AV} (hl:l.length≤100000):Fn g pl D (.builtin "len") [.lst l] σ (.int l.length) σ:=by
  intro c sc ι m s vs Q Er ok ⟨h₀,I⟩ ap ht aM k
  refine aM.dS fun v hv=>?_
  obtain ⟨a,ws,rfl,hL,hr⟩:=rx I hv
  have e:=hr.length
  refine call_len_list hL (by simp; lia) ?_
  have:=k (.int ws.toArray.size (s.toks+1)) ι s.heap (s.toks+1+1) ⟨h₀,I⟩ ap (fun ω h=>h) (by rw [List.size_toArray,e]; exact .int _ _)
  exact this
theorem BC {v i:Expr} {p:Pos} {l:List AV} {k:Nat} {a:AV} (hv:Ev g pl D sc E σ v (.lst l) σ₁) (hi:Ev g pl D sc E σ₁ i (.int (k:Int)) σ₂) (h2:(k:Int) < 2 ^ 63) (ha:l[k]?=some a)
    (hs:autoParam (∀ t u,subscripted i false (.ref t) (.int k u)=operate [.ref t,.int k u] (getItem (.ref t) (.int k u))) aW):Ev g pl D sc E σ (.Subscript v i p) a σ₂:=by
  refine Comes.of fun c ι m s Q Er ok S R ap ht kk=>?_
  refine Subscript_ (hv.on c ι m s _ _ ok S R ap ht fun qA ar m₁ ah ax av ai aq aj ak hX=>?_)
  refine hi.on c ar m₁ _ _ _ ok ai aq aj av fun qB aG m₂ aB a9 a8 aw aC ay aA bB=>?_
  refine bB.is fun u=>?_
  obtain ⟨h₀,I⟩:=aw
  obtain ⟨b,ws,rfl,hL,hr⟩:=rx I (hX.mono aA)
  obtain ⟨x,hx,uB⟩:=hr.get ha
  refine kba_turn (value':=PySem.Expr.Name (PySem.Str.ofString "_") ⟨0,0,0,0⟩) (fun ω=>rfl) ?_
  exact item_list hL (by lia) h2 (by simpa using hx) (kk _ aG m₂ aB _ ⟨h₀,I⟩ aC ay (fun p hp=>aA p (ak p hp)) uB) (hs _ _) (fun ω=>rfl)
end
section
variable {g:Gx} {pl:Bool} {D:Nat} {sc:Scope} {E E' E₁ aO:ag} {σ U σ₁ σ₂ aN:Led}
theorem vy {p:Pos}:lH g pl D sc E σ (.List [] p) (fun v U=>∃ L,v=.ref L∧U=(L,g9 [])::σ):=by
  refine .mk fun c ι m s Q Er ok S R' ap ht kk=>?_
  refine List_ (spliced_none ?_)
  refine wpAny_with_toks (n:=1) ht ?_
  obtain ⟨h₀,I⟩:=S
  refine newList_N I.fr I.nw (fun h' F N=>?_) (by simp [sizeLine])
  intro aQ
  have dz:∀ q∈ι++σ,s.heap.objs.size≠q.1:=fun q hq=>I.fresh q hq
  refine kk _ (.val (.ref s.heap.objs.size)) E _ ι m h' _ aQ (I.to F fun p hp=>N p ?_) R' ⟨fun p hp q hq=>?_,?_,ap.hx⟩ (fun ω h=>h) (.val _) ⟨rfl,_,rfl,_,rfl,rfl⟩
  · rcases List.mem_append.mp hp with hp | hp
    · exact .tail _ (List.mem_append_left _ hp)
    · rcases List.mem_cons.mp hp with rfl | hp
      · exact .head _
      · exact .tail _ (List.mem_append_right _ hp)
  · rcases List.mem_cons.mp hq with rfl | hq
    · exact (dz p (List.mem_append_left _ hp)).symm
    · exact ap.apart p hp q hq
  · rw [List.map_cons,List.nodup_cons]
    refine ⟨fun hm=>?_,ap.once⟩
    obtain ⟨q,h1,h2⟩:=List.mem_map.mp hm
    exact dz q (List.mem_append_right _ h1) h2.symm
theorem Q5 {so arg:Expr} {apos cu pos:Pos} {L:Addr} {o:Obj} {ys:List Value} {x:Str} (hs:Ev g pl D sc E σ so (.val (.ref L)) σ₁) (oQ:Ev g pl D sc E σ₁ arg (.str x) σ₂) (uW:(L,o)∈σ₁) (BD:(L,o)∈σ₂) (ho:dQ o ys) (hz:ys.length≤1000)
    (he:autoParam (∀ env,starEach [arg] env=(false,eval arg env)::starEach [] env) aI)
    (fJ:autoParam (∀ env,∃ pl,eval (.Call (.Attribute so "append" apos) [arg] [] cu) env=(do
      let ov ←eval so env
      standAt apos.atName
      let (f,first) ←holding [ov] (getMethod ov "append" pl)
      callWith cu f first (backTo cu (starEach [arg] env)) [])) aE)
    (hi:autoParam (∀ (c:Cx),interactive (c.env sc)=false) aI) (eT:autoParam (∀ env,swapsWith (.Call (.Attribute so "append" apos) [arg] [] cu) none pos.line env=pure false) aI):
    dg g pl D sc E σ (.Expr (.Call (.Attribute so "append" apos) [arg] [] cu) pos) (fun fl E' U=>fl=.next∧E'=E∧∃ tk o',dQ o' (ys++[.str x tk])∧U=putL σ₂ L o'):=by
  refine .mk fun c ι m s Q Er ok Ss R ap aQ kk=>?_
  refine wpAny_Expr ?_ (hi c) (eT _)
  obtain ⟨dK,fJ⟩:=fJ (c.env sc)
  refine MethodCall_ (hs.on c ι m s _ _ ok Ss R ap aQ fun v ar m₁ ah ax av ai aq aj ak hv=>?_) fJ
  refine hv.is ?_
  have iw:ah.get? L=some o:=by obtain ⟨h₀,I⟩:=ai; exact (I.nw _ (List.mem_append_right _ uW)).1
  refine getMethod_builtin (s:={s with heap:=ah,toks:=ax}) ⟨_,iw,ho.1⟩ F.plainAttrs_list F.slot_list_append F.type_list_append (fun b e=>by cases e; exact ⟨_,iw,ho.2.1⟩) ?_
  refine callWith_method1 ((au oQ aU he cu).on c ar m₁ {s with heap:=ah,toks:=ax} _ _ ok ai aq aj av fun vs aG m₂ aB a9 a8 aw aC ay aA aM=>?_) (he _) rfl
  refine aM.dS fun v hv=>?_
  refine hv.is fun tk=>?_
  have uX:aB.get? L=some o:=by obtain ⟨h₀,I⟩:=aw; exact (I.nw _ (List.mem_append_right _ BD)).1
  refine zW (s:={s with heap:=aB,toks:=a9}) uX ho (by rw [sizeLine_eq]; lia) fun h' o' gK bW fe=>?_
  exact kk .next _ E _ aG m₂ h' _ a8 (aw.put ay BD fe gK) aC ay.put (fun p hp=>aA p (ak p hp)) .next ⟨rfl,rfl,tk,o',bW,rfl⟩
theorem Q6 {L:Addr} {o:Obj} {ys:List Value} (hm:(L,o)∈σ) (ho:dQ o ys) (hz:ys.length≤1000):Fn g pl D (.builtin "len") [.val (.ref L)] σ (.int ys.length) σ:=by
  intro c sc ι m s vs Q Er ok ⟨h₀,I⟩ ap ht aM k
  refine aM.dS fun v hv=>?_
  refine hv.is ?_
  have hg:=(I.nw _ (List.mem_append_right _ hm)).1
  refine call_len_list (items:=ys.toArray) ⟨o,hg,ho.1,ho.2.2⟩ (by simp; lia) ?_
  have:=k (.int ys.toArray.size (s.toks+1)) ι s.heap (s.toks+1+1) ⟨h₀,I⟩ ap (fun ω h=>h) (by rw [List.size_toArray]; exact .int _ _)
  exact this
theorem bF.Q7 {ι:Led} {m:Str→Option Value} {x:Str} {L:Addr} {a:AV} (R:bF ι E m) (hx:(x,some (AV.val (.ref L)))∈(E:List (Str×Option AV))) (hu:Upd x a E E') (ha:Rep ι (.ref L) a):bF ι E' m:=by
  obtain ⟨v,h1,h2⟩:=R.at_ x _ hx
  obtain ⟨_,rfl⟩:=h2.inv
  have:=R.upd hu ha
  have e:(fun y=>if y=x then some (Value.ref L) else m y)=m:=by
    funext y
    split
    · rename_i h; rw [h,h1]
    · rfl
  rwa [e] at this
theorem CG.seal {α β:Type} {tr:Cx→Sem α} {R:Led→α→β→Prop} {P:β→ag→Led→Prop} {x:Str} {L:Addr} {o:Obj} {ys:List Value} {l:List AV} (hL:dQ o ys) (hr:∀ ι,aY ι ys l) (hx:(x,some (AV.val (.ref L)))∈(E:List (Str×Option AV))) (hu:Upd x (.lst l) E E') (h:CG g pl D sc E' σ tr R P):CG g pl D sc E ((L,o)::σ) tr R P:=by
  refine .mk fun c ι m s Q Er ok S Rr ap ht k=>?_
  obtain ⟨ai,aj⟩:=S.sealed ap
  refine h.on c ((L,o)::ι) m s Q Er ok ai ((Rr.mono fun p hp=>.tail _ hp).Q7 hx hu (.lst (.head _) hL (hr _))) aj ht fun v b ml U ae m' h' ao a1 a2 a3 a4 a5 a6 a7=>k v b ml U ae m' h' ao a1 a2 a3 a4 (fun p hp=>a5 p (.tail _ hp)) a6 a7
theorem Q8 {v dD:Expr} {p q:Pos} {l:List AV} {n:Nat} (hv:Ev g pl D sc E σ v (.lst l) σ₁) (hi:Ev g pl D sc E σ₁ dD (.int (n:Int)) σ₂) (hl:l.length≤100000)
    (hs:autoParam (∀ t r,subscripted (.Slice none (some dD) none q) false (.ref t) (.ref r)=operate [.ref r,.ref t] (getItem (.ref t) (.ref r))) aW)
    (bq:autoParam (∀ t r,letTemporaryGo v (.ref t) r=pure ()) aW):Ev g pl D sc E σ (.Subscript v (.Slice none (some dD) none q) p) (.lst (l.take n)) σ₂:=by
  refine Comes.of fun c ι m s Q Er ok S R' ap ht kk=>?_
  refine Subscript_ (hv.on c ι m s _ _ ok S R' ap ht fun v ar m₁ ah ax av ai aq aj ak hv=>?_)
  refine wpAny_Slice (evalPart_none_step ?_)
  rw [evalPart_some]
  refine hi.on c ar m₁ _ _ _ ok ai aq aj av fun b7 aG m₂ aB a9 a8 aw aC ay aA bB=>?_
  refine evalPart_none_step ?_
  refine bB.is fun u=>?_
  obtain ⟨h₀,I⟩:=aw
  obtain ⟨r,vs,rfl,hL,hr⟩:=rx I (hv.mono aA)
  have hlen:=hr.length
  refine kms_slice_lit (s:={s with heap:=aB,toks:=a9}) (zs:=vs.take n) I.fr I.nw hL .none (.int (n:Int) u) ?_ (fun D' h' F' N' l1=>?_) (hs r _) (bq r) (by rw [sizeLine_eq]; simp; lia)
  · unfold kms_pick kms_lo kms_hi
    simp
    rw [if_neg (by lia)]
    first | rfl | (rw [←List.XJ]; done) | (simp only [List.take_eq_take_iff]; lia) | (simp; done)
  · exact kk _ ((D',listOf (vs.take n).toArray 0)::aG) m₂ h' a9 (I.to F' N') (aC.mono fun p hp=>.tail _ hp) (ay.cons fun q hq=>fun e=>Nat.lt_irrefl _ (e▸l1 q (List.mem_append_right _ hq))) (fun p hp=>.tail _ (aA p (ak p hp))) (.lst (.head _) ⟨rfl,rfl,_,rfl⟩ ((hr.mono fun p hp=>.tail _ hp).take n))
end
end Mine
end
section
open PySem PySem.W PyProof.Rows PySem.Calls Builtin
namespace Mine
structure KS (g:Gx):Prop where
  BE:findIn g.K (.ref 364) "__str__"=some (some (.builtin "BaseException.__str__"))
  BF:mroIn g.K 364 (.type "BaseException")=some true
theorem Q9:builtinKind "BaseException.__str__"=some .slot:=by decide+kernel
theorem Ra:splitId "BaseException.__str__"=some ("BaseException","__str__"):=by decide+kernel
theorem Rb:plainId "BaseException.__str__"=true:=by decide+kernel
theorem Rd (v:Value):bindSpecial (.builtin "BaseException.__str__") v=pure (.builtin "BaseException.__str__",[v]):=
  (Slot.of (T:="Exception") (name:="__str__") (owner:="BaseException") (n:="__str__") (by rw [typeLookup_type,builtinLookup_eq_fast]; kernel_rfl) (by decide+kernel) (by decide+kernel) (by decide+kernel)
    (.inl (by decide+kernel)) (by rw [isSubtype_type]; kernel_rfl)).bind v
section
variable {g:Gx} {A:Around} {R:Result→Shared→Prop} {Er:Value→Shared→Prop} {s:Shared}
theorem Rf {prog:Program} {w:World} (ks:KS g) {e t:Addr} {oe:Obj} {vs:Array Value} {x:Str} {tk:Tok} {Q:Value→Shared→Prop} (X:g.K.In s.heap) (he:s.heap.get? e=some oe) (hc:oe.cls=.ref 364) (hd:oe.data=.fields vs) (h0:vs[0]?=some (.ref t)) (ht:s.heap.get? t=some (cV [.str x tk])) (hu:A.units < cLine) (hq:Q (.str x tk) s):
    wpAny (model prog w) A (Builtin.Str.strOf (.ref e)) Q Er s:=by
  obtain ⟨hh,gr,d,tt,os⟩:=s
  have L0:Looks (model prog w) hh (typeOf (.ref e)) (.ref 364):=hc▸(Looks.ld he).andThen .now
  have L1:=looks_findIn (M:=model prog w) X ks.BE
  have LI:Looks (model prog w) hh (isInstance (.ref e) (.type "BaseException")) true:=L0.andThen (looks_mroIn X ks.BF)
  have b1:Looks (model prog w) hh (bindSpecial (.builtin "BaseException.__str__") (.ref e)) (.builtin "BaseException.__str__",[.ref e]):=Looks.of_pure (Rd _)
  have LA:Looks (model prog w) hh (Builtin.BaseException.bexcArgs (.ref e)) (.ref t,[.str x tk]):=by
    intro A' Q' E' s' k q
    unfold Builtin.BaseException.bexcArgs
    refine wpAny_bind (wpAny_field (k _ _ he) hd h0 (wpAny_bind (wpAny_seqItems (k _ _ ht) rfl ?_)))
    exact wpAny_pure q
  unfold Builtin.Str.strOf
  rw [if_neg (show ¬ (Builtin.Str.isExactStr (.ref e)=true) from Bool.false_ne_true)]
  refine wpAny_bind (wpAny_cRoomFor hu ?_)
  unfold callSpecial? specialOf
  repeat (first | (with_reducible refine wpAny_call ?_) | lk)
  refine codeAny_call_builtin Rb PySem.F.entry_bexc_str (check_slot (i:="BaseException.__str__") (owner:="BaseException") (n:="__str__") (s:=⟨hh,gr,d,tt,os⟩) Q9 Ra LI (PySem.F.args_bexc_str _) ?_)
  unfold Builtin.«BaseException.__str__»
  repeat lk
  exact hq
theorem Rg (ks:KS g) {e t:Addr} {oe:Obj} {vs:Array Value} {x:Str} {tk:Tok} {Q:Value→Shared→Prop} (X:g.K.In s.heap) (he:s.heap.get? e=some oe) (hc:oe.cls=.ref 364) (hd:oe.data=.fields vs) (h0:vs[0]?=some (.ref t)) (ht:s.heap.get? t=some (cV [.str x tk])) (hu:A.units+2 < cLine) (hq:Q (.str x tk) s):
    wpAny g.M A (call (.type "str") [.ref e]) Q Er s:=
  callType_new F.called_str (by decide) (F.typeCall_str_1 _) (F.newCall_str_1 _) (fun obj=>F.args_object_init_2 obj _) F.entry_str_new
    (meets_str_new (S:=fun A' R s'=>A'.units+1 < cLine∧g.K.In s'.heap∧s'.heap.get? e=some oe∧s'.heap.get? t=some (cV [.str x tk])∧R (.ok (.ret (.str x tk))) s')
      fun ω ω A' ω ω hq=>Rf (A:=A'.in1) ks hq.2.1 hq.2.2.1 hc hd h0 hq.2.2.2.1 hq.1 hq.2.2.2.2)
    ⟨(show A.units+1+1 < cLine from hu),X,he,ht,typeIs_str _ _ _,hq⟩
end
section
variable {g:Gx} {pl:Bool} {D:Nat} {sc:Scope} {E E' E₁ aO:ag} {σ U σ₁ σ₂ aN:Led} {PX:ag→Led→Led→Option Value→Prop} {P:Fl→ag→Led→Prop}
theorem BG (kf:KF g) (ke:KE g) {body:List Stmt} {np pos pos':Pos} {n9:Stmt} {og:List Stmt} {n:Str} (hb:eF g true D sc E σ body P (.ref 364) PX)
    (hs:∀ (c:Cx) (ι:Led) (m:Str→Option Value) (s:Shared) (Q:Flow→Shared→Prop) (Er:Value→Shared→Prop) (E':ag) (U:Led) (e:Addr) (oe:Obj) (vs:Array Value) (a0:Option Value),c.Ok g sc false D→St g c (((e,oe)::ι)++U) (fun y=>if y=n then some (.ref e) else m y) s.heap→bF ((e,oe)::ι) E' m→Ap c ((e,oe)::ι) U→0 < s.toks→
      oe.cls=.ref 364→oe.data=.fields vs→vs[0]?=a0→PX E' U ι a0→
      (∀ v a ae bU m' h' ao,0 < ao→St g c (ae++bU) m' h'→Ap c ae bU→(∀ p∈ι,p∈ae)→Rep ae v a→(∃ w,m' n=some w)→P (.ret a) [] bU→Q (.ret v) {s with heap:=h',toks:=ao})→wpAny g.M c.A (execs (n9::og) (c.env sc)) Q Er s)
    (j8:sc.names.lookup n=some .local) (hk:autoParam (sc.names.lookup ("TOMLDecodeError":Str)=some .globalImplicit) aK):
    dg g true D sc E σ (.Try body [.ExceptHandler (some (.Name "TOMLDecodeError" np)) (some n) (n9::og) pos] [] [] pos') P:=by
  refine .mk fun c ι m s Q Er ok S R ap ht k=>?_
  refine wpAny_Try_except (hb.on c ι m s _ _ ok S R ap ht (fun v b E' U ae m' h' ao aQ S' R' aX bk hv hP=>?_) fun e a0 E' U ae m' h h' ao aQ S' R' aX bk y lz=>?_)
  · cases hv with
    | next=>exact wpAny_execs_nil (k _ _ _ _ ae m' h' ao aQ S' R' aX bk .next hP)
    | brk=>exact k _ _ _ _ ae m' h' ao aQ S' R' aX bk .brk hP
    | cont=>exact k _ _ _ _ ae m' h' ao aQ S' R' aX bk .cont hP
    | ret hr=>exact k _ _ _ _ ae m' h' ao aQ S' R' aX bk (.ret hr) hP
  refine qr ok S' y fun h1 aP T vs a1 a2 a3 v0 F1=>?_
  refine kl (s:={s with heap:=h1,toks:=ao}) (f:=none) F1 fun h2 F2=>?_
  obtain ⟨gF,⟨aB,I2⟩,oh,hd2,_⟩:=Fx.st S' F2 a1 a2 a3
  have lA:(c.holds e gF).Ok g sc false D:=ok.holds hd2 F2.v2
  have lB:Inv g (c.holds e gF) ((e,gF)::ae++U) m' aB h2:=⟨I2.fr,I2.nw,I2.bl,I2.fo⟩
  have O:=(own_of_in lA.gd.kx (topRead_of lA.gd.tp) kf.mA ke.exc)
  obtain ⟨tl,N,nm,q,bs,hdct,sn,sub,ab,col,dd,k0,k1,k2,k3,k5,mN,hC,hN,vo,TL⟩:=O.obj
  have Rh:h2.get? 364=some (excClassObj nm q 364 N bs tl hdct sn sub ab col dd k0 k1 k2 k3 k5 "ValueError.__new__"):=I2.fr.keep _ _ (I2.bl.stays _ _ hC)
  refine wpAny_handleBy_cons (codeAny_handlers_test (nameX_K (A:=(c.holds e gF).A) (s:={s with heap:=h2,toks:=ao}) lB.fr (lA.kx lB) (topRead_of (lA.tp lB)) kf.mA ?_ ok.kind (by unfold Env.kindOf; exact hk) (by kernel_rfl))) (by intro q; cases q)
  refine wpAny_excMatches_sub_self Rh (I2.nw _ (.head _)).1 oh (TL.hasType PySem.F.excBase_ValueError.hasBase) (codeAny_handlers_suite_as ?_)
  refine kl (s:={s with heap:=h2,toks:=ao}) (f:=none) F2 fun h3 F3=>?_
  obtain ⟨ik,S3,zl,qs,aT⟩:=Fx.st S' F3 a1 a2 a3
  have qt:(c.holds e ik).Ok g sc false D:=ok.holds qs F3.v2
  have tX:Ap (c.holds e ik) ((e,ik)::ae) U:=⟨fun p hp q hq=>by
      rcases List.mem_cons.mp hp with rfl | hp
      · exact fun z=>aT q (List.mem_append_right _ hq) z.symm
      · exact aX.apart p hp q hq,aX.once,fun p hp=>by cases hp; exact .head _⟩
  refine fq (s:={s with heap:=h3,toks:=ao}) qt S3.hold j8 fun h4 S4=>?_
  refine hs (c.holds e ik) ae m' {s with heap:=h4,toks:=ao+1} _ _ E' U e ik _ a0 qt S4 (R'.mono fun p hp=>.tail _ hp) tX (Nat.succ_pos _) zl qs v0 lz fun v a fE bU tY cK il zm ip gu tZ hv XK hP=>?_
  have oi:∀ p∈ι,p∈fE:=fun p hp=>tZ p (bk p hp)
  show wpAny g.M c.A (do bindName (c.env sc) n .none; unbindBehindTheSuite (c.env sc) n pos) _ _ _
  refine wpAny_bind (PySem.wpAny_bindName (fq (s:={s with heap:=cK,toks:=il}) ok ip.zk j8 fun h5 S5=>?_))
  obtain ⟨vz,I5⟩:=S5
  unfold unbindBehindTheSuite
  refine wpAny_onRaise (wpAny_unbindName_local (m:=fun y=>if y=n then some .none else tY y) (v:=.none) (by unfold Env.kindOf; exact j8) I5.fr.ns (by simp) (by show (sc.kind==.class||_)=false; rw [ok.kind]; rfl) fun h6 u Ri BH=>?_)
  have F6:=I5.fr.set Ri BH
  refine k _ (.ret a) [] bU fE _ h6 _ (Nat.succ_pos _) ⟨vz,F6,I5.nw.set BH,I5.bl,I5.fo⟩ ⟨List.nodup_nil,fun x a h=>(nomatch h),fun x h=>(nomatch h)⟩ ⟨gu.apart,gu.once,fun p hp=>oi p (ap.hx p hp)⟩ oi (.ret hv) hP
end
section
variable {g:Gx} {pl:Bool} {D:Nat} {sc:Scope} {E E' E₁ aO:ag} {σ U σ₁ σ₂ aN:Led}
theorem Rj {n:Nat} (hn:n < 1000000):Fn g pl D (.type "str") [.int (n:Int)] σ (.str (Str.ofString (toString (n:Int)))) σ:=by
  intro c sc ι m s vs Q Er ok ⟨h₀,I⟩ ap ht aM k
  refine aM.dS fun v hv=>?_
  refine hv.is fun u=>?_
  have h9:((n:Int).natAbs).log2 < 1920:=by
    by_cases h0:(n:Int).natAbs=0
    · rw [h0]; decide
    · exact Nat.lt_trans ((Nat.log2_lt h0).mpr (Nat.lt_trans (show (n:Int).natAbs < 2 ^ 20 by lia) (by decide:2 ^ 20 < 2 ^ 21))) (by decide:21 < 1920)
  refine PySem.P.str_of_int h9 ?_
  exact k _ ι s.heap _ ⟨h₀,I⟩ ap (fun ω h=>h) (.str _ _)
theorem Rk {c:Cx} {ι:Led} {m:Str→Option Value} {scope:Scope} {cl:List (Str×Addr)} {is:List Int} {f:Nat→AV} {p1 p2 p3:Pos} {k:Nat} (fH:scope.kind=.function) (hx:scope.names.lookup ("x":Str)=some .local)
    (hf:∀ i a,is[i]?=some a→f i=.int (Int.fmod a 256)):lF g c ι σ m sc scope cl "x" (.BinOp (.Name "x" p1) .Mod (.Constant (.int 256) k p2) p3) (is.map AV.int) f:=by
  intro V L i a v ae oL oV m' s Q Er hi S ap ht hs hv cN kk
  rw [List.getElem?_map] at hi
  cases hq:is[i]? with
  | none=>rw [hq] at hi; cases hi
  | some a'=>
  rw [hq] at hi
  cases hi
  obtain ⟨tk,rfl⟩:=hv.inv
  refine wpAny_BinOp ?_
  refine wpAny_Name (wpAny_loadName_local (by exact fH) (by exact lookup_relabel_local hx) cN (if_pos rfl) ?_) (by kernel_rfl)
  refine wpAny_Constant_int ?_
  refine mod_int' (by decide) ?_
  exact kk _ ae s.heap _ S ap (fun ω h=>h) (by rw [hf _ _ hq]; exact .int _ _)
theorem Rl (kf:KF g) {c:Cx} {ι:Led} {m:Str→Option Value} {scope:Scope} {cl:List (Str×Addr)} {ws:List (List (List Nat))} {f:Nat→AV} {p1 p2 p3 p4:Pos} (ok:c.Ok g sc true (D+3)) (fH:scope.kind=.function) (hx:scope.names.lookup ("way":Str)=some .local)
    (j4:(relabel scope (c.env sc)).names.lookup ("reduce":Str)=some .globalImplicit) (j6:(relabel scope (c.env sc)).names.lookup ("join":Str)=some .globalImplicit)
    (hw:∀ w∈ws,w≠[]∧(w.map List.length).sum+w.length≤50000)
    (hf:∀ i a,ws[i]?=some a→f i=T (bG a)):lF g c ι σ m sc scope cl "way" (.Call (.Name "reduce" p1) [.Name "join" p2,.Name "way" p3] [] p4) (ws.map TL) f:=by
  intro V L i a v ae oL oV m' s Q Er hi S ap ht hs hv cN kk
  rw [List.getElem?_map] at hi
  cases hq:ws[i]? with
  | none=>rw [hq] at hi; cases hi
  | some w=>
  rw [hq] at hi
  cases hi
  obtain ⟨h₀,I⟩:=id S
  have kI:(compEnvC scope cl V (c.env sc)).scope.kind=.function:=fH
  refine wpAny_Call_NameR (nameG_K I.fr (ok.kx I) (topRead_of (ok.tp I)) kf.tw ?_ rfl fH (by exact j4) (by kernel_rfl))
  refine callWith_K (ok.kh I) kf.s9 (spliced_more ?_ (by rfl)) (by rfl) (by rfl)
  refine nameG_K I.fr (ok.kx I) (topRead_of (ok.tp I)) kf.tu ?_ rfl fH (by exact j6) (by kernel_rfl)
  refine spliced_more (wpAny_Name (wpAny_loadName_local kI (by exact lookup_relabel_local hx) cN (if_pos rfl) ?_) (by kernel_rfl)) (by rfl)
  refine spliced_none ⟨ok.kh I,?_⟩
  obtain ⟨aT,bX⟩:=hw w (List.mem_of_getElem? hq)
  cases w with
  | nil=>exact absurd rfl aT
  | cons b w=>
  refine zy kf (D:=D) (σ:=(L,oL)::(V,oV)::σ) (by simp at bX ⊢; lia) c sc ae m _ _ _ _ ok S ap ?_ (.cons (.val _) (.cons hv .nil)) fun v br bu bx bj bp bo b8=>?_
  · first | exact ht | exact Nat.succ_pos _
  · exact kk v br bu bx bj bp bo (by rw [hf _ _ hq]; exact b8)
end
section
variable {g:Gx} {pl:Bool} {D:Nat} {sc:Scope} {E E' E₁ aO:ag} {σ U σ₁ σ₂ aN:Led} {X:Value} {P:Fl→ag→Led→Prop} {PX:ag→Led→Led→Option Value→Prop}
theorem vA {x y:Nat} (hy:y≠0):bN g pl D sc E σ (binaryOp .Mod) Rep (.int x) (.int y) (.int ((x % y:Nat):Int)) σ:=by
  have:=J6 (g:=g) (pl:=pl) (D:=D) (sc:=sc) (E:=E) (σ:=σ) (x:=(x:Int)) (y:=(y:Int)) (by lia)
  rwa [Int.fmod_eq_emod_of_nonneg _ (by lia),←Int.natCast_emod] at this
theorem vB {x y:Nat} (hy:y≠0) (BI:y < 1000000):bN g pl D sc E σ (binaryOp .FloorDiv) Rep (.int x) (.int y) (.int ((x / y:Nat):Int)) σ:=by
  have hp:Builtin.divisionGoesByPylong (x:Int) (y:Int)=false:=by
    unfold Builtin.divisionGoesByPylong
    have h0:(y:Int).natAbs.log2 < 20:=(Nat.log2_lt (by lia)).mpr (Nat.lt_trans (show (y:Int).natAbs < 1000000 by lia) (by decide))
    simp only [Bool.and_eq_false_iff,decide_eq_false_iff_not]
    left
    split
    · lia
    · lia
  have:=J7 (g:=g) (pl:=pl) (D:=D) (sc:=sc) (E:=E) (σ:=σ) (x:=(x:Int)) (y:=(y:Int)) (by lia) hp
  rwa [Int.fdiv_eq_ediv_of_nonneg _ (by lia),←Int.natCast_ediv] at this
theorem Rm {x y:Nat}:bN g pl D sc E σ (compareOp .Eq) Rep (.int (x:Int)) (.int (y:Int)) (.bool (x==y)) σ:=by
  have:=sE (g:=g) (pl:=pl) (D:=D) (sc:=sc) (E:=E) (σ:=σ) (x:=(x:Int)) (y:=(y:Int))
  rwa [show ((x:Int)==(y:Int))=(x==y) by rw [Bool.eq_iff_iff]; simp; lia] at this
theorem bF.plus {ι:Led} {m:Str→Option Value} {x:Str} {v:Value} {a:AV} (R:bF ι E m) (hx:x∉E.map (·.1)) (hv:Rep ι v a):bF ι ((x,some a)::E) (fun y=>if y=x then some v else m y):=by
  refine ⟨?_,fun y b h=>?_,fun y h=>?_⟩
  · rw [List.map_cons,List.nodup_cons]; exact ⟨hx,R.nd⟩
  · rcases List.mem_cons.mp h with h | h
    · cases h; exact ⟨v,if_pos rfl,hv⟩
    · obtain ⟨w,h1,h2⟩:=R.at_ y b h
      have ne:y≠x:=fun e=>hx (e▸List.mem_map_of_mem (f:=(·.1)) h)
      exact ⟨w,by show (if y=x then some v else m y)=some w; rw [if_neg ne]; exact h1,h2⟩
  · rcases List.mem_cons.mp h with h | h
    · cases h
    · have ne:y≠x:=fun e=>hx (e▸List.mem_map_of_mem (f:=(·.1)) h)
      show (if y=x then some v else m y)=none
      rw [if_neg ne]
      exact R.off y h
theorem BJ {x:Str} {p' pos:Pos} {e:Expr} {Q0:AV→ag→Led→Prop} (hv:lx g pl D sc E σ e Q0 X PX) (hP:∀ a E₁ σ₁,Q0 a E₁ σ₁→∃ E',Upd x a E₁ E'∧P .next E' σ₁) (hk:autoParam (sc.names.lookup x=some .local) aK) (hs:autoParam (∀ env,swapsWith e (some (.Name x p')) pos.line env=pure false) aI):fD g pl D sc E σ (.Assign [.Name x p'] e pos) P X PX:=by
  refine .mk fun c ι m s Q Er ok S R' ap ht k kx=>?_
  refine wpAny_Assign_Name (hv.on c ι m s _ _ ok S R' ap ht (fun v a E₁ σ₁ ar m₁ ah ax av ai aq aj ak hv hp=>?_) kx) (hs _)
  obtain ⟨E',hu,tR⟩:=hP _ _ _ hp
  exact fq ok ai hk fun h' S'=>k .next _ E' σ₁ ar _ h' _ (Nat.succ_pos _) S' (aq.upd hu hv) aj ak .next tR
theorem Rn (kf:KF g) (ks:KS g) {c:Cx} {ι:Led} {m:Str→Option Value} {s:Shared} {Q:Flow→Shared→Prop} {Er:Value→Shared→Prop} {e t:Addr} {oe:Obj} {vs:Array Value} {x:Str} {tk:Tok} {a rA:Expr} {p1 p2 p3 p4 p5 p6:Pos}
    (ok:c.Ok g sc false D) (S:St g c (ι++σ) m s.heap) (R:bF ι E m) (ap:Ap c ι σ) (ht:0 < s.toks) (he:(e,oe)∈ι) (hc:oe.cls=.ref 364) (hd:oe.data=.fields vs) (h0:vs[0]?=some (.ref t)) (Ro:(t,cV [.str x tk])∈ι)
    (hA:Ev g false D sc E σ a (.bool true) σ) (hn:(("error":Str),some (.val (.ref e)))∈(E:List (Str×Option AV))) (Rp:Ev g false D sc E σ rA (.str x) σ)
    (k:∀ ae m' h' ao,0 < ao→St g c (ae++σ) m' h'→bF ae E m'→Ap c ae σ→(∀ p∈ι,p∈ae)→Q (.ret (.bool true)) {s with heap:=h',toks:=ao})
    (kO:autoParam (sc.names.lookup ("str":Str)=some .globalImplicit) aK) (rC:autoParam (sc.names.lookup ("error":Str)=some .local) aK) (hm:autoParam (behindInMarks .Eq rA=false) aR):
    wpAny g.M c.A (exec (.Return (some (.BoolOp .And [a,.Compare (.Call (.Name "str" p1) [.Name "error" p2] [] p3) [.Eq] [rA] p4] p5)) p6) (c.env sc)) Q Er s:=by
  refine wpAny_Return_some (wpAny_And2 (hA.on c ι m s _ _ ok S R ap ht fun v ar m₁ ah ax av ai aq aj ak hv=>?_))
  refine wpAny_with_toks (n:=1) av (sN ai hv (.bool _) fun a9 a8=>?_)
  show wpAny g.M c.A (eval (.Compare (.Call (.Name "str" p1) [.Name "error" p2] [] p3) [.Eq] [rA] p4) (c.env sc)) _ _ _
  refine wpAny_Compare1 ?_ hm
  obtain ⟨h₀,I⟩:=id ai
  refine wpAny_Call_NameR (nameX_B I.fr (ok.kx I) (topRead_of (ok.tp I)) kf.nV (v:=.type "str") (by kernel_rfl) (by decide+kernel) ?_ ok.kind (by unfold Env.kindOf; exact kO) (by kernel_rfl))
  refine PyProof.Rows.callWith_type1 (spliced_more ?_ (by rfl)) (by rfl) (by rfl)
  refine (nC (E:=E) (x:="error") (a:=.val (.ref e)) hn rC (by kernel_rfl)).on c ar m₁ _ _ _ ok ai aq aj ?_ fun b7 aG m₂ aB bx ck aw aC ay aA bB=>?_
  · exact a8
  obtain ⟨_,rfl⟩:=bB.inv
  refine spliced_none ?_
  obtain ⟨eE,b9⟩:=id aw
  have hu:c.A.units+2 < cLine:=by have:=ok.un; unfold cLine; lia
  have vC:∀ p∈ι,p∈aG:=fun p hp=>aA p (ak p hp)
  refine Rg (s:={s with heap:=aB,toks:=_}) ks (ok.kh b9) (b9.nw _ (List.mem_append_left _ (vC _ he))).1 hc hd h0 (b9.nw _ (List.mem_append_left _ (vC _ Ro))).1 hu ?_
  refine Rp.on c aG m₂ _ _ _ ok aw aC ay ?_ fun XM iS qT eO jE iv dM oR eS fb oy=>?_
  · first | exact Nat.succ_pos _ | exact ck
  refine wpAny_with_toks (n:=1) iv ((xu (x:=x) (y:=x) _ _).on c iS qT _ _ _ ok dM oR eS iv ⟨.str _ _,oy⟩ fun XN Rq Ru vz Rv Rw Rx Ry RA BK=>fun RB=>?_)
  rw [show (x==x)=true from beq_self_eq_true x] at BK
  obtain ⟨_,rfl⟩:=BK.inv
  exact k Rq Ru vz Rv RB Rw Rx Ry fun p hp=>RA p (fb p (vC p hp))
theorem RC (ns:List (List Nat)) (n:Nat):(((((("Cannot declare ":Str)++tupS ns)++(" twice (at ":Str))++(("line 2, column ":Str)++Str.ofString (toString (n:Int))))++(")":Str)))=kQ (declS ns) n:=by
  have e1:(" twice (at ":Str)=(" twice":Str)++(" (at ":Str):=by decide+kernel
  have e2:("line 2, column ":Str)=("line ":Str)++Str.ofString (toString ((2:Nat):Int))++(", column ":Str):=by decide+kernel
  unfold kQ declS lR
  simp only [List.foldl_cons,List.foldl_nil,Str.empty_append]
  rw [e1,e2]
  simp only [Str.append_assoc]
end
noncomputable def lW:List Nat:=[47,97,46,39,34,92,10,47]
noncomputable def sg (k:Nat):Nat:=lW.getD k 0
noncomputable def cA (is:List Int):List Nat:=(is.take 6).map fun i=>(Int.fmod i 256).toNat
noncomputable def dB (d:List Nat):List Nat:=if d.length % 2==1 then d++[1,8,3] else [1,8,3]++d
noncomputable def eI (d:List Nat):List Nat:=d.map fun x=>sg (x % 8)
noncomputable def mZ (x:Nat):List Nat:=[[sg (x % 8)],[sg (x % 8)]++[sg (x / 32)],[],[sg (x / 32)]].getD (x / 8 % 4) []
noncomputable def ey (d:List Nat):List Nat:=d.flatMap mZ
noncomputable abbrev NL (d:List Nat):AV:=.lst (d.map fun n:Nat=>AV.int (n:Int))
structure Path (p:List Nat) (t:Nat) (ns:List (List Nat)) (tx key:List Nat):Prop where
  len:p.length≤100
  nm:∃ n,n≤100000∧ir n p []=some ns
  red:bG ns=tx
  td:jA p=tx
  vD:tx.length≤1000
  RD:∃ n,n≤100000∧ir n tx []=some ns
  ne:ns≠[]
  sz:(ns.map List.length).sum+ns.length≤40000
  each:∀ x∈ns,x.length≤1000
  cnt:ns.length≤900
  sn:i0 ns
  jk:JoinOk (S [32,46,9]) ((f9 ns t).map S)=true
  ky:cT ns t=key
  m3:key.length≤30000
  ka:kC (key++[93]) 0 ns key.length
noncomputable abbrev ea (k1 k2:List Nat):List Nat:=[91]++k1++[93,10,91]++k2++[93]
structure Plain (p1 p2:List Nat) (bg bc:List (List Nat)) (t1 t2 k1 k2:List Nat):Prop where
  a:Path p1 0 bg t1 k1
  b:Path p2 1 bc t2 k2
  doc:Doc (ea k1 k2) bg bc (k1.length+1) (k1.length+4+k2.length)
  nl:∀ i,i < k1.length+4+k2.length→i≠k1.length+2→(ea k1 k2)[i]?≠some 10
  tz:(tupS bc).length≤40000
  eqv:t1=t2↔bg=bc
  dep:(bS bg bc).depth≤30
  cnt:jG (bS bg bc)≤1000
  RE:∀ w∈cz (bS bg bc) [],w≠[]∧(w.map List.length).sum+w.length≤50000
  wl:(cz (bS bg bc) []).length≤1000
  ends:bg≠bc→(cz (bS bg bc) []).map bG=(if Txt.startswith (S t2) (S (t1++[47])) then [] else [t1])++(if Txt.startswith (S t1) (S (t2++[47])) then [] else [t2])
  es:i0 ((cz (bS bg bc) []).map bG)
  ts:i0 [t1,t2]
theorem range_getD {α β:Type} (F:α→β) (d0:α) (d:List α):(List.range d.length).map (fun i=>F (d.getD i d0))=d.map F:=by
  apply List.ext_getElem
  · simp
  · intro i h1 h2
    simp at h1 h2
    simp [List.getD_eq_getElem?_getD,List.getElem?_eq_getElem h1]
theorem RF (d:List Nat) (x:Nat):eI (d++[x])=eI d++[sg (x % 8)]:=by simp [eI]
theorem RG (d:List Nat) (x:Nat):ey (d++[x])=ey d++mZ x:=by simp [ey]
theorem vE {k:Nat} (h:k < 8):lW[k]?=some (sg k):=by
  have:k < lW.length:=h
  rw [List.getElem?_eq_getElem this]; unfold sg; rw [List.getD_eq_getElem?_getD,List.getElem?_eq_getElem this]; rfl
theorem RH {a b c d:List Nat} {k:Nat} (h:k < 4):([T a,T b,T c,T d]:List AV)[k]?=some (T ([a,b,c,d].getD k [])):=by
  match k,h with
  | 0,_=>rfl
  | 1,_=>rfl
  | 2,_=>rfl
  | 3,_=>rfl
  | n+4,h=>lia
theorem BL {is:List Int}:∀ x∈cA is,x < 256:=by
  intro x hx
  obtain ⟨i,_,rfl⟩:=List.mem_map.mp hx
  have:=Int.emod_nonneg i (show (256:Int)≠0 by decide)
  have:=Int.emod_lt_of_pos i (show (0:Int) < 256 by decide)
  rw [Int.fmod_eq_emod_of_nonneg _ (by decide)]
  lia
theorem BM {d:List Nat} (h:∀ x∈d,x < 256):∀ x∈dB d,x < 256:=by
  intro x hx
  unfold dB at hx
  split at hx
  · rcases List.mem_append.mp hx with hx | hx
    · exact h x hx
    · simp at hx; lia
  · rcases List.mem_append.mp hx with hx | hx
    · simp at hx; lia
    · exact h x hx
theorem BN (x:Nat):(mZ x).length≤2:=by
  unfold mZ
  have h:x / 8 % 4 < 4:=Nat.mod_lt _ (by decide)
  generalize x / 8 % 4=k at h
  match k,h with
  | 0,_=>simp
  | 1,_=>simp
  | 2,_=>simp
  | 3,_=>simp
  | n+4,h=>lia
theorem vF:∀ d:List Nat,(ey d).length≤2 * d.length
  | []=>by simp [ey]
  | x::d=>by
    have:=vF d
    have:=BN x
    simp only [ey,List.flatMap_cons,List.length_append,List.length_cons] at *
    lia
section
variable {g:Gx} {pl:Bool} {D:Nat} {sc:Scope} {E E' E₁ aO:ag} {σ U σ₁ σ₂ aN:Led}
theorem BO {x y:Str} {px py:Pos} {elt iter:Expr} {scope:Scope} {pos vG:Pos} {l:List AV} {f:Nat→AV} (hi:Ev g true D sc E σ iter (.lst l) σ₁) (jH:∀ c ι m,c.Ok g sc true D→lF g c ι σ₁ m sc scope [] x elt l f) (gw:l.length≤sizeLine)
    (hu:Upd y (.lst ((List.range l.length).map f)) E E') (hk:autoParam (sc.names.lookup y=some .local) aK)
    (eT:autoParam (∀ c:Cx,swapsWith (.ListComp elt [⟨.Name x px,iter,[],0⟩] scope pos) (some (.Name y py)) vG.line (c.env sc)=pure true) aI)
    (vj:autoParam (∀ y∈scope.names,y.2≠.free) aD) (jv:autoParam (∀ y∈scope.names,y.2≠.cell) aD) (fH:autoParam (scope.kind=.function) aD) (RI:autoParam (∀ y∈scope.names,y.2=.local→scope.names.lookup y.1=some .local) aD)
    (hx:autoParam (scope.names.lookup x=some .local) aD) (hs:autoParam (∀ env v,foldedSetIterable iter env v=pure v) aJ):Ex g true D sc E σ (.Assign [.Name y py] (.ListComp elt [⟨.Name x px,iter,[],0⟩] scope pos) vG) .next E' σ₁:=by
  refine .mk fun c ι m s Q Er ok S R ap ht k=>?_
  show wpAny g.M c.A (exec (.Assign [.Name y py] (.ListComp elt [⟨.Name x px,iter,[],0⟩] scope pos) vG) (c.env sc)) Q Er s
  rw [exec_Assign_Name_used _ _ _ _ (eT _)]
  refine wpAny_bind (wpAny_standAt (wpAny_bind ?_))
  show wpAny _ _ (do let _ ←comprehension (.ListComp elt [⟨.Name x px,iter,[],0⟩] scope pos) scope (c.env sc) _ (newList []) false (eval iter (c.env sc)) (some (assign (.Name y py) (c.env sc)))) _ _ s
  refine wpAny_bind (wpAny_mono (wpAny_comprehension_free (use:=some (assign (.Name y py) (c.env sc))) (Q:=fun ω s'=>Q .next s') rfl (hs _) (closureFor_none vj) fH RI (hi.on c ι m s _ _ ok S R ap ht fun v ar m₁ ah ax av ai aq aj ak hv=>?_)) (fun ω s' hq=>wpAny_pure (wpAny_pure hq)) fun ω ω e=>e)
  refine N0 (s:={s with heap:=ah,toks:=ax}) ok jv fH hx (jH c ar m₁ ok) ai aj av hv gw fun L V ae oL oV mV ys h' ao aQ S' aX bk hL jI hV=>?_
  show wpAny _ _ (assign (.Name y py) (c.env sc) (.ref L)) _ _ _
  refine PySem.wpAny_assign_Name (fq ok S' hk fun aB aw=>?_)
  have mF:(V,oV)∈ae++(L,oL)::(V,oV)::σ₁:=List.mem_append_right _ (.tail _ (.head _))
  have e1:h'.get? V=some oV:=let ⟨_,I⟩:=S'; (I.nw _ mF).1
  have e2:aB.get? V=some oV:=let ⟨_,I⟩:=aw; (I.nw _ mF).1
  refine ⟨mV,hV.at' fun o e=>by rw [e1] at e; cases e; exact e2,fun cK fe=>?_⟩
  obtain ⟨ip,gu,r⟩:=z2 aw aX fe hL jI
  exact k .next _ _ cK _ (Nat.succ_pos _) ip ((aq.mono fun p hp=>.tail _ (bk p hp)).upd hu r) gu (fun p hp=>.tail _ (bk p (ak p hp))) .next
end
noncomputable abbrev iF:List Stmt:=bZ (af 98)
noncomputable abbrev eW:Scope:=bz (af 98)
section
variable {g:Gx} {D:Nat} {E E' E₁ aO:ag} {σ U σ₁ σ₂ aN:Led}
noncomputable abbrev lX (is:List Int) (x drawn signs first second sign:Option AV):ag:=[("script",some (.lst (is.map AV.int))),("x",x),("drawn",drawn),("signs",signs),("first",first),("second",second),("sign",sign),("texts",none),("keys",none),("path",none),("names",none),("tidy",none),("key",none),("tree",none),("place",none),("due",none),("ends",none)]
theorem RJ (kf:KF g) {is:List Int} {P:Fl→ag→Led→Prop} (hl:is.length≤100)
    (hr:∀ x sign,b0 g true 39 eW (lX is x (some (NL (dB (cA is)))) (some (T lW)) (some (T (eI (dB (cA is))))) (some (T (ey (dB (cA is))))) sign) σ (iF.drop 6) P):
    b0 g true 39 eW (lX is none none none none none none) σ iF P:=by
  have RK:(cA is).length≤6:=by unfold cA; simp; lia
  have e1:(List.range ((is.take 6).map AV.int).length).map (fun i=>AV.int (((cA is).getD i 0:Nat):Int))=(cA is).map fun n:Nat=>AV.int (n:Int):=by
    have:((is.take 6).map AV.int).length=(cA is).length:=by simp [cA]
    rw [this,range_getD (fun n:Nat=>AV.int (n:Int))]
  refine aZ (E₁:=lX is none (some (NL (cA is))) none none none none) (BO (l:=(is.take 6).map AV.int) (f:=fun i=>AV.int (((cA is).getD i 0:Nat):Int)) ((Q8 (n:=6) aa (bE (n:=6)) (by simp; lia)).cast (by rw [List.map_take])) (fun c ι m ok=>Rk (by decide+kernel) (by kernel_rfl) fun i a h=>?_) (by rw [sizeLine_eq]; simp; lia) (by rw [e1]; exact .there (.there .here))) ?_
  · have:(cA is)[i]?=some (Int.fmod a 256).toNat:=by unfold cA; rw [List.getElem?_map,h]; rfl
    rw [List.getD_eq_getElem?_getD,this]
    have h2:0≤Int.fmod a 256:=Int.fmod_nonneg_of_pos _ (by decide)
    simp only [Option.getD_some]
    rw [Int.toNat_of_nonneg h2]
  refine aZ (ba (a:=NL (dB (cA is))) (xE (b:=(cA is).length % 2==1) (σ₁:=σ) ((bw (bP (jj kf.js (by kernel_rfl) (by decide+kernel) (au aa aU) (Q4 (l:=(cA is).map fun n:Nat=>AV.int (n:Int)) (by simp; lia))) (bE (n:=2)) (vA (by decide))) (bE (n:=1)) Rm).cast (by simp)) (fun e=>?_) fun e=>?_)) ?_
  · exact (bP aa (j7 (as:=[.int (1:Nat),.int (8:Nat),.int (3:Nat)]) (au (bE (n:=1)) (au (bE (n:=8)) (au (bE (n:=3)) aU)))) (pW (by rw [sizeLine_eq]; simp; lia))).cast (by unfold dB; rw [if_pos e]; simp)
  · exact (bP (j7 (as:=[.int (1:Nat),.int (8:Nat),.int (3:Nat)]) (au (bE (n:=1)) (au (bE (n:=8)) (au (bE (n:=3)) aU)))) aa (pW (by rw [sizeLine_eq]; simp; lia))).cast (by unfold dB; rw [if_neg (by rw [e]; simp)]; simp)
  have bq:=BM (BL (is:=is))
  have lq:(dB (cA is)).length≤9:=by unfold dB; split <;> simp <;> lia
  generalize dB (cA is)=d at hr bq lq ⊢
  refine aZ (ba (bK (l:=lW))) ?_
  refine aZ (ba (bK (l:=[]))) ?_
  refine aZ (ba (bK (l:=[]))) ?_
  refine cJ (xJ (P:=fun fl E' U=>fl=.next∧U=σ∧∃ x sign,E'=lX is x (some (NL d)) (some (T lW)) (some (T (eI d))) (some (T (ey d))) sign)
    (fun i E' U=>U=σ∧∃ x sign,E'=lX is x (some (NL d)) (some (T lW)) (some (T (eI (d.take i)))) (some (T (ey (d.take i)))) sign) aa ⟨rfl,none,none,rfl⟩ ?_ ?_) ?_
  · rintro i a _ _ hi ⟨rfl,x,sign,rfl⟩
    rw [List.getElem?_map] at hi
    cases hq:d[i]? with
    | none=>rw [hq] at hi; cases hi
    | some n=>
    rw [hq] at hi
    cases hi
    have hn:n < 256:=bq n (List.mem_of_getElem? hq)
    have RL:(eI (d.take i)).length≤9:=by unfold eI; simp; lia
    have RM:(ey (d.take i)).length≤18:=by have:=vF (d.take i); simp at this; lia
    have h2:=BN n
    refine ⟨_,.there .here,?_⟩
    refine aZ (ba (dU aa (bP aa (bE (n:=8)) (vA (by decide))) (vE (Nat.mod_lt _ (by decide))) (by decide))) ?_
    refine aZ (ba (bP aa aa (e8 (by simp; lia)))) ?_
    refine bC (bI (ba (bP aa (BC (j7 (au aa (au (bP aa (dU aa (bP aa (bE (n:=32)) (vB (by decide) (by decide))) (vE (by lia)) (by decide)) (e8 (by simp))) (au (bK (l:=[])) (au (dU aa (bP aa (bE (n:=32)) (vB (by decide) (by decide))) (vE (by lia)) (by decide)) aU)))))
      (bP (bP aa (bE (n:=8)) (vB (by decide) (by decide))) (bE (n:=4)) (vA (by decide))) (by lia) (RH (Nat.mod_lt _ (by decide)))) (e8 (y:=mZ n) (by lia)))) bh) (.inl ⟨.inl rfl,rfl,some (.int (n:Int)),some (T [sg (n % 8)]),?_⟩)
    rw [List.take_add_one,hq,Option.toList_some,RF,RG]
  · rintro _ _ ⟨rfl,x,sign,rfl⟩
    rw [List.length_map,List.take_length]
    exact ⟨rfl,rfl,x,sign,rfl⟩
  · rintro _ _ _ ⟨rfl,rfl,x,sign,rfl⟩
    exact hr x sign
end
theorem RN {σ:Led} {K L:Addr} {oK oL o':Obj} (h:bY ((K,oK)::(L,oL)::σ)):putL ((K,oK)::(L,oL)::σ) L o'=(K,oK)::(L,o')::σ:=by
  have h1:=h.1
  rw [List.map_cons,List.nodup_cons] at h1
  have aT:K≠L:=fun e=>h1.1 (by subst e; exact .head _)
  have h2:=lu (o':=o') h1.2
  show (if K=L then (L,o') else (K,oK))::putL ((L,oL)::σ) L o'=_
  rw [if_neg aT,h2]
noncomputable abbrev lY (p1 p2:List Nat) (texts keys path names tidy key:Option AV):ag:=[("first",some (T p1)),("second",some (T p2)),("texts",texts),("keys",keys),("path",path),("names",names),("tidy",tidy),("key",key),("tree",none),("place",none),("due",none),("ends",none)]
noncomputable def i6 (o:Obj) (l:List (List Nat)):Prop:=∃ ys,dQ o ys∧∀ ι,aY ι ys (l.map T)
theorem i6.nil:i6 (g9 []) []:=⟨[],pT [],fun ω=>.nil⟩
inductive rD (σ:Led) (LT LK:Addr) (lt lk:List (List Nat)) (p1 p2:List Nat) (E':ag) (U:Led):Prop
  | mk (oT oK:Obj) (q n t k:Option AV):i6 oT lt→i6 oK lk→U=(LK,oK)::(LT,oT)::σ→E'=lY p1 p2 (some (.val (.ref LT))) (some (.val (.ref LK))) q n t k→rD σ LT LK lt lk p1 p2 E' U
noncomputable def RO (b:List Stmt):List Stmt:=match b with
  | s::_=>if h:s.ctorIdx=9 then Stmt.For.elim s h fun ω ω b ω ω=>b else []
  | _=>[]
section
variable {g:Gx} {D:Nat} {E E' E₁ aO:ag} {σ U σ₁ σ₂ aN:Led} {p1 p2:List Nat}
theorem CG.drop {α β:Type} {tr:Cx→Sem α} {R:Led→α→β→Prop} {P:β→ag→Led→Prop} {pl:Bool} {sc:Scope} (hn:(E'.map (·.1)).Nodup) (hs:∀ p∈E',p∈E) (h:CG g pl D sc E' σ tr R P):CG g pl D sc E σ tr R P:=
  .mk fun c ι m s Q Er ok S Rr ap ht k=>h.on c ι m s Q Er ok S ⟨hn,fun x a q=>Rr.at_ x a (hs _ q),fun x q=>Rr.off x (hs _ q)⟩ ap ht k
theorem vH {so arg:Expr} {apos cu pos:Pos} {L:Addr} {o:Obj} {l:List (List Nat)} {x:List Nat} {sc:Scope} (hs:Ev g true D sc E σ so (.val (.ref L)) σ) (oQ:Ev g true D sc E σ arg (T x) σ) (hm:(L,o)∈σ) (ho:i6 o l) (hz:l.length≤1000)
    (he:autoParam (∀ env,starEach [arg] env=(false,eval arg env)::starEach [] env) aI)
    (fJ:autoParam (∀ env,∃ pl,eval (.Call (.Attribute so "append" apos) [arg] [] cu) env=(do
      let ov ←eval so env
      standAt apos.atName
      let (f,first) ←holding [ov] (getMethod ov "append" pl)
      callWith cu f first (backTo cu (starEach [arg] env)) [])) aE)
    (hi:autoParam (∀ (c:Cx),interactive (c.env sc)=false) aI) (eT:autoParam (∀ env,swapsWith (.Call (.Attribute so "append" apos) [arg] [] cu) none pos.line env=pure false) aI):
    dg g true D sc E σ (.Expr (.Call (.Attribute so "append" apos) [arg] [] cu) pos) (fun fl E' U=>fl=.next∧E'=E∧∃ o',i6 o' (l++[x])∧U=putL σ L o'):=by
  obtain ⟨ys,h1,h2⟩:=ho
  have hl:ys.length=l.length:=by have:=(h2 []).length; simpa using this
  refine CG.mono (Q5 hs oQ hm hm h1 (by lia) he fJ hi eT) fun fl E' U h=>?_
  obtain ⟨rfl,rfl,tk,o',h3,rfl⟩:=h
  exact ⟨rfl,rfl,o',⟨_,h3,fun ι=>by rw [List.map_append]; exact (h2 ι).append (.cons (.str _ _) .nil)⟩,rfl⟩
theorem BP (kf:KF g) (sf:SF g) (kc:KC g) {f:Str→Option Value} (hM:(353,f)∈g.eK) (hf:fG f) {p:List Nat} {ns:List (List Nat)} {tx key:List Nat} {lt lk:List (List Nat)} (h:Path p lt.length ns tx key) {LT LK:Addr} {oT oK:Obj} (hT:i6 oT lt) (hK:i6 oK lk) (XO:lt.length≤5) (XP:lk.length≤5) {q n t k:Option AV}:
    b0 g true 39 eW (lY p1 p2 (some (.val (.ref LT))) (some (.val (.ref LK))) (some (T p)) n t k) ((LK,oK)::(LT,oT)::σ) (RO (iF.drop 8))
      (fun fl E' U=>fl=.next∧rD σ LT LK (lt++[tx]) (lk++[key]) p1 p2 E' U):=by
  refine CG.iB kc fun hN=>?_
  have hp:=h.len
  obtain ⟨m1,fk,vI⟩:=h.nm
  obtain ⟨m2,jh,RP⟩:=h.RD
  have h2:=h.vD
  have h3:=h.m3
  have h4:=h.cnt
  have h5:=h.sz
  have f1:∀ σ,Fn g true 39 (.ref 824) [T p] σ (T tx) σ:=fun σ=>by have:=My (σ:=σ) (D:=38) kf (l:=p) (by lia); rwa [h.td] at this
  have f2:∀ σ,Fn g true 39 (.ref 836) [TL ns,.int lt.length] σ (T key) σ:=fun σ=>by have:=Oi (σ:=σ) (D:=37) kf h.each (by lia) h.jk; rwa [h.ky] at this
  have f3:∀ σ a l,ns=a::l→Fn g true 39 (.ref 709) [.val (.ref 803),TL ns] σ (T tx) σ:=fun σ a l e=>by subst e; have:=zy (σ:=σ) (D:=36) kf (a:=a) (l:=l) (by simp at h5; lia); rwa [h.red] at this
  refine aZ (ba (cj kf.qg kf.qd (au aa aU) (ua (D:=36) kf (by lia) vI fk))) ?_
  refine aZ (ba (cj kf.yC kf.x9 (au aa aU) (f1 _))) ?_
  obtain ⟨yT,RQ,BI⟩:=id hT
  have RR:yT.length=lt.length:=by have:=(BI []).length; simpa using this
  have f0:∀ σ:Led,(LT,oT)∈σ→Fn g true 39 (.builtin "len") [.val (.ref LT)] σ (.int (lt.length:Int)) σ:=fun σ hm=>by have:=Q6 (g:=g) (pl:=true) (D:=39) hm RQ (by lia); rwa [RR] at this
  refine aZ (ba (cj kf.yE kf.yd (au aa (au (jj kf.js (by kernel_rfl) (by decide+kernel) (au aa aU) (f0 _ (.tail _ (.head _)))) aU)) (f2 _))) ?_
  obtain ⟨a,l,rfl⟩:∃ a l,ns=a::l:=by
    cases ns with
    | nil=>exact absurd rfl h.ne
    | cons a l=>exact ⟨a,l,rfl⟩
  have h6:a.length+(l.map List.length).sum+l.length≤50000:=by simp at h5; lia
  refine aZ (cE ((iL (b:=(tx != tx)||!decide (a::l=a::l)) (or_cons (bw (cj kf.tw kf.s9 (au (cH kf.tu) (au aa aU)) (f3 _ _ _ rfl)) aa ju) fun ω=>qm (bw (cj kf.qg kf.qd (au aa aU) (ua (D:=36) kf (by lia) RP jh)) aa (Q1 h.sn h.sn)))).cast (by simp)) bh) ?_
  refine aZ (cE (bw (cj kf.qh kf.qe (au (bP aa (bK (l:=[93])) (e8 (by simp; lia))) (au (bE (n:=0)) aU)) (uk (D:=34) kf sf hM hf (by simp; lia) (by lia) h.ka)) (fm (au (qn kf.js aa (by lia)) (au (mq kf.mB (by kernel_rfl) (by decide+kernel) (au aa aU) (BB (by simp at h4 ⊢; lia))) aU))) (Q3 h.sn)) bh) ?_
  refine cJ (vH (L:=LT) aa aa (.tail _ (.head _)) hT (by lia)) ?_
  rintro _ _ _ ⟨rfl,rfl,BQ,RS,rfl⟩
  rw [RN hN]
  have eU:bY ((LK,oK)::(LT,BQ)::σ):=⟨hN.1,fun p hp=>by
    rcases List.mem_cons.mp hp with rfl | hp
    · exact hN.2 (LK,oK) (.head _)
    rcases List.mem_cons.mp hp with rfl | hp
    · exact hN.2 (LT,oT) (.tail _ (.head _))
    · exact hN.2 p (.tail _ (.tail _ hp))⟩
  refine cJ (vH (L:=LK) aa aa (.head _) hK (by lia)) ?_
  rintro _ _ _ ⟨rfl,rfl,RT,RU,rfl⟩
  rw [lu eU.1]
  exact bC bh ⟨rfl,BQ,RT,_,_,_,_,RS,RU,rfl,rfl⟩
theorem RV (kf:KF g) (sf:SF g) (kc:KC g) {f:Str→Option Value} (hM:(353,f)∈g.eK) (hf:fG f) {bg bc:List (List Nat)} {t1 t2 k1 k2:List Nat} (h1:Path p1 0 bg t1 k1) (h2:Path p2 1 bc t2 k2) {P:Fl→ag→Led→Prop}
    (hr:∀ q n t k,b0 g true 39 eW (lY p1 p2 (some (TL [t1,t2])) (some (TL [k1,k2])) q n t k) σ (iF.drop 9) P):
    b0 g true 39 eW (lY p1 p2 none none none none none none) σ (iF.drop 6) P:=by
  refine cJ (P₁:=fun fl E' U=>fl=.next∧∃ LT,U=(LT,g9 [])::σ∧E'=lY p1 p2 (some (.val (.ref LT))) none none none none none) (n5 vy ?_) ?_
  · rintro _ _ _ ⟨rfl,_,rfl,LT,rfl,rfl⟩
    exact ⟨_,.there (.there .here),rfl,LT,rfl,rfl⟩
  rintro _ _ _ ⟨rfl,LT,rfl,rfl⟩
  refine cJ (P₁:=fun fl E' U=>fl=.next∧∃ LK,U=(LK,g9 [])::(LT,g9 [])::σ∧E'=lY p1 p2 (some (.val (.ref LT))) (some (.val (.ref LK))) none none none none) (n5 vy ?_) ?_
  · rintro _ _ _ ⟨rfl,_,rfl,LK,rfl,rfl⟩
    exact ⟨_,.there (.there (.there .here)),rfl,LK,rfl,rfl⟩
  rintro _ _ _ ⟨rfl,LK,rfl,rfl⟩
  refine cJ (xJ (P:=fun fl E' U=>fl=.next∧rD σ LT LK [t1,t2] [k1,k2] p1 p2 E' U)
    (fun i E' U=>rD σ LT LK ([t1,t2].take i) ([k1,k2].take i) p1 p2 E' U) (l:=[T p1,T p2]) (j7 (au aa (au aa aU))) ⟨_,_,none,none,none,none,.nil,.nil,rfl,rfl⟩ ?_ ?_) ?_
  · rintro i a _ _ hi ⟨oT,oK,q,n,t,k,hT,hK,rfl,rfl⟩
    match i,hi with
    | 0,hi=>
      cases hi
      refine ⟨_,.there (.there (.there (.there .here))),?_⟩
      refine CG.mono (BP (q:=q) kf sf kc hM hf h1 (lt:=[]) (lk:=[]) hT hK (by simp) (by simp)) fun fl E' U h=>.inl ⟨.inl h.1,h.2⟩
    | 1,hi=>
      cases hi
      refine ⟨_,.there (.there (.there (.there .here))),?_⟩
      refine CG.mono (BP (q:=q) kf sf kc hM hf h2 (lt:=[t1]) (lk:=[k1]) hT hK (by simp) (by simp)) fun fl E' U h=>.inl ⟨.inl h.1,h.2⟩
    | i+2,hi=>simp at hi
  · exact fun E' U h=>⟨rfl,h⟩
  rintro _ _ _ ⟨rfl,oT,oK,q,n,t,k,⟨yT,BR,p8⟩,⟨yK,RW,RX⟩,rfl,rfl⟩
  refine CG.seal (x:="keys") (l:=[k1,k2].map T) RW RX (by simp) (.there (.there (.there .here))) ?_
  refine CG.seal (x:="texts") (l:=[t1,t2].map T) BR p8 (by simp) (.there (.there .here)) ?_
  exact hr q n t k
end
noncomputable abbrev jS (p1 p2 t1 t2 k1 k2:List Nat) (names tree place RY ends:Option AV):ag:=[("first",some (T p1)),("second",some (T p2)),("texts",some (TL [t1,t2])),("keys",some (TL [k1,k2])),("names",names),("tree",tree),("place",place),("due",RY),("ends",ends)]
section
variable {g:Gx} {pl:Bool} {D:Nat} {sc:Scope} {E E' E₁ aO:ag} {σ U σ₁ σ₂ aN:Led} {p1 p2 t1 t2 k1 k2:List Nat} {bg bc:List (List Nat)} {X:Value}
theorem dO.mono {f:Value} {as:List AV} {P P':AV→Led→Prop} {PX:Led→Led→Option Value→Prop} (h:dO g pl D f as σ P X PX) (hp:∀ r U,P r U→P' r U):dO g pl D f as σ P' X PX:=
  fun c sc ι m s vs Q Er ok S ap ht hv k kx=>h c sc ι m s vs Q Er ok S ap ht hv (fun v r ae U h' ao a1 a2 a3 a4 a5 a6=>k v r ae U h' ao a1 a2 a3 a4 a5 (hp _ _ a6)) kx
theorem dW.x {f:Value} {as:List AV} {P:AV→Led→Prop} {PX:Led→Led→Option Value→Prop} (h:dW g pl D f as σ P):dO g pl D f as σ P X PX:=
  fun c sc ι m s vs Q Er ok S ap ht hv k kx=>wpAny_with_toks (n:=1) ht (h c sc ι m s vs _ _ ok S ap ht hv fun v r ae U h' ao a2 a3 a4 a5 a6=>fun a1=>k v r ae U h' ao a1 a2 a3 a4 a5 a6)
theorem vJ {st:Stmt} {rest:List Stmt} {c:Cx} {ι:Led} {m:Str→Option Value} {s:Shared} {Q:Flow→Shared→Prop} {Er:Value→Shared→Prop} (h:Ex g pl D sc E σ st .next E₁ σ₁) (ok:c.Ok g sc pl D) (S:St g c (ι++σ) m s.heap) (R:bF ι E m) (ap:Ap c ι σ) (ht:0 < s.toks)
    (k:∀ ae m' h' ao,0 < ao→St g c (ae++σ₁) m' h'→bF ae E₁ m'→Ap c ae σ₁→(∀ p∈ι,p∈ae)→wpAny g.M c.A (execs rest (c.env sc)) Q Er {s with heap:=h',toks:=ao}):wpAny g.M c.A (execs (st::rest) (c.env sc)) Q Er s:=by
  refine wpAny_execs_cons (h.on c ι m s _ _ ok S R ap ht fun v ar m₁ ah ax av ai aq aj ak hv=>?_)
  refine hv.kZ ?_
  exact k ar m₁ ah ax av ai aq aj ak
theorem fP {v i:Expr} {p:Pos} {a b:List Nat} {k:Nat} {x:List Nat} (hv:Ev g pl D sc E σ v (TL [a,b]) σ) (hi:Ev g pl D sc E σ i (.int (k:Int)) σ) (hk:k < 2) (hx:[a,b][k]?=some x)
    (hs:autoParam (∀ t u,subscripted i false (.ref t) (.int k u)=operate [.ref t,.int k u] (getItem (.ref t) (.int k u))) aW):Ev g pl D sc E σ (.Subscript v i p) (T x) σ:=
  BC hv hi (by lia) (by rw [List.getElem?_map,hx]; rfl) hs
theorem BS {e1 e2:Expr} {q1 q2 q3 q4 q5 q6 q7:Pos} {n1 n2 n3:Nat} (h1:Ev g pl D sc E σ e1 (T k1) σ) (h2:Ev g pl D sc E σ e2 (T k2) σ) (l1:k1.length≤30000) (l2:k2.length≤30000) {x y z:Str} (hx:autoParam (x=S [91]) aR) (hy:autoParam (y=S [93,10,91]) aR) (hz:autoParam (z=S [93]) aR):
    Ev g pl D sc E σ (.BinOp (.BinOp (.BinOp (.BinOp (.Constant (.str x) n1 q1) .Add e1 q2) .Add (.Constant (.str y) n2 q3) q4) .Add e2 q5) .Add (.Constant (.str z) n3 q6) q7) (T (ea k1 k2)) σ:=
  bP (bP (bP (bP (bK hx) h1 (e8 (by simp; lia))) (bK hy) (e8 (by simp; lia))) h2 (e8 (by simp; lia))) (bK hz) (e8 (by simp; lia))
end
section
variable {g:Gx} {E E' E₁ aO:ag} {σ U σ₁ σ₂ aN:Led} {p1 p2 t1 t2 k1 k2:List Nat} {bg bc:List (List Nat)}
theorem pq {o:Obj} {kvs:List (Str×Value)} (h:cG g o kvs):¬ o.cls=.none:=by
  obtain ⟨_,_,hx,_⟩:=h
  intro e
  have:=hx.1
  rw [e] at this; cases this
theorem BU {o:Obj} {S:Int→Bool} {n:Nat} (h:iD g o S n):¬ o.cls=.none:=by
  obtain ⟨hx,_⟩:=h
  intro e
  have:=hx.1
  rw [e] at this; cases this
theorem bY.only (h:bY σ) {q:Addr} {o o':Obj} (h1:(q,o)∈σ) (h2:(q,o')∈σ):o=o':=by
  have hn:=h.1
  clear h
  induction σ with
  | nil=>cases h1
  | cons p σ ih=>
    rw [List.map_cons,List.nodup_cons] at hn
    rcases List.mem_cons.mp h1 with e1 | h1
    · rcases List.mem_cons.mp h2 with e2 | h2
      · have:=e1.trans e2.symm; cases this; rfl
      · exact absurd (List.mem_map_of_mem (f:=(·.1)) h2) (by rw [←e1] at hn; exact hn.1)
    · rcases List.mem_cons.mp h2 with e2 | h2
      · exact absurd (List.mem_map_of_mem (f:=(·.1)) h1) (by rw [←e2] at hn; exact hn.1)
      · exact ih h1 h2 hn.2
theorem dk.off (hN:bY σ) {q:Addr} {tb:Obj} (hq:(q,tb)∈σ) (hc:tb.cls=.none):∀ {ns:List (List Nat)} {d:Addr} {F:List Addr},dk g σ d ns F→q∉F
  | [],d,F,h=>by
    obtain ⟨rfl,o,h1,h2⟩:=h
    intro hm
    rw [List.mem_singleton] at hm
    subst hm
    have:=hN.only hq h1
    subst this
    exact pq h2 hc
  | n::ns,d,F,h=>by
    obtain ⟨o,d1,F1,rfl,_,h1,h2,h3⟩:=h
    intro hm
    rcases List.mem_cons.mp hm with rfl | hm
    · have:=hN.only hq h1
      subst this
      exact pq h2 hc
    · exact dk.off hN hq hc h3 hm
theorem eG.off (hN:bY σ) {q:Addr} {tb:Obj} (hq:(q,tb)∈σ) (hc:tb.cls=.none):∀ {ns:List (List Nat)} {d:Addr} {F:List Addr},eG g σ d ns F→q∉F
  | [],d,F,h=>by
    obtain ⟨rfl,o,h1,h2⟩:=h
    intro hm
    rw [List.mem_singleton] at hm
    subst hm
    have:=hN.only hq h1
    subst this
    exact pq h2 hc
  | n::ns,d,F,h=>by
    obtain ⟨o,e,s1,s2,d1,F1,rfl,h1,h2,h3,h4⟩:=h
    obtain ⟨⟨oe,e1,e2⟩,⟨o1,k,e3,e4,_⟩,⟨o2,e5,e6⟩⟩:=h3
    intro hm
    rcases List.mem_cons.mp hm with rfl | hm
    · have:=hN.only hq h1
      subst this
      exact pq h2 hc
    rcases List.mem_cons.mp hm with rfl | hm
    · have:=hN.only hq e1
      subst this
      exact pq e2 hc
    rcases List.mem_cons.mp hm with rfl | hm
    · have:=hN.only hq e3
      subst this
      exact BU e4 hc
    rcases List.mem_cons.mp hm with rfl | hm
    · have:=hN.only hq e5
      subst this
      exact BU e6 hc
    · exact eG.off hN hq hc h4 hm
theorem dO.iB (kc:KC g) {pl:Bool} {D:Nat} {f:Value} {as:List AV} {P:AV→Led→Prop} {X:Value} {PX:Led→Led→Option Value→Prop} (h:bY σ→dO g pl D f as σ P X PX):dO g pl D f as σ P X PX:=
  fun c sc ι m s vs Q Er ok S ap ht hv k kx=>h (S.gR kc ok ap) c sc ι m s vs Q Er ok S ap ht hv k kx
theorem RZ (kf:KF g) (sf:SF g) (kc:KC g) (ko:KO g) (ke:KE g) {f:Str→Option Value} (hM:(353,f)∈g.eK) (hf:fG f) (h:Plain p1 p2 bg bc t1 t2 k1 k2) (he:bg=bc) {tb:Obj} (hP:(681,tb)∈σ) (fL:tb=tabObj #[]):
    dO g true 39 (.ref 375) [T (ea k1 k2)] σ (fun ω ω=>False) (.ref 364) (fun U ι a0=>(∃ t tk,a0=some (.ref t)∧(t,cV [.str (kQ (declS bc) (k2.length+2)) tk])∈ι)∧∃ more,(681,tabObj more)∈U):=by
  subst he
  have d:=h.doc
  obtain ⟨e,lL,oW,R0⟩:=d.f2
  have hlen:=d.len
  have m4:=d.en
  have:=h.b.cnt
  have R1:=h.tz
  refine dO.mono (Bz (D:=28) kf sf kc ko hM hf d (R:=fun ω ω=>False) (fun ω ω h=>h.elim) fun a σ₁ F1 F2 O gq=>?_) fun r U h=>?_
  · have z:=QE (D:=28) (k:=k1.length+1+2) (q:=k1.length+2) kf sf kc ko ke hM hf hlen (by lia) lL oW d.k2 (by lia) O (by lia) d.nl h.nl (by lia) (gq _ hP) fL
    rw [show k1.length+4+k2.length - (k1.length+2)=k2.length+2 by lia] at z
    exact dO.mono z fun r U h=>h.elim
  · obtain ⟨_,_,h⟩:=h
    exact h
theorem R2 (kf:KF g) (sf:SF g) (kc:KC g) (ko:KO g) {f:Str→Option Value} (hM:(353,f)∈g.eK) (hf:fG f) (h:Plain p1 p2 bg bc t1 t2 k1 k2) (he:bg≠bc) {tb:Obj} (hP:(681,tb)∈σ) (fL:tb=tabObj #[]):
    dO g true 39 (.ref 375) [T (ea k1 k2)] σ (fun r U=>∃ d,r=.val (.ref d)∧f5 g U d (bS bg bc)∧(681,tb)∈U) (.ref 364) (fun ω ω ω=>False):=by
  have d:=h.doc
  obtain ⟨e,lL,oW,R0⟩:=d.f2
  have:=h.b.cnt
  refine dO.mono (Bz (D:=28) kf sf kc ko hM hf d (R:=fun a U=>iY g U a∧f5 g U a.dN (bS bg bc)∧(681,tb)∈U) (fun ω ω h=>h.1) fun a σ₁ F1 F2 O gq=>dO.iB kc fun hN=>?_) fun r U h=>?_
  · refine dO.mono (Bb (D:=28) (k:=k1.length+1+2) kf sf kc ko hM hf d.len (by lia) lL oW d.k2 d.c2 O he).x fun r U h=>?_
    have hc:tb.cls=.none:=by rw [fL]
    exact ⟨h.1,h.2.1,h.2.2.1,h.2.2.2.2 _ (gq _ hP) (O.ch.off hN (gq _ hP) hc) (O.fc.off hN (gq _ hP) hc)⟩
  · obtain ⟨a,h1,h2,h3,h4⟩:=h
    exact ⟨_,h1,h3,h4⟩
theorem R3 (kf:KF g) (sf:SF g) (kc:KC g) (ko:KO g) (ke:KE g) (ks:KS g) {f:Str→Option Value} (hM:(353,f)∈g.eK) (hf:fG f) (h:Plain p1 p2 bg bc t1 t2 k1 k2) {tb:Obj} (hP:(681,tb)∈σ) (fL:tb=tabObj #[]) {n:Option AV} {P:AV→Led→Prop} (vK:∀ U,(∃ more,(681,tabObj more)∈U)→P (.bool true) U)
    (hr:∀ d U,bg≠bc→f5 g U d (bS bg bc)→(681,tb)∈U→b0 g true 39 eW (jS p1 p2 t1 t2 k1 k2 n (some (.val (.ref d))) none none none) U (iF.drop 10) (fun fl E' U=>∃ r,fl=.ret r∧P r U)):
    b0 g true 39 eW (jS p1 p2 t1 t2 k1 k2 n none none none none) σ (iF.drop 9) (fun fl E' U=>∃ r,fl=.ret r∧P r U):=by
  have kO:=h.a.m3
  have rC:=h.b.m3
  by_cases he:bg=bc
  · refine cJ (P₁:=fun fl ω U=>fl=.ret (.bool true)∧∃ more,(681,tabObj more)∈U) (BG kf ke (PX:=fun E' U ι a0=>E'=jS p1 p2 t1 t2 k1 k2 n none none none none∧(∃ t tk,a0=some (.ref t)∧(t,cV [.str (kQ (declS bc) (k2.length+2)) tk])∈ι)∧∃ more,(681,tabObj more)∈U)
      (mY (CX.weak (BJ (t6 kf.tA kf.ta (au (BS (fP aa (bE (n:=0)) (by decide) rfl) (fP aa (bE (n:=1)) (by decide) rfl) kO rC) aU) (RZ kf sf kc ko ke hM hf h he hP fL)) (P:=fun ω ω ω=>False) (fun a E₁ σ₁ q=>q.2.elim)) (fun ω ω ω q=>q.elim) fun E' U ι a0 q=>q)) ?_ (by kernel_rfl)) ?_
    · intro c ι m s Q Er E' U e oe vs a0 ok S R ap ht hc hd h0 ⟨hE,⟨t,tk,ha,hm⟩,pv⟩ k
      subst hE ha
      have R':=R.plus (x:="error") (v:=.ref e) (show ("error":Str)∉(["first","second","texts","keys","names","tree","place","due","ends"]:List Str) by decide+kernel) (.val (.ref e))
      have XQ:=h.b.m3
      obtain ⟨m1,fk,vI⟩:=h.b.nm
      have hp:=h.b.len
      have XR:=h.b.cnt
      have R1:=h.tz
      have XS:=text_len (n:=k2.length+2) (by lia)
      have l1:("line 2, column ":Str).length=15:=by decide+kernel
      have l2:("Cannot declare ":Str).length=15:=by decide+kernel
      have l3:(" twice (at ":Str).length=11:=by decide+kernel
      have l4:(")":Str).length=1:=by decide+kernel
      refine vJ (ba (mq kf.mB (by kernel_rfl) (by decide+kernel) (au (cj kf.qg kf.qd (au aa aU) (ua (D:=36) kf (by lia) vI fk)) aU) (BB (l:=bc.map T) (by simp; lia)))) ok S R' ap ht fun ar m₁ ah ax av ai aq aj ak=>?_
      refine vJ (ba (bP (eD (x:="line 2, column ")) (mq kf.nV (by kernel_rfl) (by decide+kernel) (au (bP (qn kf.js (fP aa (bE (n:=1)) (by decide) rfl) (by lia)) (bE (n:=2)) kr) aU) (Rj (n:=k2.length+2) (by lia))) (mj (by rw [sizeLine_eq]; lia)))) ok ai aq aj av fun aG m₂ aB a9 a8 aw aC ay aA=>?_
      refine vJ (ba ((bP (bP (bP (bP (eD (x:="Cannot declare ")) (mq kf.nV (by kernel_rfl) (by decide+kernel) (au aa aU) (Qy (xs:=bc) (by lia))) (mj (by rw [sizeLine_eq]; lia))) (eD (x:=" twice (at ")) (mj (by rw [sizeLine_eq,jR]; lia))) aa (mj (by rw [sizeLine_eq,jR,jR,jR]; lia))) (eD (x:=")")) (mj (by rw [sizeLine_eq,jR,jR,jR,jR]; lia))).cast (a':=.str (kQ (declS bc) (k2.length+2))) (by rw [RC]))) ok aw aC ay a8 fun br cD bu bx ck bj cI bp bo=>?_
      have gq:∀ p∈(e,oe)::ι,p∈br:=fun p hp=>bo p (aA p (ak p hp))
      refine wpAny_execs_cons (Rn kf ks ok bj cI bp ck (gq _ (.head _)) hc hd h0 (gq _ (.tail _ hm)) ((nG (fP aa (bE (n:=0)) (by decide) rfl) (fP aa (bE (n:=1)) (by decide) rfl) dH).cast (by rw [h.eqv.mpr he]; simp)) (.head _) aa fun iS qT eO jE iv dM oR eS fb=>?_)
      obtain ⟨w,hw,_⟩:=oR.at_ "error" _ (.head _)
      exact k (.bool true) (.bool true) iS U qT eO jE iv dM eS (fun p hp=>fb p (gq p (.tail _ hp))) (.bool true) ⟨w,hw⟩ ⟨rfl,pv⟩
    · rintro _ _ _ ⟨rfl,pv⟩
      exact ⟨_,rfl,vK _ pv⟩
  · refine cJ (P₁:=fun fl E' U=>fl=.next∧∃ d,E'=jS p1 p2 t1 t2 k1 k2 n (some (.val (.ref d))) none none none∧f5 g U d (bS bg bc)∧(681,tb)∈U) (BG kf ke (PX:=fun E' U ι a0=>False)
      (mY (CX.weak (BJ (t6 kf.tA kf.ta (au (BS (fP aa (bE (n:=0)) (by decide) rfl) (fP aa (bE (n:=1)) (by decide) rfl) kO rC) aU) (R2 kf sf kc ko hM hf h he hP fL)) (P:=fun fl E' U=>fl=.next∧∃ d,E'=jS p1 p2 t1 t2 k1 k2 n (some (.val (.ref d))) none none none∧f5 g U d (bS bg bc)∧(681,tb)∈U) (fun a E₁ σ₁ q=>?_)) (fun ω ω ω q=>q) fun E' U ι a0 q=>q.2)) ?_ (by kernel_rfl)) ?_
    · obtain ⟨rfl,d,rfl,q⟩:=q
      exact ⟨_,.there (.there (.there (.there (.there .here)))),rfl,d,rfl,q⟩
    · intro c ι m s Q Er E' U e oe vs a0 ok S R ap ht hc hd h0 hF k
      exact hF.elim
    · rintro _ _ U ⟨rfl,d,rfl,q⟩
      exact hr d U he q.1 q.2
end
section
variable {g:Gx} {E E' E₁ aO:ag} {σ U σ₁ σ₂ aN:Led} {p1 p2 t1 t2 k1 k2:List Nat} {bg bc:List (List Nat)}
theorem BV (kc:KC g) {a b c:Expr} {so:Expr} {x y z:List Nat} {L:Addr} {o:Obj} {l:List (List Nat)} {np q1 q2 q3 q4 q5 cu pos R4:Pos} {n1:Nat} {s:Str} {sc:Scope} (ha:∀ σ,Ev g true 39 sc E σ a (T x) σ) (hb:∀ σ,Ev g true 39 sc E σ b (T y) σ) (hc:∀ σ,Ev g true 39 sc E σ c (T z) σ) (R5:∀ σ,Ev g true 39 sc E σ so (.val (.ref L)) σ)
    (ho:i6 o l) (hz:l.length≤100) (hy:y.length≤10000) (hs:autoParam (s=S [47]) aR)
    (hm:autoParam (∀ env,∃ pl,eval (.Call (.Attribute a "startswith" q1) [.BinOp b .Add (.Constant (.str s) n1 q2) q3] [] q4) env=(do
      let ov ←eval a env
      standAt q1.atName
      let (f,first) ←holding [ov] (getMethod ov "startswith" pl)
      callWith q4 f first (backTo q4 (starEach [.BinOp b .Add (.Constant (.str s) n1 q2) q3] env)) [])) aE)
    (he:autoParam (∀ env,starEach [c] env=(false,eval c env)::starEach [] env) aI)
    (fJ:autoParam (∀ env,∃ pl,eval (.Call (.Attribute so "append" q5) [c] [] cu) env=(do
      let ov ←eval so env
      standAt q5.atName
      let (f,first) ←holding [ov] (getMethod ov "append" pl)
      callWith cu f first (backTo cu (starEach [c] env)) [])) aE)
    (hi:autoParam (∀ (c:Cx),interactive (c.env sc)=false) aI) (eT:autoParam (∀ env,swapsWith (.Call (.Attribute so "append" q5) [c] [] cu) none pos.line env=pure false) aI):
    dg g true 39 sc E ((L,o)::σ) (.If (.UnaryOp .Not (.Call (.Attribute a "startswith" q1) [.BinOp b .Add (.Constant (.str s) n1 q2) q3] [] q4) np) [.Expr (.Call (.Attribute so "append" q5) [c] [] cu) pos] [] R4)
      (fun fl E' U=>fl=.next∧E'=E∧∃ o',i6 o' (l++if Txt.startswith (S x) (S (y++[47])) then [] else [z])∧U=(L,o')::σ):=by
  refine CG.iB kc fun hN=>?_
  refine hY (b:=!Txt.startswith (S x) (S (y++[47]))) (jn (dw (jm (ha _) sW (au (bP (hb _) (bK hs) (e8 (by simp; lia))) aU) xN (hm:=hm)) (.bool _))) (fun e=>?_) fun e=>?_
  · refine dX (CG.mono (vH (R5 _) (hc _) (.head _) ho (by lia) he fJ hi eT) fun fl E' U h=>?_)
    obtain ⟨rfl,rfl,o',h1,rfl⟩:=h
    refine ⟨rfl,rfl,o',?_,lu hN.1⟩
    rw [if_neg (by simpa using e)]
    exact h1
  · refine bC bh ⟨rfl,rfl,o,?_,rfl⟩
    rw [if_pos (by simpa using e),List.append_nil]
    exact ho
theorem R6 (kf:KF g) (kc:KC g) (kD:∀ h:Heap,g.K.In h→((h.objs.size:Addr)==sysModules)=false) (h:Plain p1 p2 bg bc t1 t2 k1 k2) (he:bg≠bc) {d:Addr} (hT:f5 g σ d (bS bg bc)) {n:Option AV} {P:AV→Led→Prop} (vK:P (.bool true) σ):
    b0 g true 39 eW (jS p1 p2 t1 t2 k1 k2 n (some (.val (.ref d))) none none none) σ (iF.drop 10) (fun fl E' U=>∃ r,fl=.ret r∧P r U):=by
  have aT:¬ t1=t2:=fun e=>he (h.eqv.mp e)
  have hw:=h.wl
  have RL:=h.a.vD
  have RM:=h.b.vD
  have rE:=h.ends he
  have pk:=h.es
  have XT:=h.cnt
  refine aZ (cE ((bw (fP aa (bE (n:=0)) (by decide) rfl) (fP aa (bE (n:=1)) (by decide) rfl) dH).cast (by simpa using aT)) bh) ?_
  have e1:(List.range ((cz (bS bg bc) []).map TL).length).map (fun i=>T (bG ((cz (bS bg bc) []).getD i [])))=((cz (bS bg bc) []).map bG).map T:=by
    rw [List.length_map,range_getD (fun w=>T (bG w)),List.map_map]
    rfl
  refine aZ (E₁:=jS p1 p2 t1 t2 k1 k2 n (some (.val (.ref d))) none none (some (TL ((cz (bS bg bc) []).map bG)))) (BO (l:=(cz (bS bg bc) []).map TL) (f:=fun i=>T (bG ((cz (bS bg bc) []).getD i []))) (cj kf.tv kf.s8 (au aa (au zw aU)) (zT kf kD 30 (D:=9) (way:=[]) hT h.dep (by simp) (by lia)))
    (fun c ι m ok=>Rl (D:=36) kf ok (by decide+kernel) (by kernel_rfl) (by kernel_rfl) (by kernel_rfl) h.RE fun i a q=>by rw [List.getD_eq_getElem?_getD,q]; rfl) (by rw [sizeLine_eq]; simp; lia) (by rw [e1]; exact .there (.there (.there (.there (.there (.there (.there (.there .here)))))))) ) ?_
  refine cJ (P₁:=fun fl E' U=>fl=.next∧∃ L,U=(L,g9 [])::σ∧E'=jS p1 p2 t1 t2 k1 k2 n (some (.val (.ref d))) none (some (.val (.ref L))) (some (TL ((cz (bS bg bc) []).map bG)))) (n5 vy ?_) ?_
  · rintro _ _ _ ⟨rfl,_,rfl,L,rfl,rfl⟩
    exact ⟨_,.there (.there (.there (.there (.there (.there (.there .here)))))),rfl,L,rfl,rfl⟩
  rintro _ _ _ ⟨rfl,L,rfl,rfl⟩
  refine cJ (BV kc (fun σ=>fP aa (bE (n:=1)) (by decide) rfl) (fun σ=>fP aa (bE (n:=0)) (by decide) rfl) (fun σ=>fP aa (bE (n:=0)) (by decide) rfl) (fun σ=>aa) .nil (by simp) (by lia)) ?_
  rintro _ _ _ ⟨rfl,rfl,hB,nI,rfl⟩
  refine cJ (BV kc (fun σ=>fP aa (bE (n:=0)) (by decide) rfl) (fun σ=>fP aa (bE (n:=1)) (by decide) rfl) (fun σ=>fP aa (bE (n:=1)) (by decide) rfl) (fun σ=>aa) nI (by split <;> simp) (by lia)) ?_
  rintro _ _ _ ⟨rfl,rfl,Kg,⟨ys,sH,BW⟩,rfl⟩
  rw [List.nil_append,←rE] at BW
  refine CG.seal (x:="due") (l:=((cz (bS bg bc) []).map bG).map T) sH BW (by simp) (.there (.there (.there (.there (.there (.there (.there .here)))))) ) ?_
  exact bC (bO (cb (nG aa aa (Q2 pk pk)))) ⟨_,rfl,by simpa using vK⟩
theorem R7 (kf:KF g) (sf:SF g) (kc:KC g) (ko:KO g) (ke:KE g) (ks:KS g) (kD:∀ h:Heap,g.K.In h→((h.objs.size:Addr)==sysModules)=false) {f:Str→Option Value} (hM:(353,f)∈g.eK) (hf:fG f) {is:List Int} (hl:is.length≤100) {bg bc:List (List Nat)} {t1 t2 k1 k2:List Nat}
    (h:Plain (eI (dB (cA is))) (ey (dB (cA is))) bg bc t1 t2 k1 k2) {tb:Obj} (hP:(681,tb)∈σ) (fL:tb=tabObj #[]):
    b0 g true 39 eW (lX is none none none none none none) σ iF (fun fl ω U=>fl=.ret (.bool true)∧∃ more,(681,tabObj more)∈U):=by
  refine RJ kf hl fun x sign=>?_
  refine CG.drop (E':=lY (eI (dB (cA is))) (ey (dB (cA is))) none none none none none none) (show (["first","second","texts","keys","path","names","tidy","key","tree","place","due","ends"]:List Str).Nodup by decide+kernel) (fun p hp=>List.Sublist.subset (.cons _ (.cons _ (.cons _ (.cons _ (.cons_cons _ (.cons_cons _ (.cons _ (List.Sublist.refl _)))))))) hp) ?_
  refine RV kf sf kc hM hf h.a h.b fun q n t k=>?_
  refine CG.drop (E':=jS (eI (dB (cA is))) (ey (dB (cA is))) t1 t2 k1 k2 n none none none none) (show (["first","second","texts","keys","names","tree","place","due","ends"]:List Str).Nodup by decide+kernel) (fun p hp=>List.Sublist.subset (.cons_cons _ (.cons_cons _ (.cons_cons _ (.cons_cons _ (.cons _ (.cons_cons _ (.cons _ (.cons _ (List.Sublist.refl _))))))))) hp) ?_
  refine CG.mono (R3 (P:=fun r U=>r=.bool true∧∃ more,(681,tabObj more)∈U) kf sf kc ko ke ks hM hf h hP fL (fun U hm=>⟨rfl,hm⟩) fun d U he hT hm=>R6 kf kc kD h he hT ⟨rfl,#[],fL▸hm⟩) fun fl E' U q=>?_
  obtain ⟨r,rfl,rfl,hr⟩:=q
  exact ⟨rfl,hr⟩
end
end Mine
end
section
open PySem PySem.W PyProof.Rows
namespace Mine
noncomputable def ed:List Nat:=[47,97,46,39,34,92,10]
theorem R8:∀ c∈ed,c≠39→c≠10→(c≠39∧gL.contains c=false):=by decide
theorem R9:∀ c∈ed,c≠10→gL.contains c=false:=by decide
theorem BX:∀ c∈ed,c≠13:=by decide
theorem rF:∀ c∈ed,c < 1114112:=by decide
theorem BY:∀ x:List Nat,sub 10 [92,110] (sub 34 [92,34] (sub 92 [92,92] x))=encL x
  | []=>rfl
  | c::x=>by
    rw [qw,qv,qv,BY x]
    show _=encC c++encL x
    congr 1
    unfold encC
    by_cases h1:c=92
    · subst h1; decide
    · rw [if_neg h1,if_neg h1]
      by_cases h2:c=34
      · subst h2; decide
      · rw [if_neg h2]
        have e1:sub 34 [92,34] [c]=[c]:=by simp [sub,h2]
        rw [e1]
        by_cases h3:c=10
        · subst h3; decide
        · rw [if_neg h3]; simp [sub,h3]
theorem Sa:∀ {x:List Nat},(∀ c∈x,c∈ed)→∀ c∈encL x,c≠10∧c≠13:=by
  intro x hx c hc
  obtain ⟨d,hd,hc⟩:=List.mem_flatMap.mp hc
  have uo:=BX d (hx d hd)
  unfold encC at hc
  split at hc
  · simp at hc; lia
  split at hc
  · simp at hc; lia
  split at hc
  · simp at hc; lia
  · rename_i h; simp at hc; subst hc; exact ⟨h,uo⟩
theorem BZ:∀ x:List Nat,(encL x).length≤2 * x.length
  | []=>by simp [encL]
  | c::x=>by
    have:=BZ x
    have h:(encC c).length≤2:=by unfold encC; split <;> (try split) <;> (try split) <;> simp
    have e:encL (c::x)=encC c++encL x:=rfl
    rw [e,List.length_append,List.length_cons]; lia
theorem rG (x:List Nat) (d:Nat):(cR x d=x∧x≠[]∧∀ c∈x,c=97)∨(cR x d=[39]++x++[39]∧39∉x∧10∉x)∨cR x d=[34]++encL x++[34]:=by
  unfold cR
  split
  · rename_i h
    simp only [Bool.and_eq_true,beq_iff_eq,bne_iff_ne] at h
    refine .inl ⟨rfl,h.2.1,fun c hc=>?_⟩
    have:=List.filter_eq_nil_iff.mp h.2.2 c hc
    simpa using this
  split
  · rename_i h
    simp only [Bool.and_eq_true,decide_eq_true_eq,Bool.not_eq_true',List.contains_eq_mem,decide_eq_false_iff_not] at h
    exact .inr (.inl ⟨rfl,h.2.1,h.2.2⟩)
  · rw [BY]; exact .inr (.inr rfl)
theorem B0 {l x rest:List Nat} {k d e:Nat} (hx:∀ c∈x,c∈ed) (he:iT.contains e=false) (h:l.drop k=cR x d++e::rest):iy l k x (k+(cR x d).length):=by
  rcases rG x d with ⟨h1,h2,h3⟩ | ⟨h1,h2,h3⟩ | h1
  · rw [h1] at h ⊢
    exact .bare h2 (fun c hc=>by rw [h3 c hc]; decide) he h
  · rw [h1] at h ⊢
    have:=iy.lit (l:=l) (k:=k) (x:=x) (rest:=e::rest) (fun c hc=>R8 c (hx c hc) (fun q=>h2 (q▸hc)) fun q=>h3 (q▸hc)) (by rw [h]; simp)
    have e2:k+([39]++x++[39]).length=k+1+x.length+1:=by simp; lia
    rw [e2]; exact this
  · rw [h1] at h ⊢
    have:=iy.basic (l:=l) (k:=k) (x:=x) (rest:=e::rest) (fun c hc=>R9 c (hx c hc)) (by rw [h]; simp)
    have e2:k+([34]++encL x++[34]).length=k+1+(encL x).length+1:=by simp; lia
    rw [e2]; exact this
theorem B1 (x:List Nat) (d:Nat):∃ e r,cR x d=e::r∧eo.contains e=false∧e≠91:=by
  rcases rG x d with ⟨h1,h2,h3⟩ | ⟨h1,h2,h3⟩ | h1
  · cases x with
    | nil=>exact absurd rfl h2
    | cons c x=>
      have:=h3 c (List.mem_cons_self ..)
      subst this
      exact ⟨97,x,h1,by decide,by decide⟩
  · exact ⟨39,x++[39],by rw [h1]; simp,by decide,by decide⟩
  · exact ⟨34,encL x++[34],by rw [h1]; simp,by decide,by decide⟩
theorem B2 {x:List Nat} (d:Nat) (hx:∀ c∈x,c∈ed):∀ c∈cR x d,c≠10∧c≠13:=by
  intro c hc
  rcases rG x d with ⟨h1,h2,h3⟩ | ⟨h1,h2,h3⟩ | h1
  · rw [h1] at hc
    rw [h3 c hc]; decide
  · rw [h1] at hc
    simp at hc
    rcases hc with rfl | hc | rfl
    · decide
    · exact ⟨fun q=>h3 (q▸hc),BX c (hx c hc)⟩
    · decide
  · rw [h1] at hc
    simp at hc
    rcases hc with rfl | hc | rfl
    · decide
    · exact Sa hx c hc
    · decide
theorem Sb (x:List Nat) (d:Nat):(cR x d).length≤2 * x.length+2:=by
  rcases rG x d with ⟨h1,h2,h3⟩ | ⟨h1,h2,h3⟩ | h1
  · rw [h1]; lia
  · rw [h1]; simp; lia
  · rw [h1]
    have:=BZ x
    simp; lia
inductive Parts:List (List Nat)→List (List Nat)→Prop
  | nil:Parts [] []
  | cons {x:List Nat} {ns ps:List (List Nat)} (d:Nat):Parts ns ps→Parts (x::ns) (cR x d::ps)
theorem rH:∀ (ns:List (List Nat)) (t:Nat),Parts ns (f9 ns t)
  | [],t=>.nil
  | x::ns,t=>by
    have e:f9 (x::ns) t=cR x (t % 3)::f9 ns (t+1):=by
      unfold f9
      rw [List.length_cons,List.range_succ_eq_map,List.map_cons,List.map_map]
      congr 1
      · simp
      · apply List.map_congr_left
        intro k _
        simp [Function.comp]
        congr 2
        lia
    rw [e]
    exact .cons _ (rH ns (t+1))
noncomputable abbrev eJ (ps:List (List Nat)):List Nat:=ps.flatMap fun y=>[32,46,9]++y
theorem B3 (ps:List (List Nat)) (t:List Nat):∃ e r,eJ ps++93::t=e::r∧iT.contains e=false:=by
  cases ps with
  | nil=>exact ⟨93,t,rfl,by decide⟩
  | cons y ps=>exact ⟨32,_,by simp [eJ]; rfl,by decide⟩
theorem Sd (p:Nat→Bool) (l:List Nat) (k:Nat):gJ p l k k:=⟨Nat.le_refl _,fun j h1 h2=>absurd h2 (by lia)⟩
theorem B4 {l:List Nat}:∀ {ns ps:List (List Nat)},Parts ns ps→(∀ x∈ns,∀ c∈x,c∈ed)→∀ {m:Nat} {t:List Nat},l.drop m=eJ ps++93::t→
    ∃ p e,gJ eo.contains l m p∧l[p]?=some e∧eo.contains e=false∧kB l p ns (m+(eJ ps).length)
  | _,_,.nil,_,m,t,h=>⟨m,93,Sd _ _ _,gM h,by decide,by simpa using kB.done (gM h) (by decide)⟩
  | x::ns,_,.cons (ps:=ps) d hp,fj,m,t,h=>by
    have e0:eJ (cR x d::ps)++93::t=[32]++([46]++([9]++(cR x d++(eJ ps++93::t)))):=by simp [eJ]
    rw [e0] at h
    have d1:=gO h
    have d2:=gO d1
    have d3:=gO d2
    simp only [List.length_cons,List.length_nil] at d1 d2 d3
    have d4:=gO d3
    obtain ⟨e,r,er,eb⟩:=B3 ps t
    obtain ⟨e',r',vL,ew,_⟩:=B1 x d
    have part:iy l (m+1+1+1) x (m+1+1+1+(cR x d).length):=B0 (fj x (List.mem_cons_self ..)) eb (by rw [←er]; exact d3)
    obtain ⟨p',f,g1,g2,g3,g4⟩:=B4 hp (fun y hy=>fj y (List.mem_cons_of_mem _ hy)) d4
    refine ⟨m+1,46,qC (a:=[32]) h (by intro c hc; rw [List.mem_singleton] at hc; subst hc; decide),gM d1,by decide,?_⟩
    have e5:m+(eJ (cR x d::ps)).length=m+1+1+1+(cR x d).length+(eJ ps).length:=by simp [eJ]; lia
    rw [e5]
    refine kB.more (q:=m+1+1+1) (gM d1) ?_ (e:=e') ?_ ew part g1 g2 g3 g4
    · exact qC (a:=[9]) d2 (by intro c hc; rw [List.mem_singleton] at hc; subst hc; decide)
    · rw [vL] at d3
      exact gM d3
theorem vM (x:List Nat) (ns:List (List Nat)) (t:Nat):∃ d ps,Parts ns ps∧cT (x::ns) t=cR x d++eJ ps:=by
  have h:=rH (x::ns) t
  unfold cT
  generalize f9 (x::ns) t=P at h
  cases h with
  | cons d hp=>exact ⟨d,_,hp,uF _ _ _⟩
theorem vO {l t:List Nat} {ns:List (List Nat)} {k turn:Nat} (aT:ns≠[]) (fj:∀ x∈ns,∀ c∈x,c∈ed) (h:l.drop k=cT ns turn++93::t):kC l k ns (k+(cT ns turn).length):=by
  cases ns with
  | nil=>exact absurd rfl aT
  | cons x ns=>
  obtain ⟨d,ps,hp,e⟩:=vM x ns turn
  rw [e] at h ⊢
  rw [List.append_assoc] at h
  obtain ⟨e',r,er,eb⟩:=B3 ps t
  have part:iy l k x (k+(cR x d).length):=B0 (fj x (List.mem_cons_self ..)) eb (by rw [←er]; exact h)
  obtain ⟨p,f,g1,g2,g3,g4⟩:=B4 hp (fun y hy=>fj y (List.mem_cons_of_mem _ hy)) (gO h)
  have e5:k+(cR x d++eJ ps).length=k+(cR x d).length+(eJ ps).length:=by rw [List.length_append]; lia
  rw [e5]
  exact .mk part g1 g2 g3 g4
theorem B5 {ns:List (List Nat)} (turn:Nat) (aT:ns≠[]):∃ e r,cT ns turn=e::r∧eo.contains e=false∧e≠91:=by
  cases ns with
  | nil=>exact absurd rfl aT
  | cons x ns=>
  obtain ⟨d,ps,hp,e⟩:=vM x ns turn
  obtain ⟨e',r',vL,ew,en⟩:=B1 x d
  rw [e,vL]
  exact ⟨e',r'++eJ ps,rfl,ew,en⟩
theorem B6:∀ {ns ps:List (List Nat)},Parts ns ps→(∀ x∈ns,∀ c∈x,c∈ed)→∀ c∈eJ ps,c≠10∧c≠13
  | _,_,.nil,_,c,h=>by simp at h
  | x::ns,_,.cons (ps:=ps) d hp,fj,c,h=>by
    have e0:eJ (cR x d::ps)=[32,46,9]++(cR x d++eJ ps):=by simp [eJ]
    rw [e0] at h
    rcases List.mem_append.mp h with h | h
    · simp at h; lia
    rcases List.mem_append.mp h with h | h
    · exact B2 d (fj x (List.mem_cons_self ..)) c h
    · exact B6 hp (fun y hy=>fj y (List.mem_cons_of_mem _ hy)) c h
theorem B7 {ns:List (List Nat)} (turn:Nat) (fj:∀ x∈ns,∀ c∈x,c∈ed):∀ c∈cT ns turn,c≠10∧c≠13:=by
  cases ns with
  | nil=>intro c h; simp [cT,f9,iA] at h
  | cons x ns=>
  obtain ⟨d,ps,hp,e⟩:=vM x ns turn
  rw [e]
  intro c h
  rcases List.mem_append.mp h with h | h
  · exact B2 d (fj x (List.mem_cons_self ..)) c h
  · exact B6 hp (fun y hy=>fj y (List.mem_cons_of_mem _ hy)) c h
theorem vP:∀ {ns ps:List (List Nat)},Parts ns ps→(ps.map List.length).sum≤2 * (ns.map List.length).sum+2 * ns.length∧ps.length=ns.length
  | _,_,.nil=>by simp
  | x::ns,_,.cons (ps:=ps) d hp=>by
    have h:=vP hp
    have h2:=Sb x d
    simp only [List.map_cons,List.sum_cons,List.length_cons] at *
    lia
theorem Se (ns:List (List Nat)) (turn:Nat):(cT ns turn).length≤2 * (ns.map List.length).sum+5 * ns.length:=by
  have h:=vP (rH ns turn)
  have h2:=z6 [32,46,9] (f9 ns turn)
  unfold cT
  simp only [List.length_cons,List.length_nil] at h2
  lia
noncomputable abbrev sl (k:Nat):List Nat:=List.replicate k 47
noncomputable def gW (u:List Nat):Prop:=∃ u0 d,u=u0++[d]∧d≠47
inductive bM:List Nat→List (List Nat)→Prop
  | root (k:Nat):bM (sl k) [sl k]
  | first (k:Nat) {c:List Nat}:c≠[]→47∉c→bM (sl k++c) [sl k,c]
  | more {u:List Nat} {ns:List (List Nat)} (r:Nat) {c:List Nat}:bM u ns→gW u→47∉c→bM (u++sl (r+1)++c) (ns++[c])
theorem bM.ne {p:List Nat} {ns:List (List Nat)} (h:bM p ns):ns≠[]:=by cases h <;> simp
theorem pw {x c:List Nat} (hc:c≠[]) (h:47∉c):gW (x++c):=by
  rcases List.eq_nil_or_concat c with rfl | ⟨c0,d,rfl⟩
  · exact absurd rfl hc
  · refine ⟨x++c0,d,by simp,fun e=>h ?_⟩
    subst e; simp
theorem Sg {x:List Nat}:¬ gW (x++[47]):=by
  rintro ⟨u0,d,e,hd⟩
  have:=List.append_inj_right' e rfl
  simp at this
  exact hd this.symm
theorem Sh {x:List Nat} (r:Nat):¬ gW (x++sl (r+1)):=by
  have:sl (r+1)=sl r++[47]:=List.replicate_succ'
  rw [this,←List.append_assoc]; exact Sg
theorem Si (k:Nat):¬ gW (sl k):=by
  rintro ⟨u0,d,e,hd⟩
  have h:d∈sl k:=by rw [e]; simp
  exact hd (List.eq_of_mem_replicate h)
theorem bM.snoc {q:List Nat} {N:List (List Nat)} (h:bM q N) (e:Nat):∃ c',bM (q++[e]) (N.dropLast++[c'])∨bM (q++[e]) (N++[c']):=by
  by_cases he:e=47
  · subst he
    cases h with
    | root k=>
      refine ⟨sl (k+1),.inl ?_⟩
      have:sl k++[47]=sl (k+1):=List.replicate_succ'.symm
      rw [this]; exact .root (k+1)
    | @first k c h1 h2=>
      refine ⟨[],.inr ?_⟩
      have:=bM.more 0 (c:=[]) (bM.first k h1 h2) (pw h1 h2) (by simp)
      simpa using this
    | @more u ns r c h1 h2 h3=>
      by_cases hc:c=[]
      · subst hc
        refine ⟨[],.inl ?_⟩
        have e1:u++sl (r+1)++[]++[47]=u++sl (r+1+1)++[]:=by
          rw [show sl (r+1+1)=sl (r+1)++[47] from List.replicate_succ']; simp
        rw [e1,List.dropLast_concat]
        exact .more (r+1) h1 h2 (by simp)
      · refine ⟨[],.inr ?_⟩
        have:=bM.more 0 (c:=[]) (bM.more r h1 h2 h3) (pw hc h3) (by simp)
        simpa using this
  · cases h with
    | root k=>exact ⟨[e],.inr (by simpa using bM.first k (c:=[e]) (by simp) (by simpa using fun q=>he q.symm))⟩
    | @first k c h1 h2=>
      refine ⟨c++[e],.inl ?_⟩
      rw [List.append_assoc]
      exact .first k (by simp) (by simp [h2]; exact fun q=>he q.symm)
    | @more u ns r c h1 h2 h3=>
      refine ⟨c++[e],.inl ?_⟩
      rw [List.append_assoc,List.dropLast_concat]
      exact .more r h1 h2 (by simp [h3]; exact fun q=>he q.symm)
theorem B8 (p:List Nat):∃ ns,bM p ns:=by
  have key:∀ n (p:List Nat),p.length=n→∃ ns,bM p ns:=by
    intro n
    induction n with
    | zero=>
      intro p hp
      have:=List.length_eq_zero_iff.mp hp
      subst this
      exact ⟨_,bM.root 0⟩
    | succ n ih=>
      intro p hp
      rcases List.eq_nil_or_concat p with rfl | ⟨q,e,rfl⟩
      · simp at hp
      · rw [List.concat_eq_append] at hp ⊢
        obtain ⟨ns,h⟩:=ih q (by simpa using hp)
        obtain ⟨c',h | h⟩:=h.snoc e
        · exact ⟨_,h⟩
        · exact ⟨_,h⟩
  exact key _ p rfl
theorem B9 {x c:List Nat} (h:47∉c):cU 47 (x++c)=cU 47 x:=by
  unfold cU
  rw [List.reverse_append,List.dropWhile_append_of_pos]
  intro a ha
  have:a≠47:=fun e=>h (by rw [←e]; exact List.mem_reverse.mp ha)
  simpa using this
theorem Ca {x c:List Nat} (h:47∉c):behind 47 (x++c)=behind 47 x++c:=by
  unfold behind
  rw [List.reverse_append,List.takeWhile_append_of_pos]
  · rw [List.reverse_append,List.reverse_reverse]
  intro a ha
  have:a≠47:=fun e=>h (by rw [←e]; exact List.mem_reverse.mp ha)
  simpa using this
theorem Cb (x:List Nat) (k:Nat):cU 47 (x++sl (k+1))=x++sl (k+1):=by
  unfold cU
  rw [List.reverse_append,List.reverse_replicate,List.replicate_succ,List.cons_append,List.dropWhile_cons]
  simp
  exact List.replicate_succ'.symm
theorem Cc (x:List Nat) (k:Nat):behind 47 (x++sl (k+1))=[]:=by
  unfold behind
  rw [List.reverse_append,List.reverse_replicate,List.replicate_succ,List.cons_append,List.takeWhile_cons]
  simp
theorem Ce (k:Nat):cU 47 (sl k)=sl k:=by
  cases k with
  | zero=>rfl
  | succ k=>simpa using Cb [] k
theorem Sj (k:Nat):behind 47 (sl k)=[]:=by
  cases k with
  | zero=>rfl
  | succ k=>simpa using Cc [] k
theorem Cf (k:Nat):ej (sl k)=sl k:=by
  unfold ej
  rw [Ce]
  simp
theorem Sl (k:Nat) {c:List Nat} (h:47∉c):ej (sl k++c)=sl k:=by
  unfold ej
  rw [B9 h,Ce]
  simp
theorem Sm {u:List Nat} (r:Nat) {c:List Nat} (hu:gW u) (h:47∉c):ej (u++sl (r+1)++c)=u:=by
  unfold ej
  rw [B9 h,Cb]
  obtain ⟨u0,d,rfl,hd⟩:=hu
  have h1:(u0++[d]++sl (r+1))≠List.replicate (u0++[d]++sl (r+1)).length 47:=by
    intro e
    have:d∈List.replicate (u0++[d]++sl (r+1)).length 47:=by rw [←e]; simp
    exact hd (List.eq_of_mem_replicate this)
  have h2:(u0++[d]++sl (r+1))≠[]:=by simp
  rw [if_pos (by simp only [Bool.and_eq_true,bne_iff_ne]; exact ⟨h2,h1⟩)]
  unfold mz
  rw [List.reverse_append,List.reverse_replicate,List.dropWhile_append_of_pos (by intro a ha; simp [List.eq_of_mem_replicate ha])]
  rw [List.reverse_append,List.reverse_singleton,List.singleton_append,List.dropWhile_cons,if_neg (by simpa using hd)]
  simp
theorem bM.names {p:List Nat} {ns:List (List Nat)} (h:bM p ns):∀ (n:Nat) (acc:List (List Nat)),p.length < n→ir n p acc=some (ns++acc):=by
  induction h with
  | root k=>
    intro n acc hn
    cases n with
    | zero=>lia
    | succ n=>unfold ir; rw [Cf]; simp
  | @first k c h1 h2=>
    intro n acc hn
    have hc:0 < c.length:=List.length_pos_iff.mpr h1
    simp at hn
    cases n with
    | zero=>lia
    | succ n=>
    cases n with
    | zero=>lia
    | succ n=>
      unfold ir
      have aT:¬ ((sl k==sl k++c)=true):=by
        rw [beq_iff_eq]
        intro e
        have:=congrArg List.length e
        rw [List.length_append] at this
        lia
      rw [Sl k h2,if_neg aT]
      unfold ir
      rw [Cf,Ca h2,Sj]
      simp
  | @more u ns r c h1 h2 h3 ih=>
    intro n acc hn
    simp at hn
    cases n with
    | zero=>lia
    | succ n=>
      unfold ir
      have aT:¬ ((u==u++sl (r+1)++c)=true):=by
        rw [beq_iff_eq]
        intro e
        have:=congrArg List.length e
        rw [List.length_append,List.length_append,List.length_replicate] at this
        lia
      rw [Sm r h2 h3,if_neg aT,ih n _ (by lia),Ca h3,Cc]
      simp
theorem bM.uniq {p:List Nat} {ns ms:List (List Nat)} (h:bM p ns) (h':bM p ms):ns=ms:=by
  have a:=h.names (p.length+1) [] (by lia)
  have b:=h'.names (p.length+1) [] (by lia)
  rw [a] at b
  simpa using b
noncomputable abbrev vQ (p:List Nat):List Nat×Bool:=p.foldl bL ([],false)
theorem Cg (k:Nat) (t:List Nat):(sl k).foldl bL (t,false)=(t++sl k,false):=by
  induction k generalizing t with
  | zero=>simp
  | succ k ih=>
    rw [show sl (k+1)=47::sl k from List.replicate_succ,List.foldl_cons]
    have:bL (t,false) 47=(t++[47],false):=by unfold bL; simp
    rw [this,ih,List.append_assoc]; rfl
theorem Ci {c:List Nat} (h:47∉c):∀ (t:List Nat) (b:Bool),c.foldl bL (t,b)=(t++c,b||!c.isEmpty):=by
  induction c with
  | nil=>intro t b; simp
  | cons x c ih=>
    intro t b
    have hx:x≠47:=fun e=>h (by rw [e]; exact List.mem_cons_self ..)
    have:bL (t,b) x=(t++[x],true):=by unfold bL; simp [hx]
    rw [List.foldl_cons,this,ih (fun m=>h (List.mem_cons_of_mem _ m))]
    simp
theorem Cj {t:List Nat} (ht:gW t) (r:Nat):(sl (r+1)).foldl bL (t,true)=(t++[47],true):=by
  have h0:bL (t,true) 47=(t++[47],true):=by
    obtain ⟨u0,d,rfl,hd⟩:=ht
    unfold bL; simp [hd]
  have h1:∀ r,(sl r).foldl bL (t++[47],true)=(t++[47],true):=by
    intro r
    induction r with
    | zero=>rfl
    | succ r ih=>
      rw [show sl (r+1)=47::sl r from List.replicate_succ,List.foldl_cons]
      have:bL (t++[47],true) 47=(t++[47],true):=by unfold bL; simp
      rw [this,ih]
  rw [show sl (r+1)=47::sl r from List.replicate_succ,List.foldl_cons,h0,h1]
theorem Ck {ns:List (List Nat)} (h:ns≠[]) (c:List Nat):bG (ns++[c])=dh (bG ns) c:=by
  cases ns with
  | nil=>exact absurd rfl h
  | cons a l=>simp [bG,List.foldl_append]
theorem Cm {c:List Nat} (h:47∉c):(c.head?==some 47)=false:=by
  cases c with
  | nil=>rfl
  | cons x c=>
    have:x≠47:=fun e=>h (by rw [e]; exact List.mem_cons_self ..)
    simpa using this
theorem Sn (k:Nat) {c:List Nat} (h:47∉c):dh (sl k) c=sl k++c:=by
  unfold dh
  rw [Cm h]
  cases k with
  | zero=>simp
  | succ k=>
    have h1:(sl (k+1)==[])=false:=by rfl
    have h2:((sl (k+1)).getLast?==some 47)=true:=by rw [show sl (k+1)=sl k++[47] from List.replicate_succ']; simp
    rw [h1,h2]; simp
theorem Cn {t:List Nat} (ht:gW t) {c:List Nat} (h:47∉c):dh t c=t++([47]++c):=by
  unfold dh
  rw [Cm h]
  obtain ⟨u0,d,rfl,hd⟩:=ht
  have h1:((u0++[d]:List Nat)==[])=false:=by simp
  have h2:((u0++[d]:List Nat).getLast?==some 47)=false:=by simpa using hd
  rw [h1,h2]; simp
theorem bM.tidy {p:List Nat} {ns:List (List Nat)} (h:bM p ns):∃ b,vQ p=(bG ns,b)∧(gW p→b=true∧gW (bG ns))∧bM (bG ns) ns:=by
  induction h with
  | root k=>exact ⟨false,Cg k [],fun h=>absurd h (Si k),.root k⟩
  | @first k c h1 h2=>
    have e:bG [sl k,c]=sl k++c:=Sn k h2
    rw [e]
    refine ⟨true,?_,fun h=>⟨rfl,h⟩,.first k h1 h2⟩
    unfold vQ
    rw [List.foldl_append,Cg,Ci h2]
    have:c.isEmpty=false:=by simpa using h1
    simp [this]
  | @more u ns r c h1 h2 h3 ih=>
    obtain ⟨b,e1,e2,e3⟩:=ih
    obtain ⟨rfl,e4⟩:=e2 h2
    have e:bG (ns++[c])=bG ns++([47]++c):=by rw [Ck h1.ne,Cn e4 h3]
    rw [e]
    refine ⟨true,?_,fun h=>⟨rfl,?_⟩,?_⟩
    · unfold vQ at e1 ⊢
      rw [List.foldl_append,List.foldl_append,e1,Cj e4,Ci h3]
      simp
    · by_cases hc:c=[]
      · subst hc
        rw [List.append_nil] at h
        exact absurd h (Sh r)
      · rw [←List.append_assoc]; exact pw hc h3
    · have:=bM.more 0 e3 e4 h3
      simpa using this
theorem bM.red {p:List Nat} {ns:List (List Nat)} (h:bM p ns):jA p=bG ns:=by
  obtain ⟨b,e,_⟩:=h.tidy
  unfold jA
  rw [show p.foldl bL ([],false)=_ from e]
theorem bM.m5 {p:List Nat} {ns:List (List Nat)} (h:bM p ns):bM (bG ns) ns:=h.tidy.choose_spec.2.2
theorem bM.rI {p:List Nat} {ns:List (List Nat)} (h:bM p ns):(ns.map List.length).sum≤p.length∧ns.length≤p.length+1∧∀ x∈ns,∀ c∈x,c∈p:=by
  induction h with
  | root k=>simp
  | @first k c h1 h2=>
    have:=List.length_pos_iff.mpr h1
    refine ⟨by simp,by simp; lia,fun x hx a ha=>?_⟩
    simp at hx
    rcases hx with rfl | rfl
    · exact List.mem_append_left _ ha
    · exact List.mem_append_right _ ha
  | @more u ns r c h1 h2 h3 ih=>
    obtain ⟨i1,i2,i3⟩:=ih
    refine ⟨by simp at i1 ⊢; lia,by simp at i2 ⊢; lia,fun x hx a ha=>?_⟩
    rcases List.mem_append.mp hx with hx | hx
    · exact List.mem_append_left _ (List.mem_append_left _ (i3 x hx a ha))
    · rw [List.mem_singleton] at hx
      subst hx
      exact List.mem_append_right _ ha
theorem Co:∀ {l:List (List Nat)} {x:List Nat},x∈l→x.length≤(l.map List.length).sum
  | y::l,x,h=>by
    rw [List.map_cons,List.sum_cons]
    rcases List.mem_cons.mp h with rfl | h
    · lia
    · have:=Co h; lia
theorem bM.pre {u:List Nat} {ns:List (List Nat)} (h:bM u ns) (hu:gW u) (z:List Nat):∃ ms,ms≠[]∧bM (u++[47]++z) (ns++ms):=by
  have key:∀ n (z:List Nat),z.length=n→∃ ms,ms≠[]∧bM (u++[47]++z) (ns++ms):=by
    intro n
    induction n with
    | zero=>
      intro z hz
      have:=List.length_eq_zero_iff.mp hz
      subst this
      exact ⟨[[]],by simp,by simpa using bM.more 0 (c:=[]) h hu (by simp)⟩
    | succ n ih=>
      intro z hz
      rcases List.eq_nil_or_concat z with rfl | ⟨q,e,rfl⟩
      · simp at hz
      · rw [List.concat_eq_append] at hz ⊢
        obtain ⟨ms,hm,h'⟩:=ih q (by simpa using hz)
        rw [←List.append_assoc]
        obtain ⟨c',cK | cK⟩:=h'.snoc e
        · refine ⟨ms.dropLast++[c'],by simp,?_⟩
          rw [List.dropLast_append_of_ne_nil hm] at cK
          rw [List.append_assoc] at cK ⊢
          rw [←List.append_assoc ns]
          simpa using cK
        · refine ⟨ms++[c'],by simp,?_⟩
          simpa using cK
  exact key _ z rfl
theorem bM.under {p:List Nat} {N:List (List Nat)} (h:bM p N):∀ {ns ms:List (List Nat)},N=ns++ms→ms≠[]→2≤ns.length→∃ z,bG N=bG ns++([47]++z):=by
  induction h with
  | root k=>
    intro ns ms e hm hn
    have:=congrArg List.length e
    simp at this; lia
  | @first k c h1 h2=>
    intro ns ms e hm hn
    have:=congrArg List.length e
    have h3:=List.length_pos_iff.mpr hm
    simp at this; lia
  | @more u N r c h1 h2 h3 ih=>
    intro ns ms e hm hn
    obtain ⟨b,e1,e2,e3⟩:=h1.tidy
    have hr:bG (N++[c])=bG N++([47]++c):=by rw [Ck h1.ne,Cn (e2 h2).2 h3]
    rcases List.eq_nil_or_concat ms with rfl | ⟨Cp,c',rfl⟩
    · exact absurd rfl hm
    · rw [List.concat_eq_append,←List.append_assoc] at e
      have ec:N=ns++Cp:=List.append_inj_left' e rfl
      rw [hr]
      by_cases mW:Cp=[]
      · subst mW
        rw [List.append_nil] at ec
        subst ec
        exact ⟨c,rfl⟩
      · obtain ⟨z,hz⟩:=ih ec mW hn
        exact ⟨z++([47]++c),by rw [hz]; simp⟩
theorem vR:∀ (l t:List Nat) (b:Bool),(l.foldl bL (t,b)).1.length≤t.length+l.length
  | [],t,b=>by simp
  | x::l,t,b=>by
    rw [List.foldl_cons]
    have:(bL (t,b) x).1.length≤t.length+1:=by
      unfold bL
      dsimp only
      split <;> simp
    have h2:=vR l (bL (t,b) x).1 (bL (t,b) x).2
    rw [List.length_cons]
    have e:(l.foldl bL (bL (t,b) x))=l.foldl bL ((bL (t,b) x).1,(bL (t,b) x).2):=rfl
    rw [e]; lia
theorem Cq {p1 p2:List Nat} {bg bc:List (List Nat)} (h1:bM p1 bg) (h2:bM p2 bc) (hn:2≤bg.length) (aT:bg≠bc):(bG bg++[47]) <+:bG bc↔bg <+:bc:=by
  have t1:=h1.m5
  have t2:=h2.m5
  constructor
  · rintro ⟨z,hz⟩
    generalize BR:bG bg=T1 at *
    generalize p8:bG bc=T2 at *
    have go:gW T1→bg <+:bc:=fun hE=>by
      obtain ⟨ms,_,h⟩:=t1.pre hE z
      rw [hz] at h
      exact ⟨ms,h.uniq t2⟩
    cases t1 with
    | root k=>simp at hn
    | first k c1 c2=>exact go (pw c1 c2)
    | @more u N r c c1 c2 c3=>
      by_cases hc:c=[]
      · subst hc
        exfalso
        have hr:=t2.red
        rw [p8] at hr
        obtain ⟨b,e1,e2,e3⟩:=c1.tidy
        obtain ⟨rfl,e4⟩:=e2 c2
        have hl:(jA T2).length≤u.length+1+z.length:=by
          rw [←hz]
          unfold jA
          have ez:u++sl (r+1)++[]++[47]++z=u++sl (r+1+1)++z:=by
            rw [show sl (r+1+1)=sl (r+1)++[47] from List.replicate_succ']; simp
          rw [ez,List.foldl_append,List.foldl_append,show u.foldl bL ([],false)=_ from e1,Cj e4]
          have:=vR z (bG N++[47]) true
          have h3:=vR u [] false
          rw [show u.foldl bL ([],false)=_ from e1] at h3
          simp at this h3
          lia
        rw [hr,←hz] at hl
        simp at hl
        lia
      · exact go (by rw [List.append_assoc]; exact (List.append_assoc u _ _)▸pw hc c3)
  · rintro ⟨ms,rfl⟩
    have hm:ms≠[]:=fun e=>aT (by rw [e,List.append_nil])
    obtain ⟨z,hz⟩:=h2.under rfl hm hn
    exact ⟨z,by rw [hz]; simp⟩
theorem m6:∀ (xs w:List (List Nat)),cz (gS xs) w=[w++xs]
  | [],w=>by simp [gS,cz]
  | n::r,w=>by
    unfold gS cz cX cX
    rw [m6 r]
    simp
theorem vS:∀ {xs ys:List (List Nat)} (w:List (List Nat)),xs <+:ys→cz (bS xs ys) w=[w++ys]
  | [],ys,w,h=>by unfold bS; exact m6 ys w
  | n::ns,[],w,h=>by simp at h
  | n::ns,m::ms,w,h=>by
    rw [List.cons_prefix_cons] at h
    unfold bS
    rw [if_pos h.1]
    unfold cz cX cX
    rw [vS _ h.2,h.1]
    simp
theorem vU:∀ {xs ys:List (List Nat)} (w:List (List Nat)),ys <+:xs→cz (bS xs ys) w=[w++xs]
  | [],ys,w,h=>by
    have:=List.prefix_nil.mp h
    subst this
    unfold bS; exact m6 [] w
  | n::ns,[],w,h=>by unfold bS; exact m6 (n::ns) w
  | n::ns,m::ms,w,h=>by
    rw [List.cons_prefix_cons] at h
    unfold bS
    rw [if_pos h.1.symm]
    unfold cz cX cX
    rw [vU _ h.2]
    simp
theorem vV:∀ {xs ys:List (List Nat)} (w:List (List Nat)),¬ xs <+:ys→¬ ys <+:xs→cz (bS xs ys) w=[w++xs,w++ys]
  | [],ys,w,h,_=>absurd (List.nil_prefix) h
  | n::ns,[],w,_,h=>absurd (List.nil_prefix) h
  | n::ns,m::ms,w,h,h'=>by
    rw [List.cons_prefix_cons] at h h'
    unfold bS
    by_cases e:n=m
    · subst e
      rw [if_pos rfl]
      unfold cz cX cX
      rw [vV _ (fun q=>h ⟨rfl,q⟩) (fun q=>h' ⟨rfl,q⟩)]
      simp
    · rw [if_neg e]
      unfold cz cX cX cX
      rw [m6,m6]
      simp
theorem pz:∀ xs:List (List Nat),(gS xs).depth=xs.length+1
  | []=>by simp [gS,Tr.depth,gx]
  | n::r=>by
    unfold gS Tr.depth gx gx
    rw [pz r]
    simp
theorem Cr:∀ (xs ys:List (List Nat)) (k:Nat),xs.length≤k→ys.length≤k→(bS xs ys).depth≤k+1
  | [],ys,k,_,h=>by unfold bS; rw [pz]; lia
  | n::ns,[],k,h,_=>by unfold bS; rw [pz]; lia
  | n::ns,m::ms,k,h,h'=>by
    unfold bS
    split
    · unfold Tr.depth gx gx
      cases k with
      | zero=>simp at h
      | succ k=>
        have:=Cr ns ms k (by simpa using h) (by simpa using h')
        lia
    · unfold Tr.depth gx gx gx
      rw [pz,pz]
      simp at h h' ⊢
      lia
theorem starts_pre (a b:List Nat):Txt.startswith (S a) (S b)=true↔b <+:a:=by
  unfold Txt.startswith Builtin.Str.subAt
  have e:(S a).cps.extract 0 (0+(S b).length)=(a.take b.length).toArray:=by
    apply Array.ext'
    rw [bD]
    simp
  rw [e]
  simp only [bD,Bool.and_eq_true,decide_eq_true_eq,beq_iff_eq]
  rw [List.prefix_iff_eq_take]
  constructor
  · rintro ⟨_,h⟩
    have:=congrArg Array.toList h
    simpa using this.symm
  · intro h
    refine ⟨?_,by rw [←h]⟩
    have:=congrArg List.length h
    rw [List.length_take] at this
    lia
theorem So {p1 p2:List Nat} {bg bc:List (List Nat)} (h1:bM p1 bg) (h2:bM p2 bc) (Sp:2≤bg.length) (Sq:2≤bc.length) (aT:bg≠bc):
    (cz (bS bg bc) []).map bG=(if Txt.startswith (S (bG bc)) (S (bG bg++[47])) then [] else [bG bg])++(if Txt.startswith (S (bG bg)) (S (bG bc++[47])) then [] else [bG bc]):=by
  have a:=Cq h1 h2 Sp aT
  have b:=Cq h2 h1 Sq aT.symm
  rw [←starts_pre] at a b
  by_cases ha:bg <+:bc
  · have hb:¬ bc <+:bg:=fun hb=>aT (ha.eq_of_length (Nat.le_antisymm ha.length_le hb.length_le))
    rw [if_pos (a.mpr ha),if_neg (fun q=>hb (b.mp q)),vS _ ha]
    rfl
  · by_cases hb:bc <+:bg
    · rw [if_neg (fun q=>ha (a.mp q)),if_pos (b.mpr hb),vU _ hb]
      rfl
    · rw [if_neg (fun q=>ha (a.mp q)),if_neg (fun q=>hb (b.mp q)),vV _ ha hb]
      rfl
theorem Sr (xs ys:List (List Nat)):(∀ w∈cz (bS xs ys) [],w=xs∨w=ys)∧(cz (bS xs ys) []).length≤2:=by
  by_cases ha:xs <+:ys
  · rw [vS _ ha]; simp
  · by_cases hb:ys <+:xs
    · rw [vU _ hb]; simp
    · rw [vV _ ha hb]; simp
noncomputable abbrev az:=Array (Int×Value)×Nat×SetTable
noncomputable abbrev fz (d:az):Obj:={cls:=.type "frozenset",data:=.set d.1 d.2.1 d.2.2}
set_option genInjectivity false in
inductive Ent where
  | fresh (o:Obj)
  | add (j:Nat) (h:Int) (x:Str) (t:Tok)
  | or (ja jb:Nat) (b:Nat)
  | sub (ja jb:Nat) (b:Nat)
noncomputable abbrev i7 (led:Bool):Ent:=.fresh (fz (#[],0,SetTable.fresh 0 0 led))
set_option genInjectivity false in
structure ST where
  T:BT
  n:Nat
  life:Life
  gens:Array GenState
  drawn:Drawn
  toks:Nat
  os:OsState
  cur:List (Nat×Nat)
  log:List Ent
noncomputable def ST.sh (s:ST):SharedT:=⟨s.T,s.n,s.life,s.gens,s.drawn,s.toks,s.os⟩
noncomputable abbrev ST.abs (s:ST):Shared:=s.sh.abs
noncomputable def ST.setG (s:ST) (g:Nat) (x:GenState):ST:={s with gens:=s.gens.setIfInBounds g x}
noncomputable def gA (l:List (Nat×Nat)) (a:Nat):Option Nat:=
  @List.rec (Nat×Nat) (fun ω=>Option Nat) none (fun p ω ih=>match Nat.beq p.1 a with | true=>some p.2 | false=>ih) l
theorem Su (p:Nat×Nat) (l:List (Nat×Nat)) (a:Nat):gA (p::l) a=match Nat.beq p.1 a with | true=>some p.2 | false=>gA l a:=rfl
noncomputable abbrev Rc:=Ctx→Pos→Sem PySem.Fin→List Frame→ST→Option (End×ST)
noncomputable abbrev Cd:=Ctx→Pos→ST→Option (End×ST)
section
variable {α β A B:Type}
noncomputable def oe (x:Option β) (o:Option α) (f:α→Option β):Option β:=@Option.rec α (fun ω=>Option β) x f o
noncomputable def ob (o:Option α) (f:α→Option β):Option β:=@Option.rec α (fun ω=>Option β) none f o
noncomputable def nn (o:Option α) (x:Option β):Option β:=@Option.rec α (fun ω=>Option β) x (fun ω=>none) o
noncomputable def oq (x:Option β) (o:Option (A×B)) (f:A→B→Option β):Option β:=@Option.rec (A×B) (fun ω=>Option β) x (fun y=>@Prod.rec A B (fun ω=>Option β) f y) o
noncomputable def bt (b:Bool) (x:Option β):Option β:=@Bool.rec (fun ω=>Option β) none x b
noncomputable def bf (b:Bool) (x:Option β):Option β:=@Bool.rec (fun ω=>Option β) x none b
noncomputable def dy {p:Prop} (d:Decidable p) (x y:Option β):Option β:=@Decidable.rec p (fun ω=>Option β) (fun ω=>y) (fun ω=>x) d
noncomputable def Sv (r:Except Value α) (f:α→Option β):Option β:=@Except.rec Value α (fun ω=>Option β) (fun ω=>none) f r
noncomputable def ot (o:Option (Except Value α×Pos×ST)) (f:α→Pos→ST→Option β):Option β:=oq none o fun r y=>Sv r fun a=>@Prod.rec Pos ST (fun ω=>Option β) (f a) y
noncomputable def vW (v:Value) (f:Str→Tok→Option β):Option β:=match v with
  | .str y t=>f y t
  | _=>none
noncomputable def vX (x:Option β) (v:Value) (f:Nat→Option β):Option β:=match v with
  | .ref b=>f b
  | _=>x
noncomputable def rJ (x:Option (End×ST)) (f:Result→ST→Option β) (g:Value→Bool→List Value→(Resume→Sem PySem.Fin)→Code→Pos→List Frame→ST→Option β):Option β:=
  oq none x fun e s=>@End.rec (fun ω=>Option β) (fun r=>f r s) (fun v gY l k c p fs=>g v gY l k c p fs s) e
noncomputable def vY (a:Nat) (s:ST) (k:Obj→Option β):Option β:=bt (Nat.blt a s.n) (ob (s.T.get a) fun o=>ob (alive o) k)
noncomputable def vZ (a:Nat) (f:Obj→Obj) (s:ST) (k:ST→Option β):Option β:=
  @ST.rec (fun ω=>Option β) (fun T n life gens drawn toks os cur log=>bt (Nat.blt a n) (ob (T.get a) fun o=>ob (alive o) fun ω=>nn (gA cur a) (k ⟨T.set a f,n,life,gens,drawn,toks,os,cur,log⟩))) s
noncomputable def v3 (o:Obj) (s:ST) (k:Nat→ST→Option β):Option β:=
  @ST.rec (fun ω=>Option β) (fun T n life gens drawn toks os cur log=>bt ((T.ins n o).get n).isSome (k n ⟨T.ins n o,n+1,life,gens,drawn,toks,os,cur,log⟩)) s
noncomputable def rK (a:Nat) (s:ST) (k:Option Obj→Option β):Option β:=@Bool.rec (fun ω=>Option β) (k none) (ob (s.T.get a) fun o=>k (alive o)) (Nat.blt a s.n)
noncomputable def v5 (s:ST) (k:Nat→ST→Option β):Option β:=@ST.rec (fun ω=>Option β) (fun T n life gens drawn toks os cur log=>k toks ⟨T,n,life,gens,drawn,toks+1,os,cur,log⟩) s
noncomputable def v7 (c:Code) (s:ST) (k:Nat→ST→Option β):Option β:=@ST.rec (fun ω=>Option β) (fun T n life gens drawn toks os cur log=>k gens.size ⟨T,n,life,gens.push (.fresh c),drawn,toks,os,cur,log⟩) s
noncomputable def Sw:Resume→Bool
  | .send .none=>true
  | _=>false
noncomputable def v8 (g:Nat) (x:Option (End×ST)) (k:GenResult→ST→Option β):Option β:=oq none x fun e s=>bt e.quiet (k e.result (s.setG g e.genState))
noncomputable def v9 (rc:Rc) (cd:Cd) (Γ:Ctx) (p:Pos) (g:Nat) (r:Resume) (s:ST) (k:GenResult→ST→Option β):Option β:=
  ob s.gens[g]? fun st=>@GenState.casesOn (fun ω=>Option β) st (fun c=>bt (Sw r) (v8 g (cd (Γ.wake c p) p (s.setG g .running)) k)) (fun i8 ω c₀ i9 fs ω=>v8 g (rc (Γ.wake c₀ p) i9 (i8 r) fs (s.setG g .running)) k) none (k .finished s)
end
section
variable (den:Code→Sem PySem.Fin) (prog:Program) (P:Params) (cuts:List (Nat×Nat)) (env:Nat→az)
noncomputable def fQ (rc:Rc) (cd:Cd) (Γ:Ctx) {α:Type} (t:Sem α):Pos→ST→Option (Except Value α×Pos×ST):=
  @Sem.rec α (fun ω=>Pos→ST→Option (Except Value α×Pos×ST))
     (fun a p s=>some (.ok a,p,s))
     (fun e p s=>some (.error e,p,s))
     (fun ω ω ω=>none)
     (fun ω ω ω=>none)
     (fun ω ω ih=>ih ())
     (fun p' ω ih ω=>ih () p')
     (fun a ω ω ih p s=>vY a s fun o=>ih o p s)
     (fun a ω f ω ih p s=>vZ a f s (ih () p))
     (fun o ω ih p s=>v3 o s fun n=>ih n p)
     (fun a ω ih p s=>rK a s fun o=>ih o p s)
     (fun ω ω ih=>ih ())
     (fun ω ω ω ω ω=>none)
     (fun ω ih p s=>v5 s fun t=>ih t p)
     (fun ω ih=>ih ⟨prog,P⟩)
     (fun ω ω ω ω ω ω=>none)
     (fun ω ω ω ω ω ω=>none)
     (fun c h ω ω ω ih p s=>rJ (cd (Γ.enter c h p) p s) (fun r=>ih r p) fun ω ω ω ω ω ω ω ω=>none)
     (fun own ω ih=>ih (if own then Γ.own else Γ.handled))
     (fun c ω ih p s=>v7 c s fun g=>ih g p)
     (fun g ω ih p s=>ob s.gens[g]? fun st=>ih st.seen p s)
     (fun g r ω ω ih p s=>v9 rc cd Γ p g r s fun x=>ih x p)
     (fun ω ω ω ω ω ω ω=>none)
     (fun ω ih p=>ih ((Γ.code,p)::Γ.below) p)
     (fun ω ω ω ω ω=>none)
     (fun ω ih=>ih 0)
     (fun ω ω ω ω ω ω ω ω=>none)
    t
noncomputable def gZ (rc:Rc) (cd:Cd) (Γ:Ctx) (t:Sem PySem.Fin):Pos→ST→Option (End×ST):=
  @Sem.rec PySem.Fin (fun ω=>Pos→ST→Option (End×ST))
     (fun a p s=>@PySem.Fin.rec (fun ω=>Option (End×ST)) (fun f=>some (.ret (.ok f),s)) (fun c=>bt c.quiet (cd (Γ.goto c) p s)) a)
     (fun e ω s=>some (.ret (.error e),s))
     (fun ω ω ω=>none)
     (fun ω ω ω=>none)
     (fun ω ω ih=>ih ())
     (fun p' ω ih ω=>ih () p')
     (fun a ω ω ih p s=>vY a s fun o=>ih o p s)
     (fun a ω f ω ih p s=>vZ a f s (ih () p))
     (fun o ω ih p s=>v3 o s fun n=>ih n p)
     (fun a ω ih p s=>rK a s fun o=>ih o p s)
     (fun ω ω ih=>ih ())
     (fun ω ω ω ω ω=>none)
     (fun ω ih p s=>v5 s fun t=>ih t p)
     (fun ω ih=>ih ⟨prog,P⟩)
     (fun ω ω ω ω ω ω=>none)
     (fun ω ω ω ω ω ω=>none)
     (fun c h g l k ih p s=>rJ (cd (Γ.enter c h p) p s) (fun r=>ih r p) fun v gY m7 i8 c₀ i9 fs s'=>some (.susp v gY m7 i8 c₀ i9 (fs++[.ret k h g l Γ.code p []]),s'))
     (fun own ω ih=>ih (if own then Γ.own else Γ.handled))
     (fun c ω ih p s=>v7 c s fun g=>ih g p)
     (fun g ω ih p s=>ob s.gens[g]? fun st=>ih st.seen p s)
     (fun g r ω ω ih p s=>v9 rc cd Γ p g r s fun x=>ih x p)
     (fun v g l k ω p s=>some (.susp v g l k Γ.code p [],s))
     (fun ω ih p=>ih ((Γ.code,p)::Γ.below) p)
     (fun ω ω ω ω ω=>none)
     (fun ω ih=>ih 0)
     (fun ω ω ω ω ω ω ω ω=>none)
    t
noncomputable def wa (S:Nat) (s:ST):Option ST:=@Option.rec Nat (fun ω=>Option ST)
  (bt (Nat.blt S s.n) (ob (s.T.get S) fun o=>some {s with cur:=(S,s.log.length)::s.cur,log:=.fresh o::s.log})) (fun ω=>some s) (gA s.cur S)
noncomputable def wb (S:Nat) (h:Int) (x:Str) (t:Tok) (s:ST):Option ST:=ob (gA s.cur S) fun j=>
  @ST.rec (fun ω=>Option ST) (fun T n life gens drawn toks os cur log=>some ⟨T.set S (fun ω=>fz (env log.length)),n,life,gens,drawn,toks,os,(S,log.length)::cur,.add j h x t::log⟩) s
noncomputable def loopGo (rc:Rc) (cd:Cd) (Γ:Ctx) (S:Nat) (it:Value) (n:Nat):Pos→ST→Option ST:=
  @Nat.rec (fun ω=>Pos→ST→Option ST) (fun ω ω=>none)
    (fun ω ih p s=>ot (fQ prog P rc cd Γ (pyNext it) p s) fun v gB aH=>oe (some aH) v fun x=>vW x fun y t=>
      ot (fQ prog P rc cd Γ (pyHash (.str y t)) gB aH) fun h wc cw=>ob (wb env S h y t cw) (ih wc)) n
noncomputable def Cs (c:Code):Option (String×Args):=match c with
  | .builtin id a=>some (id,a)
  | _=>none
noncomputable def Ct (a:Args):Option (Nat×Value):=match a with
  | ⟨v::l,kw⟩=>vX none v fun S=>match l,kw with
    | [it],[]=>some (S,it)
    | _,_=>none
  | _=>none
noncomputable def Cu {β:Type} (c:Code) (no:Option β) (loop:Nat→Value→Option β) (op:Bool→Nat→Nat→Option β):Option β:=
  oq no (Cs c) fun id a=>oq no (Ct a) fun S it=>oe no (gA cuts S) fun ω=>dy (instDecidableEqString id "set.update.loop") (loop S it)
    (vX no it fun b=>dy (instDecidableEqString id "frozenset.__or__") (op true S b) (dy (instDecidableEqString id "frozenset.__sub__") (op false S b) no))
noncomputable def Cv (Γ:Ctx) (s:ST) (Sx:Bool) (a b:Nat):Option (End×ST):=
  nn Γ.handled (bf (Nat.beq a b) (ob (gA s.cur a) fun ja=>ob (gA s.cur b) fun jb=>@ST.rec (fun ω=>Option (End×ST)) (fun T n life gens drawn toks os cur log=>
    bt ((T.ins n (fz (env log.length))).get n).isSome (bt (Nat.blt (unitsOf Γ.below) 5000)
      (some (.ret (.ok (.ret (.ref n))),⟨T.ins n (fz (env log.length)),n+1,life,gens,drawn,toks,os,(n,log.length)::cur,@Bool.rec (fun ω=>Ent) (.sub ja jb b) (.or ja jb b) Sx::log⟩)))) s))
noncomputable def Cw (rc:Rc) (cd:Cd) (Γ:Ctx) (p:Pos) (s:ST):Option (End×ST):=
  Cu cuts Γ.code (rc Γ p (den Γ.code) [] s) (fun S it=>nn Γ.handled (ob (wa S s) fun aH=>ob (loopGo prog P env rc cd Γ S it 100 p aH) fun s'=>some (.ret (.ok (.ret .none)),s'))) (Cv env Γ s)
noncomputable def jT (n:Nat):Rc×Cd:=
  @Nat.rec (fun ω=>Rc×Cd) (fun ω ω ω ω ω=>none,fun ω ω ω=>none)
    (fun ω ih=>(fun Γ p t fs s=>@List.rec Frame (fun ω=>Option (End×ST)) (gZ prog P ih.1 ih.2 Γ t p s) (fun F pA ω=>rJ (gZ prog P ih.1 ih.2 (Γ.over (F::pA)) t p s)
        (fun r aH=>@Frame.casesOn (fun ω=>Option (End×ST)) F (fun k ω ω ω c₁ gB ω=>ih.1 (Γ.goto c₁) gB (k r) pA aH) (fun g k ω c₁ gB=>ih.1 (Γ.goto c₁) gB (k (End.ret r).result) pA (aH.setG g .finished)))
        fun v gY m7 i8 c₀ i9 we aH=>nn (splitAtGen (F::pA)) (some (.susp v gY m7 i8 c₀ i9 (we++F::pA),aH))) fs,
      fun Γ p s=>Cw den prog P cuts env ih.1 ih.2 Γ p s)) n
end
noncomputable def wg (M:Model) (d:az) (h:Int) (x:Str) (t:Tok) (d':az):Prop:=
  ∀ (Γ:Ctx) (p:Pos) (s:Shared) (S:Addr) (Q:Bool→Pos→Shared→Prop) (E:Value→Pos→Shared→Prop),s.heap.get? S=some (fz d)→(∀ b,Q b p {s with heap:=s.heap.update S (fun ω=>fz d')})→Sem.wp M Γ (setAddHashed S (.str x t) h) Q E p s
noncomputable def lZ (M:Model) (id:String) (da db:az) (b:Addr) (d':az):Prop:=
  ∀ (Γ:Ctx) (p:Pos) (s:Shared) (a:Addr),Γ.code=.builtin id ⟨[.ref a,.ref b],[]⟩→Γ.handled=none→unitsOf Γ.below < 5000→a≠b→s.heap.get? a=some (fz da)→s.heap.get? b=some (fz db)→
    Runs M Γ p (M.den Γ.code) [] s (.ret (.ok (.ret (.ref s.heap.objs.size)))) {s with heap:=s.heap.push (fz d')}
noncomputable def Cy (M:Model) (env:Nat→az) (i:Nat):Ent→Prop
  | .fresh o=>o=fz (env i)
  | .add j h x t=>wg M (env j) h x t (env i)
  | .or ja jb b=>lZ M "frozenset.__or__" (env ja) (env jb) b (env i)
  | .sub ja jb b=>lZ M "frozenset.__sub__" (env ja) (env jb) b (env i)
noncomputable def dE (M:Model) (env:Nat→az):List Ent→Prop
  | []=>True
  | e::l=>Cy M env l.length e∧dE M env l
theorem dE.tail {M:Model} {env:Nat→az} {l k:List Ent}:dE M env (l++k)→dE M env k:=
  @List.rec Ent (fun l=>dE M env (l++k)→dE M env k) id (fun ω ω ih h=>ih h.2) l
noncomputable def eX (env:Nat→az) (s:ST):Prop:=∀ S i,gA s.cur S=some i→S < s.n∧s.T.get S=some (fz (env i))
noncomputable def Goes (M:Model) (env:Nat→az) (s s':ST) (X:Prop):Prop:=(∃ l,s'.log=l++s.log)∧(dE M env s'.log→eX env s→eX env s'∧X)
section
variable {M:Model} {env:Nat→az} {s aH cw:ST} {X Y Z:Prop}
theorem Goes.step (l:List Ent) (hl:aH.log=l++s.log) (h:dE M env aH.log→eX env s→eX env aH∧X):Goes M env s aH X:=⟨⟨l,hl⟩,h⟩
theorem Goes.here (h:X):Goes M env s s X:=.step [] rfl fun ω i=>⟨i,h⟩
theorem Goes.imp (h:Goes M env s aH X) (k:X→Y):Goes M env s aH Y:=⟨h.1,fun l i=>⟨(h.2 l i).1,k (h.2 l i).2⟩⟩
theorem Goes.and (h:Goes M env s aH X) (k:Goes M env aH cw Y) (z:X→Y→Z):Goes M env s cw Z:=
  h.1.elim fun l e=>k.1.elim fun l' e'=>.step (l'++l) (by rw [e',e,List.append_assoc]) fun lo i=>
    have h':=h.2 (dE.tail (l:=l') (e'▸lo)) i
    have k':=k.2 lo h'.1
    ⟨k'.1,z h'.2 k'.2⟩
theorem Goes.same (h:Goes M env aH cw X) (hl:aH.log=s.log) (hi:eX env s→eX env aH):Goes M env s cw X:=
  Goes.and (X:=True) ⟨⟨[],hl⟩,fun ω i=>⟨hi i,trivial⟩⟩ h fun ω x=>x
end
theorem wh (d:az):alive (fz d)=some (fz d):=rfl
theorem pB {env:Nat→az} {s:ST} {g:Nat} {x:GenState} (I:eX env s):eX env (s.setG g x):=I
noncomputable def Ok {β:Type} (x:Option β) (P:β→Prop):Prop:=@Option.rec β (fun ω=>Prop) True P x
section
variable {α β A B:Type} {x:Option β} {P Q:β→Prop}
theorem Ok.of {b:β} (h:Ok x P) (e:x=some b):P b:=(e▸h:Ok (some b) P)
theorem Ok.self:Ok x (x=some ·):=by cases x <;> trivial
theorem Ok.imp (h:Ok x P) (k:∀ b,P b→Q b):Ok x Q:=by
  cases x with
  | none=>trivial
  | some b=>exact k b h
theorem Cz {o:Option α} {f:α→Option β} {R:α→Prop} (h:Ok o R) (n:Ok x P) (k:∀ a,R a→Ok (f a) P):Ok (oe x o f) P:=by
  cases o with
  | none=>exact n
  | some a=>exact k a h
theorem fT {o:Option α} {f:α→Option β} {R:α→Prop} (h:Ok o R) (k:∀ a,R a→Ok (f a) P):Ok (ob o f) P:=Cz (x:=none) h trivial k
theorem pC {o:Option (A×B)} {f:A→B→Option β} {R:A×B→Prop} (h:Ok o R) (n:Ok x P) (k:∀ a b,R (a,b)→Ok (f a b) P):Ok (oq x o f) P:=by
  cases o with
  | none=>exact n
  | some a=>exact k a.1 a.2 h
theorem rL {o:Option α} (h:o=none→Ok x P):Ok (nn o x) P:=by
  cases o with
  | none=>exact h rfl
  | some _=>trivial
theorem jU {b:Bool} (h:b=true→Ok x P):Ok (bt b x) P:=by
  cases b with
  | false=>trivial
  | true=>exact h rfl
theorem Sy {b:Bool} (h:b=false→Ok x P):Ok (bf b x) P:=by
  cases b with
  | true=>trivial
  | false=>exact h rfl
theorem wi {p:Prop} {d:Decidable p} {y:Option β} (h:p→Ok x P) (n:Ok y P):Ok (dy d x y) P:=by
  cases d with
  | isTrue q=>exact h q
  | isFalse _=>exact n
theorem CA {o:Option (Except Value α×Pos×ST)} {f:α→Pos→ST→Option β} {R:Except Value α×Pos×ST→Prop} (h:Ok o R) (k:∀ a p s,R (.ok a,p,s)→Ok (f a p s) P):Ok (ot o f) P:=
  pC h trivial fun r y g=>by
    cases r with
    | error _=>trivial
    | ok a=>exact k a y.1 y.2 g
theorem Sz {v:Value} {f:Str→Tok→Option β} (k:∀ y t,v=.str y t→Ok (f y t) P):Ok (vW v f) P:=by
  cases v <;> first | trivial | exact k _ _ rfl
theorem CB {v:Value} {f:Nat→Option β} (n:Ok x P) (k:∀ b,v=.ref b→Ok (f b) P):Ok (vX x v f) P:=by
  cases v <;> first | exact n | exact k _ rfl
theorem wj {y:Option (End×ST)} {R:End×ST→Prop} {f:Result→ST→Option β} {g:Value→Bool→List Value→(Resume→Sem PySem.Fin)→Code→Pos→List Frame→ST→Option β} (h:Ok y R)
    (kf:∀ r s,R (.ret r,s)→Ok (f r s) P) (kg:∀ v gY l k c p fs s,R (.susp v gY l k c p fs,s)→Ok (g v gY l k c p fs s) P):Ok (rJ y f g) P:=
  pC h trivial fun e s q=>by
    cases e with
    | ret r=>exact kf r s q
    | susp v gY l k c p fs=>exact kg v gY l k c p fs s q
end
section
variable {M:Model} {env:Nat→az} {s:ST} {β:Type} {P:β→Prop}
theorem CC {T:BT} {n:Nat} {life:Life} {gens:Array GenState} {drawn:Drawn} {toks:Nat} {os:OsState} {log:List Ent} (h:∀ S i,gA s.cur S=some i→S < s.n→S < n∧T.get S=s.T.get S) (I:eX env s):eX env ⟨T,n,life,gens,drawn,toks,os,s.cur,log⟩:=
  fun S i hf=>⟨(h S i hf (I S i hf).1).1,(h S i hf (I S i hf).1).2.trans (I S i hf).2⟩
theorem wk {T:BT} {n:Nat} {life:Life} {gens:Array GenState} {drawn:Drawn} {toks:Nat} {os:OsState} {log:List Ent} {eg wm:Nat} (h0:eg < n∧T.get eg=some (fz (env wm)))
    (h:∀ S,eg≠S→S < s.n→S < n∧T.get S=s.T.get S) (I:eX env s):eX env ⟨T,n,life,gens,drawn,toks,os,(eg,wm)::s.cur,log⟩:=fun S i hf=>by
  have pD:gA ((eg,wm)::s.cur) S=some i:=hf
  rw [Su] at pD
  cases e:Nat.beq eg S with
  | true=>
    rw [e] at pD
    cases pD
    exact Nat.eq_of_beq_eq_true e▸h0
  | false=>
    rw [e] at pD
    have q:=I S i pD
    have r:=h S (Nat.ne_of_beq_eq_false e) q.1
    exact ⟨r.1,r.2.trans q.2⟩
theorem CD {a:Nat} {k:Obj→Option β} (h:∀ o,s.abs.heap.get? a=some o→Ok (k o) P):Ok (vY a s k) P:=
  jU fun hb=>fT .self fun ω hg=>fT .self fun o ha=>h o ((abs_get (Nat.le_of_ble_eq_true hb) hg).trans ha)
theorem CE {a:Nat} {f:Obj→Obj} {k:ST→Option β} (h:∀ s',Goes M env s s' ((s.abs.heap.get? a).isSome=true∧{s.abs with heap:=s.abs.heap.update a f}=s'.abs)→Ok (k s') P):Ok (vZ a f s k) P:=
  jU (b:=Nat.blt a s.n) fun hb=>fT .self fun ω hg=>fT .self fun o ha=>rL (o:=gA s.cur a) fun hc=>h _ (.step [] rfl fun ω I=>⟨CC (fun S i hf hl=>⟨hl,by
    rw [BT.get_set,if_neg fun e=>by rw [e,hc] at hf; cases hf]⟩) I,by
    rw [show s.abs.heap.get? a=some o from (abs_get (Nat.le_of_ble_eq_true hb) hg).trans ha]; rfl,congrArg (Shared.mk · s.gens s.drawn s.toks s.os) (absHeap_set hg).symm⟩)
theorem CF {o:Obj} {k:Nat→ST→Option β} (h:∀ s',Goes M env s s' ({s.abs with heap:=s.abs.heap.push o}=s'.abs)→Ok (k s.abs.heap.objs.size s') P):Ok (v3 o s k) P:=
  jU (b:=((s.T.ins s.n o).get s.n).isSome) fun hi=>by
    rw [show s.abs.heap.objs.size=s.n from absHeap_size ..] at h
    exact h _ (.step [] rfl fun ω I=>⟨CC (fun S i ω hl=>⟨Nat.lt_succ_of_lt hl,by rw [BT.get_ins o _ _ hi,if_neg (Nat.ne_of_lt hl)]⟩) I,congrArg (Shared.mk · s.gens s.drawn s.toks s.os) (absHeap_ins hi).symm⟩)
theorem CH {a:Nat} {k:Option Obj→Option β} (h:Ok (k (s.abs.heap.get? a)) P):Ok (rK a s k) P:=by
  unfold rK
  cases hb:Nat.blt a s.n with
  | false=>
    rw [show s.abs.heap.get? a=none from abs_get_none fun q=>by rw [show Nat.blt a s.n=true from Nat.ble_eq_true_of_le q] at hb; cases hb] at h
    exact h
  | true=>exact fT .self fun o hg=>by rwa [show s.abs.heap.get? a=alive o from abs_get (Nat.le_of_ble_eq_true hb) hg] at h
theorem CI {k:Nat→ST→Option β} (h:∀ s',Goes M env s s' ({s.abs with toks:=s.abs.toks+1}=s'.abs)→Ok (k s.abs.toks s') P):Ok (v5 s k) P:=
  h _ (.step [] rfl fun ω I=>⟨I,rfl⟩)
theorem CJ {c:Code} {k:Nat→ST→Option β} (h:∀ s',Goes M env s s' ({s.abs with gens:=s.abs.gens.push (.fresh c)}=s'.abs)→Ok (k s.abs.gens.size s') P):Ok (v7 c s k) P:=
  h _ (.step [] rfl fun ω I=>⟨I,rfl⟩)
noncomputable def l0 (M:Model) (env:Nat→az) (rc:Rc):Prop:=∀ Γ p t fs s,Ok (rc Γ p t fs s) fun x=>Goes M env s x.2 (Runs M Γ p t fs s.abs x.1 x.2.abs)
noncomputable def kR (M:Model) (env:Nat→az) (cd:Cd):Prop:=∀ Γ p s,Ok (cd Γ p s) fun x=>Goes M env s x.2 (Runs M Γ p (M.den Γ.code) [] s.abs x.1 x.2.abs)
noncomputable def wo (M:Model) (Γ:Ctx) (p:Pos) (g:Nat) (r:Resume) (s:Shared) (res:GenResult) (s':Shared):Prop:=
  Wakes M Γ p g r s res s'∧∀ {l k e gE},Runs M Γ p (k res) [] s' e gE→Runs M Γ p (.resume g r l k) [] s e gE
theorem CK {rc:Rc} {Γ:Ctx} {p:Pos} {g:Nat} {r:Resume} {x:Option (End×ST)} {R:End×ST→Prop} {k:GenResult→ST→Option β} (hx:Ok x R)
    (h:∀ e aH,R (e,aH)→e.quiet=true→Goes M env s (aH.setG g e.genState) (wo M Γ p g r s.abs e.result (aH.abs.setGen g e.genState)))
    (hk:∀ res s',Goes M env s s' (wo M Γ p g r s.abs res s'.abs)→Ok (k res s') P):Ok (v8 g x k) P:=
  pC hx trivial fun e aH q=>jU fun hq=>hk _ _ (h e aH q hq)
theorem CL {rc:Rc} {cd:Cd} (iG:l0 M env rc) (cy:kR M env cd) {Γ:Ctx} {p:Pos} {g:Nat} {r:Resume} {k:GenResult→ST→Option β}
    (hk:∀ res s',Goes M env s s' (wo M Γ p g r s.abs res s'.abs)→Ok (k res s') P):Ok (v9 rc cd Γ p g r s k) P:=
  fT .self fun st hg=>by
    have hw:∀ {r res s'},(match some st with
      | none=>False
      | some (.fresh c)=>match r with
        | .send .none=>∃ gk aH,Runs M (Γ.wake c p) p (M.den c) [] (s.abs.setGen g .running) gk aH∧gk.quiet=true∧res=gk.result∧s'=aH.setGen g gk.genState
        | .send _=>res=.justStarted∧s'=s.abs
        | .throw x=>res=.raised x∧s'=s.abs.setGen g .finished
      | some (.suspended i8 _ c₀ i9 fs _)=>∃ gk aH,Runs M (Γ.wake c₀ p) i9 (i8 r) fs (s.abs.setGen g .running) gk aH∧gk.quiet=true∧res=gk.result∧s'=aH.setGen g gk.genState
      | some .running=>res=.running∧s'=s.abs
      | some .finished=>res=.finished∧s'=s.abs)→Wakes M Γ p g r s.abs res s':=fun h=>by
        unfold Wakes
        rw [show s.abs.gens[g]?=some st from hg]
        exact h
    cases st with
    | fresh c=>exact jU fun hs=>CK (rc:=rc) (cy _ _ _) (fun e aH q hq=>q.same (s:=s) rfl pB |>.and (Goes.step (X:=True) [] rfl fun ω I=>⟨pB I,trivial⟩) fun x ω=>by
        obtain rfl:r=.send .none:=by
          cases r with
          | throw _=>cases hs
          | send v=>cases v <;> first | rfl | cases hs
        exact ⟨hw ⟨e,aH.abs,x,hq,rfl,rfl⟩,fun y=>.resumeFresh (s:=s.abs) hg x hq y⟩) hk
    | suspended i8 m7 c₀ i9 fs cl=>exact CK (rc:=rc) (iG _ _ _ _ _) (fun e aH q hq=>q.same (s:=s) rfl pB |>.and (Goes.step (X:=True) [] rfl fun ω I=>⟨pB I,trivial⟩) fun x ω=>
        ⟨hw ⟨e,aH.abs,x,hq,rfl,rfl⟩,fun y=>.resumeSuspended (s:=s.abs) hg x hq y⟩) hk
    | running=>trivial
    | finished=>exact hk _ _ (.here ⟨hw ⟨rfl,rfl⟩,fun y=>.resumeFinished (s:=s.abs) hg y⟩)
noncomputable def At {α:Type} (Q:α→Pos→Shared→Prop) (E:Value→Pos→Shared→Prop) (r:Except Value α) (p:Pos) (s:Shared):Prop:=match r with
  | .ok a=>Q a p s
  | .error e=>E e p s
noncomputable def Reaches (M:Model) (Γ:Ctx) {α:Type} (t:Sem α) (p:Pos) (s:Shared) (r:Except Value α) (p':Pos) (s':Shared):Prop:=
  ∀ (Q:α→Pos→Shared→Prop) (E:Value→Pos→Shared→Prop),At Q E r p' s'→Sem.wp M Γ t Q E p s
theorem Reaches.from {Γ:Ctx} {α:Type} {t:Sem α} {p:Pos} {aH cw s':Shared} {r:Except Value α} {p':Pos} (x:Reaches M Γ t p aH r p' s') (e:cw=aH):Reaches M Γ t p cw r p' s':=e▸x
noncomputable def SA (M:Model) (env:Nat→az) (rc:Rc) (cd:Cd) (Γ:Ctx) {α:Type} (t:Sem α):Prop:=
  ∀ (p:Pos) (s:ST),Ok (fQ M.prog M.w.params rc cd Γ t p s) fun x=>Goes M env s x.2.2 (Reaches M Γ t p s.abs x.1 x.2.1 x.2.2.abs)
theorem rM {rc:Rc} {cd:Cd} (iG:l0 M env rc) (cy:kR M env cd) (Γ:Ctx) {α:Type} (t:Sem α):SA M env rc cd Γ t:=by
  induction t with
  | pure a | raise e=>exact fun ω ω=>.here fun ω ω h=>h
  | unsupported | finish | fork | await | register | choose | os | «yield»=>exact fun ω ω=>trivial
  | rule _ _ ih | point _ _ ih=>exact ih ()
  | «at» q _ ih=>exact fun ω s=>ih () q s
  | ask _ ih | handled _ _ ih | thread _ ih=>exact ih _
  | stack _ ih=>exact fun p s=>ih _ p s
  | load a part k ih=>exact fun p s=>CD fun o ho=>(ih o p s).imp fun ω g=>g.imp fun x Q E h=>⟨o,ho,x Q E h⟩
  | update a part f k ih=>exact fun p s=>CE (k:=fQ M.prog M.w.params rc cd Γ (k ()) p) fun s' g=>(ih () p s').imp fun ω y=>g.and y fun e x Q E h=>⟨e.1,(x.from e.2) Q E h⟩
  | alloc o k ih=>exact fun p s=>CF (k:=fun n=>fQ M.prog M.w.params rc cd Γ (k n) p) fun s' g=>(ih _ p s').imp fun ω y=>g.and y fun e x=>x.from e
  | loadIfAlive a k ih=>exact fun p s=>CH (k:=fun o=>fQ M.prog M.w.params rc cd Γ (k o) p s) (ih _ p s)
  | fresh k ih=>exact fun p s=>CI (k:=fun n=>fQ M.prog M.w.params rc cd Γ (k n) p) fun s' g=>(ih _ p s').imp fun ω y=>g.and y fun e x=>x.from e
  | call c hd g l k ih=>exact fun p s=>wj (f:=fun r=>fQ M.prog M.w.params rc cd Γ (k r) p) (cy _ _ _) (fun r s' g=>(ih r p s').imp fun ω y=>g.and y fun x z Q E h=>⟨r,s'.abs,x,z Q E h⟩) fun ω ω ω ω ω ω ω ω ω=>trivial
  | newGen c k ih=>exact fun p s=>CJ (k:=fun n=>fQ M.prog M.w.params rc cd Γ (k n) p) fun s' g=>(ih _ p s').imp fun ω y=>g.and y fun e x=>x.from e
  | genState g k ih=>exact fun p s=>fT (o:=s.gens[g]?) (f:=fun st:GenState=>fQ M.prog M.w.params rc cd Γ (k st.seen) p s) .self fun st hg=>(ih _ p s).imp fun ω g=>g.imp fun x Q E h=>⟨st,hg,x Q E h⟩
  | resume g r l k ih=>exact fun p s=>CL (k:=fun n=>fQ M.prog M.w.params rc cd Γ (k n) p) iG cy fun res s' g=>(ih res p s').imp fun ω y=>g.and y fun w x Q E h=>⟨res,s'.abs,w.1,x Q E h⟩
end
section
variable {M:Model} {env:Nat→az} {rc:Rc} {cd:Cd} {cuts:List (Nat×Nat)}
noncomputable def SD (M:Model) (env:Nat→az) (rc:Rc) (cd:Cd) (Γ:Ctx) (t:Sem PySem.Fin):Prop:=
  ∀ (p:Pos) (s:ST),Ok (gZ M.prog M.w.params rc cd Γ t p s) fun x=>Goes M env s x.2 (Runs M Γ p t [] s.abs x.1 x.2.abs)
theorem CM (iG:l0 M env rc) (cy:kR M env cd) (Γ:Ctx) (t:Sem PySem.Fin):SD M env rc cd Γ t:=by
  induction t with
  | pure a=>
    intro p s
    cases a with
    | done f=>exact .here .done
    | again c=>exact jU fun hq=>(cy (Γ.goto c) p s).imp fun ω g=>g.imp (.again hq)
  | raise e=>exact fun ω ω=>.here .raise
  | unsupported | finish | fork | await | register | choose | os=>exact fun ω ω=>trivial
  | «yield» v g l k _=>exact fun ω ω=>.here .yield
  | rule _ _ ih=>exact fun p s=>(ih () p s).imp fun ω g=>g.imp .rule
  | «at» q _ ih=>exact fun ω s=>(ih () q s).imp fun ω g=>g.imp .at
  | point _ _ ih=>exact fun p s=>(ih () p s).imp fun ω g=>g.imp .point
  | ask _ ih=>exact fun p s=>(ih _ p s).imp fun ω g=>g.imp .ask
  | handled _ _ ih=>exact fun p s=>(ih _ p s).imp fun ω g=>g.imp .handled
  | stack _ ih=>exact fun p s=>(ih _ p s).imp fun ω g=>g.imp .stack
  | thread _ ih=>exact fun p s=>(ih _ p s).imp fun ω g=>g.imp .thread
  | load a part k ih=>exact fun p s=>CD (k:=fun o=>gZ M.prog M.w.params rc cd Γ (k o) p s) fun o ho=>(ih o p s).imp fun ω g=>g.imp (.load ho)
  | update a part f k ih=>exact fun p s=>CE (k:=gZ M.prog M.w.params rc cd Γ (k ()) p) fun s' g=>(ih () p s').imp fun ω y=>g.and y fun e x=>.update e.1 (e.2▸x)
  | alloc o k ih=>exact fun p s=>CF (k:=fun n=>gZ M.prog M.w.params rc cd Γ (k n) p) fun s' g=>(ih _ p s').imp fun ω y=>g.and y fun e x=>.alloc (e▸x)
  | loadIfAlive a k ih=>exact fun p s=>CH (k:=fun o=>gZ M.prog M.w.params rc cd Γ (k o) p s) ((ih _ p s).imp fun ω g=>g.imp .loadIfAlive)
  | fresh k ih=>exact fun p s=>CI (k:=fun n=>gZ M.prog M.w.params rc cd Γ (k n) p) fun s' g=>(ih _ p s').imp fun ω y=>g.and y fun e x=>.fresh (e▸x)
  | call c hd g l k ih=>exact fun p s=>wj (f:=fun r=>gZ M.prog M.w.params rc cd Γ (k r) p) (cy _ _ _) (fun r s' g=>(ih r p s').imp fun ω y=>g.and y .call) fun ω ω ω ω ω ω ω ω g=>g.imp .callSusp
  | newGen c k ih=>exact fun p s=>CJ (k:=fun n=>gZ M.prog M.w.params rc cd Γ (k n) p) fun s' g=>(ih _ p s').imp fun ω y=>g.and y fun e x=>.newGen (e▸x)
  | genState g k ih=>exact fun p s=>fT (o:=s.gens[g]?) (f:=fun st:GenState=>gZ M.prog M.w.params rc cd Γ (k st.seen) p s) .self fun st hg=>(ih _ p s).imp fun ω g=>g.imp (.genState (s:=s.abs) hg)
  | resume g r l k ih=>exact fun p s=>CL (k:=fun n=>gZ M.prog M.w.params rc cd Γ (k n) p) iG cy fun res s' g=>(ih res p s').imp fun ω y=>g.and y fun w x=>w.2 x
theorem SE {S:Nat} {s:ST}:Ok (wa S s) fun s'=>Goes M env s s' (s.abs=s'.abs):=by
  unfold wa
  cases hc:gA s.cur S with
  | some i=>exact .here rfl
  | none=>exact jU fun hb=>fT .self fun o hg=>.step [.fresh o] rfl fun lo I=>⟨wk ⟨Nat.le_of_ble_eq_true hb,hg.trans (congrArg some lo.1)⟩ (fun S ω h=>⟨h,rfl⟩) I,rfl⟩
theorem SG {S:Nat} {h:Int} {x:Str} {t:Tok} {s:ST}:Ok (wb env S h x t s) fun s'=>
    Goes M env s s' (∀ (Γ:Ctx) (p:Pos) (Q:Bool→Pos→Shared→Prop) (E:Value→Pos→Shared→Prop),(∀ b,Q b p s'.abs)→Sem.wp M Γ (setAddHashed S (.str x t) h) Q E p s.abs):=
  fT .self fun j hc=>.step [.add j h x t] rfl fun lo I=>
    have i:=I S j hc
    ⟨wk ⟨i.1,by rw [BT.get_set,if_pos rfl,i.2]; rfl⟩ (fun S' q h=>⟨h,by rw [BT.get_set,if_neg (Ne.symm q)]⟩) I,fun Γ p Q E hQ=>lo.1 Γ p _ S Q E ((abs_get i.1 i.2).trans (wh _)) fun b=>by
      have e:absHeap (s.T.set S (fun ω=>fz (env s.log.length))) s.n s.life=s.abs.heap.update S (fun ω=>fz (env s.log.length)):=absHeap_set i.2
      exact e▸hQ b⟩
theorem CN {M:Model} {Γ:Ctx} {t:Sem PySem.Fin} {p:Pos} {s:Shared} {r:Result} {s':Shared}
    (h:Sem.wp M Γ t (Sem.finPost M Γ fun r' gE=>r'=r∧gE=s') (fun e ω gE=>Except.error e=r∧gE=s') p s):Runs M Γ p t [] s (.ret r) s':=by
  have ⟨r',gE,hr,e1,e2⟩:=(Sem.wp_iff_runs M Γ t _ p s).mp h
  exact e1▸e2▸hr
theorem SH {Γ:Ctx} {t:Sem PySem.Fin} {p:Pos} {s:Shared} {e:End} {aH cw:Shared} (h:Runs M Γ p t [] s e aH) (q:aH=cw):Runs M Γ p t [] s e cw:=q▸h
noncomputable def rO (M:Model):Prop:=∀ (S:Addr) (it:Value),M.den (.builtin "set.update.loop" ⟨[.ref S,it],[]⟩)=Builtin.«set.update.loop» ⟨[.ref S,it],[]⟩
theorem SI (S:Addr) (it:Value):Builtin.«set.update.loop» ⟨[.ref S,it],[]⟩=(pyNext it).bind fun o=>match o with
    | some x=>(holding [x] (setAdd S x)).bind fun ω=>again (.builtin "set.update.loop" ⟨[.ref S,it],[]⟩)
    | none=>ret .none:=by
  unfold Builtin.«set.update.loop»
  show (pyNext it).bind _=_
  congr 1
  funext o
  cases o with
  | none=>rfl
  | some x=>rfl
theorem SJ (iG:l0 M env rc) (cy:kR M env cd) (hL:rO M) {Γ:Ctx} {S:Nat} {it:Value} (kS:Γ.code=.builtin "set.update.loop" ⟨[.ref S,it],[]⟩) (n:Nat):
    ∀ (p:Pos) (s:ST),Ok (loopGo M.prog M.w.params env rc cd Γ S it n p s) fun s'=>Goes M env s s' (Runs M Γ p (M.den Γ.code) [] s.abs (.ret (.ok (.ret .none))) s'.abs):=by
  induction n with
  | zero=>exact fun ω ω=>trivial
  | succ n ih=>
    refine fun p s=>CA (f:=fun v gB aH=>oe (some aH) v fun x=>vW x fun y t=>ot (fQ M.prog M.w.params rc cd Γ (pyHash (.str y t)) gB aH) fun h wc cw=>ob (wb env S h y t cw) (loopGo M.prog M.w.params env rc cd Γ S it n wc)) (rM iG cy Γ (pyNext it) p s) fun v p1 s1 g1=>?_
    have hd:M.den Γ.code=_:=(congrArg M.den kS).trans ((hL S it).trans (SI S it))
    cases v with
    | none=>exact g1.imp fun x=>CN (by rw [hd,Sem.wp_bind]; exact x _ _ ⟨rfl,rfl⟩)
    | some v=>
    refine Sz fun y t e=>CA (rM iG cy Γ (pyHash (.str y t)) p1 s1) fun hh p2 s2 g2=>fT (SG (M:=M)) fun s3 g3=>(ih p2 s3).imp fun s' g4=>?_
    cases e
    refine (g1.and g2 And.intro).and (g3.and g4 And.intro) fun x z=>CN ?_
    rw [hd,Sem.wp_bind]
    refine x.1 _ _ ?_
    show Sem.wp M Γ ((holding [.str y t] (setAdd S (.str y t))).bind fun ω=>again (.builtin "set.update.loop" ⟨[.ref S,it],[]⟩)) _ _ p1 s1.abs
    rw [Sem.wp_bind,Sem.wp_holding]
    unfold setAdd
    rw [Sem.wp_holding,Sem.wp_bind']
    refine x.2 _ _ (z.1 Γ p2 _ _ fun b=>⟨plainId_quiet PyProof.Rows.F.plain_set_update_loop _,_,s'.abs,?_,rfl,rfl⟩)
    have:Γ.goto (.builtin "set.update.loop" ⟨[.ref S,it],[]⟩)=Γ:=by rw [←kS]; rfl
    rw [this]
    exact z.2
theorem SK {c:Code}:Ok (Cs c) fun x=>c=.builtin x.1 x.2:=by cases c <;> first | trivial | rfl
theorem SM {a:Args}:Ok (Ct a) fun x=>a=⟨[.ref x.1,x.2],[]⟩:=by
  obtain ⟨_ | ⟨v,l⟩,kw⟩:=a
  · trivial
  · refine CB trivial fun S e=>?_
    cases e
    cases l with
    | nil=>trivial
    | cons it l=>cases l with
      | nil=>cases kw with
        | nil=>rfl
        | cons=>trivial
      | cons=>trivial
theorem SN {β:Type} {P:β→Prop} {c:Code} {no:Option β} {loop:Nat→Value→Option β} {op:Bool→Nat→Nat→Option β} (hn:Ok no P) (hl:∀ S it,c=.builtin "set.update.loop" ⟨[.ref S,it],[]⟩→Ok (loop S it) P)
    (ho:∀ o a b,c=.builtin (@Bool.rec (fun ω=>String) "frozenset.__sub__" "frozenset.__or__" o) ⟨[.ref a,.ref b],[]⟩→Ok (op o a b) P):Ok (Cu cuts c no loop op) P:=
  pC SK hn fun id a e=>pC SM hn fun S it e2=>Cz .self hn fun ω ω=>wi (fun q=>hl S it (by rw [e,e2,q])) (CB hn fun b e3=>wi (fun q=>ho true S b (by rw [e,e2,q,e3])) (wi (fun q=>ho false S b (by rw [e,e2,q,e3])) hn))
theorem SO {Γ:Ctx} {s:ST} {p:Pos} {o:Bool} {a b:Nat} (kS:Γ.code=.builtin (@Bool.rec (fun ω=>String) "frozenset.__sub__" "frozenset.__or__" o) ⟨[.ref a,.ref b],[]⟩):
    Ok (Cv env Γ s o a b) fun x=>Goes M env s x.2 (Runs M Γ p (M.den Γ.code) [] s.abs x.1 x.2.abs):=
  rL fun hh=>Sy fun e9=>fT .self fun ja ha=>fT .self fun jb hb=>jU (b:=((s.T.ins s.n (fz (env s.log.length))).get s.n).isSome) fun hi=>jU fun hu=>.step [_] rfl fun lo I=>
    have a1:=I a ja ha
    have b1:=I b jb hb
    ⟨wk ⟨Nat.lt_succ_self _,by rw [BT.get_ins _ _ _ hi,if_pos rfl]⟩ (fun S' q h=>⟨Nat.lt_succ_of_lt h,by rw [BT.get_ins _ _ _ hi,if_neg (Ne.symm q)]⟩) I,by
      have nF:lZ M (@Bool.rec (fun ω=>String) "frozenset.__sub__" "frozenset.__or__" o) (env ja) (env jb) b (env s.log.length):=by
        cases o with
        | true=>exact lo.1
        | false=>exact lo.1
      have:=nF Γ p s.abs a kS hh (Nat.le_of_ble_eq_true hu) (Nat.ne_of_beq_eq_false e9) ((abs_get a1.1 a1.2).trans (wh _)) ((abs_get b1.1 b1.2).trans (wh _))
      rw [show s.abs.heap.objs.size=s.n from absHeap_size ..] at this
      exact SH this (congrArg (Shared.mk · s.gens s.drawn s.toks s.os) (absHeap_ins hi).symm)⟩
theorem SQ (iG:l0 M env rc) (cy:kR M env cd) (hL:rO M):kR M env (Cw M.den M.prog M.w.params cuts env rc cd):=fun Γ p s=>
  SN (iG Γ p _ [] s) (fun S it kS=>rL fun ω=>fT SE fun aH g=>fT (SJ iG cy hL kS 100 p aH) fun s' g'=>g.and g' fun x y=>x▸y) fun o a b kS=>SO kS
theorem CO (hL:rO M) (n:Nat):(l0 M env (jT M.den M.prog M.w.params cuts env n).1)∧(kR M env (jT M.den M.prog M.w.params cuts env n).2):=by
  induction n with
  | zero=>exact And.intro (a:=l0 M env fun ω ω ω ω ω=>none) (b:=kR M env fun ω ω ω=>none) (fun ω ω ω ω ω=>trivial) fun ω ω ω=>trivial
  | succ n ih=>
    refine And.intro (fun Γ p t fs s=>?_) (SQ ih.1 ih.2 hL)
    cases fs with
    | nil=>exact CM ih.1 ih.2 Γ t p s
    | cons F fs=>
      refine wj (P:=fun x=>Goes M env s x.2 (Runs M Γ p t (F::fs) s.abs x.1 x.2.abs)) (f:=fun r aH=>@Frame.casesOn (fun ω=>Option (End×ST)) F (fun k ω ω ω c₁ gB ω=>(jT M.den M.prog M.w.params cuts env n).1 (Γ.goto c₁) gB (k r) fs aH) (fun g k ω c₁ gB=>(jT M.den M.prog M.w.params cuts env n).1 (Γ.goto c₁) gB (k (End.ret r).result) fs (aH.setG g .finished))) (g:=fun v gY m7 i8 c₀ i9 we aH=>nn (splitAtGen (F::fs)) (some (End.susp v gY m7 i8 c₀ i9 (we++F::fs),aH))) (CM ih.1 ih.2 (Γ.over (F::fs)) t p s) (fun r aH g=>?_) fun ω ω ω ω ω ω ω ω g=>rL fun hs=>g.imp (.segSuspOut hs)
      cases F with
      | ret k hd g' l c₁ gB kp=>exact (ih.1 _ _ _ _ _).imp fun ω y=>g.and y .segRet
      | gen g' k l c₁ gB=>exact (ih.1 _ _ _ _ _).imp fun ω y=>g.and (y.same (s:=aH) rfl pB) .segGen
end
noncomputable def de (P:Params) (x:Str) (t:Tok) (v:Value):DictEntry:=⟨PyData.keyHash P x,.str x t,v⟩
noncomputable def kd (st:Stmt) (i:Nat):Stmt:=(bZ st).getD i (.Pass ⟨0,0,0,0⟩)
noncomputable def dm (st:Stmt):Str:=(docOf (bZ st)).getD default
noncomputable def wq (s:Stmt):Expr:=if h:s.ctorIdx=5 then Stmt.Assign.elim s h fun ω e ω=>e else default
noncomputable def wt (s:Stmt):Str:=if h:(wq s).ctorIdx=16 then Expr.Call.elim (wq s) h fun ω l ω ω=>(docOf (l.map fun e=>.Expr e default)).getD default else default
noncomputable def m8:Expr:=wq (kd (kd (af 17) 1) 1)
noncomputable def CP (e:Expr):Arguments:=if h:e.ctorIdx=4 then Expr.Lambda.elim e h fun a ω ω ω=>a else default
noncomputable def CQ (e:Expr):Expr:=if h:e.ctorIdx=4 then Expr.Lambda.elim e h fun ω b ω ω=>b else default
noncomputable def CR (e:Expr):Scope:=if h:e.ctorIdx=4 then Expr.Lambda.elim e h fun ω ω s ω=>s else default
noncomputable def sj (l:List String):Str:=⟨(@List.rec String (fun ω=>List Nat) [] (fun x ω ih=>(Str.ofString x).cps.toList++ih) l).toArray⟩
noncomputable def iz (l:List Int):List Value:=@List.rec Int (fun ω=>List Value) [] (fun x ω ih=>.int x 0::ih) l
noncomputable def iq (l:List Int) (t:Nat):List Value:=@List.rec Int (fun ω=>Nat→List Value) (fun ω=>[]) (fun x ω ih t=>.int x t::ih (t+1)) l t
noncomputable def lO (l:List Value) (n:Nat):Obj:=⟨.type "list",none,.seq l.toArray n,#[]⟩
noncomputable def SR (l:List Str):Nat→List Value:=@List.rec Str (fun ω=>Nat→List Value) (fun ω=>[]) (fun x ω ih t=>.str x t::ih (t+1)) l
noncomputable def tO (l:List Value):Obj:=⟨.type "tuple",none,.seq l.toArray 0,#[]⟩
noncomputable def tq (l:List Str) (t:Nat):Obj:=tO (SR l t)
noncomputable def tE:Obj:=tO []
noncomputable def oF (c:String) (l:List Value):Obj:=⟨.type c,none,.fields l.toArray,#[]⟩
noncomputable def nE:Obj:=⟨.none,none,.fields #[],#[]⟩
noncomputable def oD (l:List DictEntry) (n:Nat):Obj:=⟨.type "dict",none,.dict l.toArray n,#[]⟩
noncomputable def bR (P:Params) (t:Nat) (l:List String):List DictEntry:=@List.rec String (fun ω=>Nat→List DictEntry) (fun ω=>[]) (fun x ω ih t=>de P x t (.builtin x)::ih (t+1)) l t
noncomputable def yR (P:Params) (t:Nat) (l:List String):List DictEntry:=@List.rec String (fun ω=>Nat→List DictEntry) (fun ω=>[]) (fun x ω ih t=>de P x t (.type x)::ih (t+1)) l t
noncomputable def fO (wu:Option Addr) (c:Value) (n q:Str) (st:Stmt) (gl:Addr) (cl:List (Str×Addr)) (dv kv doc md:Value) (an:Option Addr) (cd ct:Value):Obj:=⟨c,wu,.func ⟨n,q,dr st,.stmts (bZ st),bz st,gl,cl,dv,kv,doc,md,an,cd,ct,0⟩,#[]⟩
noncomputable def fN (n q:Str) (st:Stmt):Obj:=fO none .none n q st 0 [] .none .none .none .none none .none .none
noncomputable def fU (wu:Option Addr) (n q:Str) (st:Stmt) (cl:List (Str×Addr)) (dv kv doc md:Value) (an:Option Addr) (cd:Addr) (ct:Value):Obj:=fO wu (.type "function") n q st 3 cl dv kv doc md an (.ref cd) ct
noncomputable def fV (n q:Str) (st:Stmt) (doc md:Value) (cd:Addr):Obj:=fU none n q st [] .none .none doc md none cd .none
noncomputable def cO (n q:Str) (t l a b c d r:Nat) (f:Bool) (u v w:Value) (k:Nat):Obj:=oF "code" [.str n t,.str q (t+1),.str "/claim/cut.py" (t+2),.int l 0,.int a 0,.int b 0,.int c 0,.int d 0,.ref r,.bool f,.int 482 0,.ref (r+1),.none,u,v,w,.int k 0,.int l 0,.str "/claim/cut.py" (k+1)]
noncomputable def cF (n q:Str) (t l a b c d r k:Nat):Obj:=cO n q t l a b c d r true (.ref (r+2)) (.ref (r+3)) (.ref (r+4)) k
noncomputable def cC (n q:Str) (t l r k:Nat):Obj:=cO n q t l 0 0 0 0 r false .none .none .none k
noncomputable def fR (a b:Addr) (md:Value):Obj:=⟨.type "frame",none,.plain,#[some (.ref a),some (.ref 3),some (.ref b),none,some md,none,some (.ref 0)]⟩
noncomputable def eA (P:Params) (j:Nat) (x:Str) (t:Tok):Ent:=.add j (PyData.keyHash P x) x t
noncomputable def jV (T:BT) (n:Nat) (l:List Obj):BT:=@List.rec Obj (fun ω=>Nat→BT→BT) (fun ω T=>T) (fun o ω ih n T=>ih (n+1) (T.ins n o)) l n T
noncomputable def kT (T:BT) (l:List (Nat×Obj)):BT:=@List.rec (Nat×Obj) (fun ω=>BT→BT) (fun T=>T) (fun o ω ih T=>ih (T.set o.1 fun ω=>o.2)) l T
noncomputable def m9:Value:=.str "__main__" 164
noncomputable def SS:Value:=.str "cpy313.tomllib._re" 535
noncomputable def jW:Value:=.str "functools" 1238
noncomputable def rQ:Value:=.str "cpy313.tomllib._re" 1387
noncomputable def pE:Value:=.str "cpy313.tomllib._parser" 1476
noncomputable def bT:Value:=.str "cpy313.tomllib._parser" 1905
noncomputable def SU:Value:=.str "cpy313.functools" 2482
noncomputable def SV:Value:=.str "os" 2498
noncomputable def CS:Value:=.str "abc" 2509
noncomputable def pF:Value:=.str "collections.abc" 2535
noncomputable def SW:Value:=.str "os" 2585
noncomputable def SX:Value:=.str "cpy313.genericpath" 2597
noncomputable def wx:Value:=.str "cpy313.posixpath" 2610
noncomputable def nc:Value:=.str "law_in0144_01" 2643
noncomputable def CT (P:Params):List DictEntry:=[de P "__doc__" 166 .none,de P "__package__" 167 .none,de P "__loader__" 168 (.builtin "__main__.__loader__#opaque"),de P "__spec__" 169 .none,de P "__annotations__" 170 (.ref 6),de P "__builtins__" 171 (.ref 4),de P "__file__" 173 (.str "/claim/cut.py" 172),de P "__cached__" 174 .none,de P "_sre" 275 (.ref 12),de P "tuplegetter_collections" 317 (.type "collections._tuplegetter"),de P "date" 429 (.type "datetime.date"),de P "datetime" 432 (.type "datetime.datetime"),de P "time" 435 (.type "datetime.time"),de P "timedelta" 438 (.type "datetime.timedelta"),de P "timezone" 441 (.type "datetime.timezone"),de P "_lru_cache_wrapper" 481 (.type "functools._lru_cache_wrapper")]
noncomputable def CU (P:Params):List DictEntry:=CT P++[de P "_wall" 494 (.ref 73),de P "_WallAttr" 534 (.ref 98)]
noncomputable def CV (P:Params):List DictEntry:=CU P++[de P "RE_NUMBER" 792 (.ref 107)]
noncomputable def CW (P:Params):List DictEntry:=CV P++[de P "RE_LOCALTIME" 905 (.ref 112)]
noncomputable def CY (P:Params):List DictEntry:=CW P++[de P "RE_DATETIME" 1210 (.ref 117),de P "match_to_datetime" 1237 (.ref 124),de P "WRAPPER_ASSIGNMENTS" 1245 (.ref 125),de P "WRAPPER_UPDATES" 1247 (.ref 126),de P "update_wrapper" 1260 (.ref 134),de P "CacheInfo" 1371 (.ref 198),de P "_CacheInfo" 1372 (.ref 198),de P "lru_cache" 1386 (.ref 209)]
noncomputable def CZ (P:Params):List DictEntry:=CY P++[de P "cached_tz" 1455 (.ref 232)]
noncomputable def C0 (P:Params):List DictEntry:=CZ P++[de P "match_to_localtime" 1467 (.ref 252),de P "match_to_number" 1475 (.ref 259),de P "_tuplegetter" 1534 (.ref 298),de P "tuplegetter_parser" 1535 (.ref 298),de P "MAX_KEY_PARTS" 1537 (.int 1000 1536)]
noncomputable def C1 (P:Params):List DictEntry:=C0 P++[de P "ASCII_CTRL" 1681 (.ref 319)]
noncomputable def SY (P:Params):List DictEntry:=C1 P++[de P "ILLEGAL_BASIC_STR_CHARS" 1685 (.ref 324),de P "ILLEGAL_MULTILINE_BASIC_STR_CHARS" 1691 (.ref 329),de P "ILLEGAL_LITERAL_STR_CHARS" 1692 (.ref 324),de P "ILLEGAL_MULTILINE_LITERAL_STR_CHARS" 1693 (.ref 329),de P "ILLEGAL_COMMENT_CHARS" 1694 (.ref 324),de P "TOML_WS" 1700 (.ref 330),de P "TOML_WS_AND_NEWLINE" 1704 (.ref 338),de P "ascii_lowercase" 1706 (.str "abcdefghijklmnopqrstuvwxyz" 1705),de P "ascii_uppercase" 1708 (.str "ABCDEFGHIJKLMNOPQRSTUVWXYZ" 1707),de P "ascii_letters" 1710 (.str "abcdefghijklmnopqrstuvwxyzABCDEFGHIJKLMNOPQRSTUVWXYZ" 1709),de P "digits" 1712 (.str "0123456789" 1711),de P "hexdigits" 1717 (.str "0123456789abcdefABCDEF" 1716),de P "BARE_KEY_CHARS" 1849 (.ref 339),de P "KEY_INITIAL_CHARS" 1855 (.ref 347),de P "HEXDIGIT_CHARS" 1900 (.ref 348),de P "MappingProxyType" 1904 (.type "mappingproxy"),de P "BASIC_STR_ESCAPE_REPLACEMENTS" 1928 (.ref 354)]
noncomputable def C2 (P:Params):Obj:=oD ([de P "__name__" 1 (.str "builtins" 160),de P "__doc__" 2 (.builtin "builtins.__doc__:str#opaque"),de P "__package__" 3 (.builtin "builtins.__package__:str#opaque"),de P "__loader__" 4 (.builtin "builtins.__loader__:shared#opaque"),de P "__spec__" 5 (.builtin "builtins.__spec__#opaque")]++(bR P 6 ["__build_class__","__import__","abs","all","any","ascii","bin","breakpoint","callable","chr","compile","delattr","dir","divmod","eval","exec","format","getattr","globals","hasattr","hash","hex","id","input","isinstance","issubclass","iter","aiter","len","locals","max","min","next","anext","oct","ord","pow","print","repr","round","setattr","sorted","sum","vars"]++([de P "None" 50 .none,de P "Ellipsis" 51 .ellipsis,de P "NotImplemented" 52 .notImplemented,de P "False" 53 (.bool false),de P "True" 54 (.bool true)]++(yR P 55 ["bool","memoryview","bytearray","bytes","classmethod","complex","dict","enumerate","filter","float","frozenset","property","int","list","map","object","range","reversed","set","slice","staticmethod","str","super","tuple","type","zip"]++([de P "__debug__" 81 (.bool true)]++(yR P 82 ["BaseException","BaseExceptionGroup","Exception","GeneratorExit","KeyboardInterrupt","SystemExit","ArithmeticError","AssertionError","AttributeError","BufferError","EOFError","ImportError","LookupError","MemoryError","NameError","OSError","ReferenceError","RuntimeError","StopAsyncIteration","StopIteration","SyntaxError","SystemError","TypeError","ValueError","Warning","FloatingPointError","OverflowError","ZeroDivisionError","BytesWarning","DeprecationWarning","EncodingWarning","FutureWarning","ImportWarning","PendingDeprecationWarning","ResourceWarning","RuntimeWarning","SyntaxWarning","UnicodeWarning","UserWarning","BlockingIOError","ChildProcessError","ConnectionError","FileExistsError","FileNotFoundError","InterruptedError","IsADirectoryError","NotADirectoryError","PermissionError","ProcessLookupError","TimeoutError","IndentationError","_IncompleteInputError","IndexError","KeyError","ModuleNotFoundError","NotImplementedError","PythonFinalizationError","RecursionError","UnboundLocalError","UnicodeError","BrokenPipeError","ConnectionAbortedError","ConnectionRefusedError","ConnectionResetError","TabError","UnicodeDecodeError","UnicodeEncodeError","UnicodeTranslateError","ExceptionGroup"]++([de P "EnvironmentError" 151 (.type "OSError"),de P "IOError" 152 (.type "OSError"),de P "open" 153 (.builtin "open"),de P "quit" 154 (.builtin "builtins.quit#opaque"),de P "exit" 155 (.builtin "builtins.exit#opaque"),de P "copyright" 156 (.builtin "builtins.copyright#opaque"),de P "credits" 157 (.builtin "builtins.credits#opaque"),de P "license" 158 (.builtin "builtins.license#opaque"),de P "help" 159 (.builtin "builtins.help#opaque")]))))))) 159
noncomputable def wy (P:Params):Obj:=oD [de P "builtins" 162 (.ref 4),de P "__main__" 163 (.ref 5),de P "_sre" 244 (.ref 12),de P "_collections" 292 (.ref 30),de P "_datetime" 397 (.ref 36),de P "_functools" 458 (.ref 59)] 6
noncomputable def C3 (P:Params):Obj:=⟨.none,none,.dict #[de P "\x69mport.loaded._sre" 183 (.bool true),de P "class._frozen_importlib.BuiltinImporter" 185 (.ref 14),de P "watched.\x69mport" 206 (.ref 18),de P "class._frozen_importlib.ModuleSpec" 216 (.ref 22),de P "sys.modules.booked-epoch" 245 (.int 6 0),de P "\x69mport.later-laid._sre" 270 (.bool true),de P "watched.library" 272 (.ref 27),de P "watched.library-objects" 0 (.str ⟨#[12,30,36,59]⟩ 0),de P "watched.library-deep._sre" 273 (.str (sj ["\x04\x00\x00\x0b\x04\x00\x00\x0b\x04\x00\x00\x03\x04\x00\x00\x0b\x08\x04dict\x02"]) 0),de P "\x69mport.loaded._collections" 280 (.bool true),de P "sys.modules.landed._collections" 294 (.bool true),de P "\x69mport.later-laid._collections" 309 (.bool true),de P "watched.library-deep._collections" 311 (.str (sj ["\x04\x00\x00\x1d\x04\x00\x00\x1d\x04\x00\x00\x03\x04\x00\x00\x1d\x08\x04dict\x02"]) 0),de P "\x69mport.loaded._datetime" 326 (.bool true),de P "class._frozen_importlib_external._LoaderBasics" 331 (.ref 39),de P "class._frozen_importlib_external.FileLoader" 347 (.ref 44),de P "class._frozen_importlib_external.ExtensionFileLoader" 368 (.ref 49),de P "datetime.timedelta.zero" 418 (.ref 55),de P "datetime.timezone.utc" 419 (.ref 56),de P "\x69mport.later-laid._datetime" 422 (.bool true),de P "\x69mport.loaded._functools" 446 (.bool true),de P "sys.modules.landed._functools" 460 (.bool true),de P "\x69mport.later-laid._functools" 473 (.bool true),de P "watched.library-deep._functools" 475 (.str (sj ["\x04\x00\x00:\x04\x00\x00:\x04\x00\x00\x03\x04\x00\x00:\x08\x04dict\x02"]) 0)] 24,#[]⟩
noncomputable def C4 (P:Params):Obj:=⟨(.type "module"),(some 0),.plain,#[]⟩
noncomputable def C5 (P:Params):Obj:=⟨(.type "module"),(some 3),.plain,#[]⟩
noncomputable def C6 (P:Params):Obj:=oD [] 0
noncomputable def C7 (P:Params):Obj:=oF "code" [.str "<module>" 176,.str "<module>" 177,.str "/claim/cut.py" 178,.int 1 0,.int 0 0,.int 0 0,.int 0 0,.int 0 0,.ref 7,.bool false,.int 175 0,.ref 8,.none,.none,.none,.none,.int 179 0,.int 1 0,.str "/claim/cut.py" 180]
noncomputable def C8 (P:Params):Obj:=fR 9 3 m9
noncomputable def C9 (P:Params):Obj:=oD [de P "__name__" 247 (.str "_sre" 246),de P "__doc__" 248 .none,de P "__package__" 250 (.str "" 249),de P "__loader__" 251 (.builtin "off-the-table:_sre.__loader__:shared#opaque"),de P "__spec__" 252 (.builtin "off-the-table:_sre.__spec__:shared#opaque"),de P "compile" 253 (.builtin "_sre.compile"),de P "template" 254 (.builtin "off-the-table:_sre.template:shared#opaque"),de P "getcodesize" 255 (.builtin "off-the-table:_sre.getcodesize:shared#opaque"),de P "ascii_iscased" 256 (.builtin "off-the-table:_sre.ascii_iscased:shared#opaque"),de P "unicode_iscased" 257 (.builtin "off-the-table:_sre.unicode_iscased:shared#opaque"),de P "ascii_tolower" 258 (.builtin "off-the-table:_sre.ascii_tolower:shared#opaque"),de P "unicode_tolower" 259 (.builtin "off-the-table:_sre.unicode_tolower:shared#opaque"),de P "MAGIC" 261 (.int 20230612 260),de P "CODESIZE" 263 (.int 4 262),de P "MAXREPEAT" 265 (.int 4294967295 264),de P "MAXGROUPS" 267 (.int 1073741823 266),de P "copyright" 269 (.str " SRE 2.2.2 Copyright (c) 1997-2002 by Secret Labs AB " 268)] 17
noncomputable def Dc (P:Params):Obj:=⟨(.type "module"),(some 11),.plain,#[]⟩
noncomputable def Dd (P:Params):Obj:=oD [de P "__module__" 189 (.str "_frozen_importlib" 186),de P "__firstlineno__" 190 (.int 971 187),de P "__doc__" 191 (.builtin "_frozen_importlib.BuiltinImporter.__doc__:str#opaque"),de P "_ORIGIN" 192 (.str "built-in" 188),de P "find_spec" 193 (.builtin "_frozen_importlib.BuiltinImporter.find_spec#opaque"),de P "create_module" 194 (.builtin "_frozen_importlib.BuiltinImporter.create_module#opaque"),de P "exec_module" 195 (.builtin "_frozen_importlib.BuiltinImporter.exec_module#opaque"),de P "get_code" 196 (.builtin "_frozen_importlib.BuiltinImporter.get_code#opaque"),de P "get_source" 197 (.builtin "_frozen_importlib.BuiltinImporter.get_source#opaque"),de P "is_package" 198 (.builtin "_frozen_importlib.BuiltinImporter.is_package#opaque"),de P "load_module" 199 (.builtin "_frozen_importlib.BuiltinImporter.load_module#opaque"),de P "__static_attributes__" 200 (.ref 15),de P "__dict__" 202 (.ref 16),de P "__weakref__" 204 (.ref 17)] 14
noncomputable def De (P:Params):Obj:=⟨(.type "type"),none,.cls ⟨"BuiltinImporter",[(.type "object")],[(.ref 14),(.type "object")],13,"BuiltinImporter",true,[],[],false,none,false⟩,#[]⟩
noncomputable def Df (P:Params):Obj:=oF "getset_descriptor" [.str "__dict__" 201,.ref 14,.builtin "function.__dict__",.builtin "function.__dict__#set"]
noncomputable def Dg (P:Params):Obj:=oF "getset_descriptor" [.str "__weakref__" 203,.ref 14,.builtin "ExceptionGroup.__weakref__",.none]
noncomputable def Dh (P:Params):Obj:=⟨.none,none,.seq #[(.int 13 0),(.str (sj ["\x06\xbd\x0a__module__\x06º\x11_frozen_importli","b\x06\xbe\x0f__firstlineno__\x04\xbb\x00ϋ\x06¿\x07__doc_","_\x094_frozen_importlib.BuiltinImpo","rter.__doc__:str#opaque\x06À\x07_ORIGI","N\x06\xbc\x08built-in\x06Á\x09find_spec\x092_froze","n_importlib.BuiltinImporter.find","_spec#opaque\x06Â\x0dcreate_module\x096_f","rozen_importlib.BuiltinImporter.","create_module#opaque\x06Ã\x0bexec_modu","le\x094_frozen_importlib.BuiltinImp","orter.exec_module#opaque\x06Ä\x08get_c","ode\x091_frozen_importlib.BuiltinIm","porter.get_code#opaque\x06Å\x0aget_sou","rce\x093_frozen_importlib.BuiltinIm","porter.get_source#opaque\x06Æ\x0ais_pa","ckage\x093_frozen_importlib.Builtin","Importer.is_package#opaque\x06Ç\x0bloa","d_module\x094_frozen_importlib.Buil","tinImporter.load_module#opaque\x06È","\x15__static_attributes__\x04\x00\x00\x0f\x06Ê\x08__d","ict__\x04\x00\x00\x10\x06Ì\x0b__weakref__\x04\x00\x00\x11"]) 0),(.bool true),(.bool true),(.str "" 205),(.int 21 0),(.str (sj ["\x06ã\x0a__module__\x06Ù\x11_frozen_importli","b\x06ä\x0f__firstlineno__\x04Ú\x00Ȳ\x06å\x07__doc_","_\x09/_frozen_importlib.ModuleSpec.","__doc__:str#opaque\x06æ\x08__init__\x09,_","frozen_importlib.ModuleSpec.__in","it__#opaque\x06ç\x08__repr__\x09,_frozen_","importlib.ModuleSpec.__repr__#op","aque\x06è\x06__eq__\x09*_frozen_importlib",".ModuleSpec.__eq__#opaque\x06é\x06cach","ed\x09*_frozen_importlib.ModuleSpec",".cached#opaque\x06ê\x06parent\x09*_frozen","_importlib.ModuleSpec.parent#opa","que\x06ë\x0chas_location\x090_frozen_impo","rtlib.ModuleSpec.has_location#op","aque\x06ì\x15__static_attributes__\x04\x00\x00\x17","\x06î\x08__dict__\x04\x00\x00\x18\x06ð\x0b__weakref__\x04\x00\x00","\x19\x06ñ\x08__hash__\x00"]) 0),(.bool true),(.bool true),(.str "" 242),(.int 38 0),(.str (sj ["\x06Ŏ\x0a__module__\x06Ō\x1a_frozen_importli","b_external\x06ŏ\x0f__firstlineno__\x04ō\x00ϩ","\x06Ő\x07__doc__\x09;_frozen_importlib_ex","ternal._LoaderBasics.__doc__:str","#opaque\x06ő\x0ais_package\x09:_frozen_im","portlib_external._LoaderBasics.i","s_package#opaque\x06Œ\x0dcreate_module","\x09=_frozen_importlib_external._Lo","aderBasics.create_module#opaque\x06","œ\x0bexec_module\x09;_frozen_importlib","_external._LoaderBasics.exec_mod","ule#opaque\x06Ŕ\x0bload_module\x09;_froze","n_importlib_external._LoaderBasi","cs.load_module#opaque\x06ŕ\x15__static","_attributes__\x04\x00\x00(\x06ŗ\x08__dict__\x04\x00\x00)","\x06ř\x0b__weakref__\x04\x00\x00*"]) 0),(.bool true),(.bool true),(.str "" 346),(.int 43 0),(.str (sj ["\x06Š\x0a__module__\x06Ŝ\x1a_frozen_importli","b_external\x06š\x0f__firstlineno__\x04ŝ\x00Ҙ","\x06Ţ\x07__doc__\x098_frozen_importlib_ex","ternal.FileLoader.__doc__:str#op","aque\x06ţ\x08__init__\x095_frozen_importl","ib_external.FileLoader.__init__#","opaque\x06Ť\x06__eq__\x093_frozen_importl","ib_external.FileLoader.__eq__#op","aque\x06ť\x08__hash__\x095_frozen_importl","ib_external.FileLoader.__hash__#","opaque\x06Ŧ\x0bload_module\x098_frozen_im","portlib_external.FileLoader.load","_module#opaque\x06ŧ\x0cget_filename\x099_","frozen_importlib_external.FileLo","ader.get_filename#opaque\x06Ũ\x08get_d","ata\x095_frozen_importlib_external.","FileLoader.get_data#opaque\x06ũ\x13get","_resource_reader\x09@_frozen_import","lib_external.FileLoader.get_reso","urce_reader#opaque\x06Ū\x15__static_at","tributes__\x04\x00\x00-\x06Ŭ\x08__dict__\x04\x00\x00.\x06Ů\x0b","__weakref__\x04\x00\x00/"]) 0),(.bool true),(.bool true),(.str "" 367),(.int 48 0),(.str (sj ["\x06ŵ\x0a__module__\x06ű\x1a_frozen_importli","b_external\x06Ŷ\x0f__firstlineno__\x04Ų\x00Ԑ","\x06ŷ\x07__doc__\x09A_frozen_importlib_ex","ternal.ExtensionFileLoader.__doc","__:str#opaque\x06Ÿ\x08__init__\x09>_froze","n_importlib_external.ExtensionFi","leLoader.__init__#opaque\x06Ź\x06__eq_","_\x09<_frozen_importlib_external.Ex","tensionFileLoader.__eq__#opaque\x06","ź\x08__hash__\x09>_frozen_importlib_ex","ternal.ExtensionFileLoader.__has","h__#opaque\x06Ż\x0dcreate_module\x09C_fro","zen_importlib_external.Extension","FileLoader.create_module#opaque\x06","ż\x0bexec_module\x09A_frozen_importlib","_external.ExtensionFileLoader.ex","ec_module#opaque\x06Ž\x0ais_package\x09@_","frozen_importlib_external.Extens","ionFileLoader.is_package#opaque\x06","ž\x08get_code\x09>_frozen_importlib_ex","ternal.ExtensionFileLoader.get_c","ode#opaque\x06ſ\x0aget_source\x09@_frozen","_importlib_external.ExtensionFil","eLoader.get_source#opaque\x06ƀ\x0cget_","filename\x09B_frozen_importlib_exte","rnal.ExtensionFileLoader.get_fil","ename#opaque\x06Ɓ\x15__static_attribut","es__\x04\x00\x002"]) 0),(.bool true),(.bool true),(.str "" 386)] 4,#[]⟩
noncomputable def Di (P:Params):Obj:=lO [] 0
noncomputable def Dj (P:Params):Obj:=oD [de P "name" 208 (.str "_sre" 207),de P "loader" 209 (.ref 14),de P "origin" 210 (.str "built-in" 184),de P "loader_state" 211 .none,de P "submodule_search_locations" 212 .none,de P "_uninitialized_submodules" 213 (.ref 19),de P "_set_fileattr" 214 (.bool false),de P "_cached" 215 .none,de P "_initializing" 243 (.bool false)] 9
noncomputable def Dk (P:Params):Obj:=oD [de P "__module__" 227 (.str "_frozen_importlib" 217),de P "__firstlineno__" 228 (.int 562 218),de P "__doc__" 229 (.builtin "_frozen_importlib.ModuleSpec.__doc__:str#opaque"),de P "__init__" 230 (.builtin "_frozen_importlib.ModuleSpec.__init__#opaque"),de P "__repr__" 231 (.builtin "_frozen_importlib.ModuleSpec.__repr__#opaque"),de P "__eq__" 232 (.builtin "_frozen_importlib.ModuleSpec.__eq__#opaque"),de P "cached" 233 (.builtin "_frozen_importlib.ModuleSpec.cached#opaque"),de P "parent" 234 (.builtin "_frozen_importlib.ModuleSpec.parent#opaque"),de P "has_location" 235 (.builtin "_frozen_importlib.ModuleSpec.has_location#opaque"),de P "__static_attributes__" 236 (.ref 23),de P "__dict__" 238 (.ref 24),de P "__weakref__" 240 (.ref 25),de P "__hash__" 241 .none] 13
noncomputable def Dl (P:Params):Obj:=⟨(.type "type"),none,.cls ⟨"ModuleSpec",[(.type "object")],[(.ref 22),(.type "object")],21,"ModuleSpec",true,[],[],false,none,false⟩,#[]⟩
noncomputable def Dm (P:Params):Obj:=tq ["_cached","_set_fileattr","_uninitialized_submodules","loader","loader_state","name","origin","submodule_search_locations"] 219
noncomputable def Dn (P:Params):Obj:=oF "getset_descriptor" [.str "__dict__" 237,.ref 22,.builtin "function.__dict__",.builtin "function.__dict__#set"]
noncomputable def Dp (P:Params):Obj:=oF "getset_descriptor" [.str "__weakref__" 239,.ref 22,.builtin "ExceptionGroup.__weakref__",.none]
noncomputable def Dq (P:Params):Obj:=⟨(.ref 22),(some 20),.plain,#[]⟩
noncomputable def Dr (P:Params):Obj:=⟨.none,none,.seq #[(.int 11 0),(.str ⟨#[6,247,8,95,95,110,97,109,101,95,95,6,246,4,95,115,114,101,6,248,7,95,95,100,111,99,95,95,0,6,250,11,95,95,112,97,99,107,97,103,101,95,95,6,249,0,6,251,10,95,95,108,111,97,100,101,114,95,95,4,0,0,14,6,252,8,95,95,115,112,101,99,95,95,4,0,0,26,6,253,7,99,111,109,112,105,108,101,9,12,95,115,114,101,46,99,111,109,112,105,108,101,6,254,8,116,101,109,112,108,97,116,101,9,13,95,115,114,101,46,116,101,109,112,108,97,116,101,6,255,11,103,101,116,99,111,100,101,115,105,122,101,9,16,95,115,114,101,46,103,101,116,99,111,100,101,115,105,122,101,6,256,13,97,115,99,105,105,95,105,115,99,97,115,101,100,9,18,95,115,114,101,46,97,115,99,105,105,95,105,115,99,97,115,101,100,6,257,15,117,110,105,99,111,100,101,95,105,115,99,97,115,101,100,9,20,95,115,114,101,46,117,110,105,99,111,100,101,95,105,115,99,97,115,101,100,6,258,13,97,115,99,105,105,95,116,111,108,111,119,101,114,9,18,95,115,114,101,46,97,115,99,105,105,95,116,111,108,111,119,101,114,6,259,15,117,110,105,99,111,100,101,95,116,111,108,111,119,101,114,9,20,95,115,114,101,46,117,110,105,99,111,100,101,95,116,111,108,111,119,101,114,6,261,5,77,65,71,73,67,4,260,0,20230612,6,263,8,67,79,68,69,83,73,90,69,4,262,0,4,6,265,9,77,65,88,82,69,80,69,65,84,4,264,0,4294967295,6,267,9,77,65,88,71,82,79,85,80,83,4,266,0,1073741823,6,269,9,99,111,112,121,114,105,103,104,116,6,268,53,32,83,82,69,32,50,46,50,46,50,32,67,111,112,121,114,105,103,104,116,32,40,99,41,32,49,57,57,55,45,50,48,48,50,32,98,121,32,83,101,99,114,101,116,32,76,97,98,115,32,65,66,32]⟩ 0),(.bool true),(.bool false),(.str "_sre" 271),(.int 29 0),(.str (sj ["\x06Ĩ\x08__name__\x06ħ\x0c_collections\x06ĩ\x07__d","oc__\x09\x1f_collections.__doc__:str#o","paque\x06ī\x0b__package__\x06Ī\x00\x06Ĭ\x0a__loade","r__\x04\x00\x00\x0e\x06ĭ\x08__spec__\x04\x00\x00!\x06Į\x0f_count_","elements\x09\x1c_collections._count_el","ements\x06į\x05deque\x08\x11collections.dequ","e\x06İ\x0bdefaultdict\x08\x17collections.def","aultdict\x06ı\x0f_deque_iterator\x08\x1bcoll","ections._deque_iterator\x06Ĳ\x17_deque","_reverse_iterator\x08#collections._","deque_reverse_iterator\x06ĳ\x0c_tupleg","etter\x08\x18collections._tuplegetter\x06","Ĵ\x0bOrderedDict\x08\x17collections.Order","edDict"]) 0),(.bool true),(.bool false),(.str "_collections" 310),(.int 35 0),(.str (sj ["\x06Ɛ\x08__name__\x06Ə\x09_datetime\x06ƒ\x07__doc_","_\x06Ƒ)Fast implementation of the d","atetime type.\x06Ɣ\x0b__package__\x06Ɠ\x00\x06ƕ","\x0a__loader__\x04\x00\x003\x06Ɩ\x08__spec__\x04\x00\x006\x06Ɨ","\x08__file__\x06Ň\x80/nix/store/wj1f56qky","4pmjc7l0r6b6l7whnnw7hp6-python3-","3.13.15/lib/python3.13/lib-dynlo","ad/_datetime.cpython-313-x86_64-","linux-gnu.so\x06Ƙ\x04date\x08\x0ddatetime.da","te\x06ƙ\x08datetime\x08\x11datetime.datetime","\x06ƚ\x04time\x08\x0ddatetime.time\x06ƛ\x09timedel","ta\x08\x12datetime.timedelta\x06Ɯ\x06tzinfo\x08","\x0fdatetime.tzinfo\x06Ɲ\x08timezone\x08\x11dat","etime.timezone\x06Ɵ\x07MINYEAR\x04ƞ\x00\x01\x06ơ\x07M","AXYEAR\x04Ơ\x00✏\x06Ƥ\x03UTC\x04\x00\x008\x06ƥ\x0ddatetime_","CAPI\x09\x1e_datetime.datetime_CAPI#op","aque"]) 0),(.bool true),(.bool false),(.str "_datetime" 423),(.int 58 0),(.str (sj ["\x06ǎ\x08__name__\x06Ǎ\x0a_functools\x06ǐ\x07__doc","__\x06Ǐ Tools that operate on funct","ions.\x06ǒ\x0b__package__\x06Ǒ\x00\x06Ǔ\x0a__loade","r__\x04\x00\x00\x0e\x06ǔ\x08__spec__\x04\x00\x00>\x06Ǖ\x06reduce\x09","\x11_functools.reduce\x06ǖ\x0acmp_to_key\x09","\x15_functools.cmp_to_key\x06Ǘ\x07partial","\x08\x11functools.partial\x06ǘ\x12_lru_cache","_wrapper\x08\x1cfunctools._lru_cache_w","rapper"]) 0),(.bool true),(.bool false),(.str "_functools" 474)] 3,#[]⟩
noncomputable def Ds (P:Params):Obj:=tq ["_tuplegetter"] 277
noncomputable def Dt (P:Params):Obj:=oD [de P "__name__" 296 (.str "_collections" 295),de P "__doc__" 297 (.builtin "off-the-table:_collections.__doc__:shared#opaque"),de P "__package__" 299 (.str "" 298),de P "__loader__" 300 (.builtin "off-the-table:_collections.__loader__:shared#opaque"),de P "__spec__" 301 (.builtin "off-the-table:_collections.__spec__:shared#opaque"),de P "_count_elements" 302 (.builtin "_collections._count_elements"),de P "deque" 303 (.type "collections.deque"),de P "defaultdict" 304 (.type "collections.defaultdict"),de P "_deque_iterator" 305 (.builtin "off-the-table:_collections._deque_iterator:shared#opaque"),de P "_deque_reverse_iterator" 306 (.builtin "off-the-table:_collections._deque_reverse_iterator:shared#opaque"),de P "_tuplegetter" 307 (.type "collections._tuplegetter"),de P "OrderedDict" 308 (.type "collections.OrderedDict")] 12
noncomputable def Du (P:Params):Obj:=⟨(.type "module"),(some 29),.plain,#[]⟩
noncomputable def Dv (P:Params):Obj:=lO [] 0
noncomputable def Dw (P:Params):Obj:=oD [de P "name" 283 (.str "_collections" 282),de P "loader" 284 (.ref 14),de P "origin" 285 (.str "built-in" 281),de P "loader_state" 286 .none,de P "submodule_search_locations" 287 .none,de P "_uninitialized_submodules" 288 (.ref 31),de P "_set_fileattr" 289 (.bool false),de P "_cached" 290 .none,de P "_initializing" 291 (.bool false)] 9
noncomputable def Dx (P:Params):Obj:=⟨(.ref 22),(some 32),.plain,#[]⟩
noncomputable def Dy (P:Params):Obj:=tq ["date","datetime","time","timedelta","timezone"] 319
noncomputable def Dz (P:Params):Obj:=oD [de P "__name__" 400 (.str "_datetime" 399),de P "__doc__" 402 (.str "Fast implementation of the datetime type." 401),de P "__package__" 404 (.str "" 403),de P "__loader__" 405 (.builtin "off-the-table:_datetime.__loader__:shared#opaque"),de P "__spec__" 406 (.builtin "off-the-table:_datetime.__spec__:shared#opaque"),de P "__file__" 407 (.str "/nix/store/wj1f56qky4pmjc7l0r6b6l7whnnw7hp6-python3-3.13.15/lib/python3.13/lib-dynload/_datetime.cpython-313-x86_64-linux-gnu.so" 327),de P "date" 408 (.type "datetime.date"),de P "datetime" 409 (.type "datetime.datetime"),de P "time" 410 (.type "datetime.time"),de P "timedelta" 411 (.type "datetime.timedelta"),de P "tzinfo" 412 (.type "datetime.tzinfo"),de P "timezone" 413 (.type "datetime.timezone"),de P "MINYEAR" 415 (.int 1 414),de P "MAXYEAR" 417 (.int 9999 416),de P "UTC" 420 (.builtin "off-the-table:_datetime.UTC:shared#opaque"),de P "datetime_CAPI" 421 (.builtin "off-the-table:_datetime.datetime_CAPI:shared#opaque")] 16
noncomputable def DA (P:Params):Obj:=⟨(.type "module"),(some 35),.plain,#[]⟩
noncomputable def DB (P:Params):Obj:=oD [de P "name" 329 (.str "_datetime" 328),de P "path" 330 (.str "/nix/store/wj1f56qky4pmjc7l0r6b6l7whnnw7hp6-python3-3.13.15/lib/python3.13/lib-dynload/_datetime.cpython-313-x86_64-linux-gnu.so" 327)] 2
noncomputable def DC (P:Params):Obj:=oD [de P "__module__" 334 (.str "_frozen_importlib_external" 332),de P "__firstlineno__" 335 (.int 1001 333),de P "__doc__" 336 (.builtin "_frozen_importlib_external._LoaderBasics.__doc__:str#opaque"),de P "is_package" 337 (.builtin "_frozen_importlib_external._LoaderBasics.is_package#opaque"),de P "create_module" 338 (.builtin "_frozen_importlib_external._LoaderBasics.create_module#opaque"),de P "exec_module" 339 (.builtin "_frozen_importlib_external._LoaderBasics.exec_module#opaque"),de P "load_module" 340 (.builtin "_frozen_importlib_external._LoaderBasics.load_module#opaque"),de P "__static_attributes__" 341 (.ref 40),de P "__dict__" 343 (.ref 41),de P "__weakref__" 345 (.ref 42)] 10
noncomputable def DD (P:Params):Obj:=⟨(.type "type"),none,.cls ⟨"_LoaderBasics",[(.type "object")],[(.ref 39),(.type "object")],38,"_LoaderBasics",true,[],[(.ref 49)],false,none,false⟩,#[]⟩
noncomputable def DE (P:Params):Obj:=oF "getset_descriptor" [.str "__dict__" 342,.ref 39,.builtin "function.__dict__",.builtin "function.__dict__#set"]
noncomputable def DF (P:Params):Obj:=oF "getset_descriptor" [.str "__weakref__" 344,.ref 39,.builtin "ExceptionGroup.__weakref__",.none]
noncomputable def DG (P:Params):Obj:=oD [de P "__module__" 352 (.str "_frozen_importlib_external" 348),de P "__firstlineno__" 353 (.int 1176 349),de P "__doc__" 354 (.builtin "_frozen_importlib_external.FileLoader.__doc__:str#opaque"),de P "__init__" 355 (.builtin "_frozen_importlib_external.FileLoader.__init__#opaque"),de P "__eq__" 356 (.builtin "_frozen_importlib_external.FileLoader.__eq__#opaque"),de P "__hash__" 357 (.builtin "_frozen_importlib_external.FileLoader.__hash__#opaque"),de P "load_module" 358 (.builtin "_frozen_importlib_external.FileLoader.load_module#opaque"),de P "get_filename" 359 (.builtin "_frozen_importlib_external.FileLoader.get_filename#opaque"),de P "get_data" 360 (.builtin "_frozen_importlib_external.FileLoader.get_data#opaque"),de P "get_resource_reader" 361 (.builtin "_frozen_importlib_external.FileLoader.get_resource_reader#opaque"),de P "__static_attributes__" 362 (.ref 45),de P "__dict__" 364 (.ref 46),de P "__weakref__" 366 (.ref 47)] 13
noncomputable def DH (P:Params):Obj:=⟨(.type "type"),none,.cls ⟨"FileLoader",[(.type "object")],[(.ref 44),(.type "object")],43,"FileLoader",true,[],[(.ref 49)],false,none,false⟩,#[]⟩
noncomputable def DI (P:Params):Obj:=tq ["name","path"] 350
noncomputable def DJ (P:Params):Obj:=oF "getset_descriptor" [.str "__dict__" 363,.ref 44,.builtin "function.__dict__",.builtin "function.__dict__#set"]
noncomputable def DK (P:Params):Obj:=oF "getset_descriptor" [.str "__weakref__" 365,.ref 44,.builtin "ExceptionGroup.__weakref__",.none]
noncomputable def DL (P:Params):Obj:=oD [de P "__module__" 373 (.str "_frozen_importlib_external" 369),de P "__firstlineno__" 374 (.int 1296 370),de P "__doc__" 375 (.builtin "_frozen_importlib_external.ExtensionFileLoader.__doc__:str#opaque"),de P "__init__" 376 (.builtin "_frozen_importlib_external.ExtensionFileLoader.__init__#opaque"),de P "__eq__" 377 (.builtin "_frozen_importlib_external.ExtensionFileLoader.__eq__#opaque"),de P "__hash__" 378 (.builtin "_frozen_importlib_external.ExtensionFileLoader.__hash__#opaque"),de P "create_module" 379 (.builtin "_frozen_importlib_external.ExtensionFileLoader.create_module#opaque"),de P "exec_module" 380 (.builtin "_frozen_importlib_external.ExtensionFileLoader.exec_module#opaque"),de P "is_package" 381 (.builtin "_frozen_importlib_external.ExtensionFileLoader.is_package#opaque"),de P "get_code" 382 (.builtin "_frozen_importlib_external.ExtensionFileLoader.get_code#opaque"),de P "get_source" 383 (.builtin "_frozen_importlib_external.ExtensionFileLoader.get_source#opaque"),de P "get_filename" 384 (.builtin "_frozen_importlib_external.ExtensionFileLoader.get_filename#opaque"),de P "__static_attributes__" 385 (.ref 50)] 13
noncomputable def DM (P:Params):Obj:=⟨(.type "type"),none,.cls ⟨"ExtensionFileLoader",[(.ref 44),(.ref 39)],[(.ref 49),(.ref 44),(.ref 39),(.type "object")],48,"ExtensionFileLoader",true,[],[],false,none,false⟩,#[]⟩
noncomputable def DN (P:Params):Obj:=tq ["name","path"] 371
noncomputable def DO (P:Params):Obj:=⟨(.ref 49),(some 37),.plain,#[]⟩
noncomputable def DP (P:Params):Obj:=lO [] 0
noncomputable def DQ (P:Params):Obj:=oD [de P "name" 388 (.str "_datetime" 387),de P "loader" 389 (.ref 51),de P "origin" 390 (.str "/nix/store/wj1f56qky4pmjc7l0r6b6l7whnnw7hp6-python3-3.13.15/lib/python3.13/lib-dynload/_datetime.cpython-313-x86_64-linux-gnu.so" 327),de P "loader_state" 391 .none,de P "submodule_search_locations" 392 .none,de P "_uninitialized_submodules" 393 (.ref 52),de P "_set_fileattr" 394 (.bool true),de P "_cached" 395 .none,de P "_initializing" 396 (.bool false)] 9
noncomputable def DR (P:Params):Obj:=⟨(.ref 22),(some 53),.plain,#[]⟩
noncomputable def DS (P:Params):Obj:=oF "datetime.timedelta" [.int 0 0,.int 0 0,.int 0 0]
noncomputable def DT (P:Params):Obj:=oF "datetime.timezone" [.ref 55,.none]
noncomputable def DU (P:Params):Obj:=tq ["_lru_cache_wrapper"] 443
noncomputable def DV (P:Params):Obj:=oD [de P "__name__" 462 (.str "_functools" 461),de P "__doc__" 464 (.str "Tools that operate on functions." 463),de P "__package__" 466 (.str "" 465),de P "__loader__" 467 (.builtin "off-the-table:_functools.__loader__:shared#opaque"),de P "__spec__" 468 (.builtin "off-the-table:_functools.__spec__:shared#opaque"),de P "reduce" 469 (.builtin "_functools.reduce"),de P "cmp_to_key" 470 (.builtin "_functools.cmp_to_key"),de P "partial" 471 (.type "functools.partial"),de P "_lru_cache_wrapper" 472 (.type "functools._lru_cache_wrapper")] 9
noncomputable def DW (P:Params):Obj:=⟨(.type "module"),(some 58),.plain,#[]⟩
noncomputable def DX (P:Params):Obj:=lO [] 0
noncomputable def DY (P:Params):Obj:=oD [de P "name" 449 (.str "_functools" 448),de P "loader" 450 (.ref 14),de P "origin" 451 (.str "built-in" 447),de P "loader_state" 452 .none,de P "submodule_search_locations" 453 .none,de P "_uninitialized_submodules" 454 (.ref 60),de P "_set_fileattr" 455 (.bool false),de P "_cached" 456 .none,de P "_initializing" 457 (.bool false)] 9
noncomputable def DZ (P:Params):Obj:=⟨(.ref 22),(some 61),.plain,#[]⟩
noncomputable def D0 (P:Params):Obj:=cC "<module>" "<module>" 483 1 63 486
noncomputable def D1 (P:Params):Obj:=fR 65 3 m9
noncomputable def D2 (P:Params):Obj:=tq ["k"] 491
noncomputable def D3 (P:Params):Obj:=fN "_wall" "_wall" (af 4)
noncomputable def D4 (P:Params):Obj:=cF "_wall" "_wall" 488 5 1 0 0 3 67 492
noncomputable def D5 (P:Params):Obj:=fV "_wall" "_wall" (af 4) .none m9 72
noncomputable def D6 (P:Params):Obj:=oF "builtin_function_or_method" [.builtin "type.__prepare__",.type "type"]
noncomputable def D7 (P:Params):Obj:=oD [de P "__module__" 502 (.str "__main__" 164),de P "__qualname__" 504 (.str "_WallAttr" 503),de P "__firstlineno__" 506 (.int 8 505),de P "__init__" 514 (.ref 87),de P "__get__" 523 (.ref 95),de P "__set__" 524 (.ref 95),de P "__delete__" 525 (.ref 95),de P "__static_attributes__" 527 (.ref 96)] 8
noncomputable def D8 (P:Params):Obj:=⟨.none,none,.fields #[(.int 9 0),(.int 4 0),(.ref 86),(.int 11 0),(.int 4 0),(.ref 94)],#[]⟩
noncomputable def D9 (P:Params):Obj:=cC "_WallAttr" "_WallAttr" 497 8 77 500
noncomputable def Ea (P:Params):Obj:=fR 79 76 m9
noncomputable def Eb (P:Params):Obj:=tq ["self","k"] 510
noncomputable def Ec (P:Params):Obj:=fN "__init__" "_WallAttr.__init__" (kd (af 5) 0)
noncomputable def Ed (P:Params):Obj:=cF "__init__" "_WallAttr.__init__" 507 9 2 0 0 3 81 512
noncomputable def Ee (P:Params):Obj:=fV "__init__" "_WallAttr.__init__" (kd (af 5) 0) .none m9 86
noncomputable def Ef (P:Params):Obj:=tO [.none]
noncomputable def Eg (P:Params):Obj:=tq ["self","o","t"] 518
noncomputable def Eh (P:Params):Obj:=fN "__get__" "_WallAttr.__get__" (kd (af 5) 1)
noncomputable def Ei (P:Params):Obj:=cF "__get__" "_WallAttr.__get__" 515 11 3 0 0 3 89 521
noncomputable def Ej (P:Params):Obj:=fU none "__get__" "_WallAttr.__get__" (kd (af 5) 1) [] (.ref 88) .none .none m9 none 94 .none
noncomputable def Ek (P:Params):Obj:=tq ["k"] 526
noncomputable def El (P:Params):Obj:=oD [de P "__module__" 502 (.str "__main__" 164),de P "__firstlineno__" 506 (.int 8 505),de P "__init__" 514 (.ref 87),de P "__get__" 523 (.ref 95),de P "__set__" 524 (.ref 95),de P "__delete__" 525 (.ref 95),de P "__static_attributes__" 527 (.ref 96),de P "__dict__" 529 (.ref 99),de P "__weakref__" 531 (.ref 100),de P "__doc__" 532 .none] 4
noncomputable def Em (P:Params):Obj:=⟨(.type "type"),none,.cls ⟨"_WallAttr",[(.type "object")],[(.ref 98),(.type "object")],97,"_WallAttr",true,[],[],false,none,false⟩,#[none,none,some (.str "_WallAttr" 495),some (.str "_WallAttr" 503),some (.builtin "object.__new__"),some (.bool true)]⟩
noncomputable def Eo (P:Params):Obj:=oF "getset_descriptor" [.str "__dict__" 528,.ref 98,.builtin "function.__dict__",.builtin "function.__dict__#set"]
noncomputable def Ep (P:Params):Obj:=oF "getset_descriptor" [.str "__weakref__" 530,.ref 98,.builtin "ExceptionGroup.__weakref__",.none]
noncomputable def Es (P:Params):Obj:=oF "super" [.ref 98,.ref 98,.ref 98]
noncomputable def Et (P:Params):Obj:=oF "builtin_function_or_method" [.builtin "object.__init_subclass__",.ref 98]
noncomputable def Eu (P:Params):Obj:=lO (iq [14,4,0,1,4294967295,7,106,16,48,7,41,16,120,13,11,9,0,67043328,126,126,0,0,0,0,0,23,22,0,4294967295,24,6,0,1,16,95,1,13,11,9,0,67043328,126,126,0,0,0,0,0,18,15,60,29,16,98,13,5,22,48,49,0,23,16,0,4294967295,24,6,0,1,16,95,1,13,5,22,48,49,0,18,15,31,29,16,111,13,5,22,48,55,0,23,16,0,4294967295,24,6,0,1,16,95,1,13,5,22,48,55,0,18,15,2,0,15,134,132,24,11,0,1,13,6,16,43,16,45,0,1,7,5,16,48,15,29,27,13,5,22,49,57,0,23,16,0,4294967295,24,6,0,1,16,95,1,13,5,22,48,57,0,18,15,2,0,17,0,23,29,0,1,16,46,13,5,22,48,57,0,23,16,0,4294967295,24,6,0,1,16,95,1,13,5,22,48,57,0,18,18,23,46,0,1,13,6,16,101,16,69,0,24,11,0,1,13,6,16,43,16,45,0,1,13,5,22,48,57,0,23,16,0,4294967295,24,6,0,1,16,95,1,13,5,22,48,57,0,18,18,17,1,15,2,0,1] 540) 0
noncomputable def Ew (P:Params):Obj:=oD [de P "floatpart" 787 (.int 1 788)] 1
noncomputable def Ey (P:Params):Obj:=tO [.none,.str "floatpart" 790]
noncomputable def Ez (P:Params):Obj:=tO (iz [14,4,0,1,4294967295,7,106,16,48,7,41,16,120,13,11,9,0,67043328,126,126,0,0,0,0,0,23,22,0,4294967295,24,6,0,1,16,95,1,13,11,9,0,67043328,126,126,0,0,0,0,0,18,15,60,29,16,98,13,5,22,48,49,0,23,16,0,4294967295,24,6,0,1,16,95,1,13,5,22,48,49,0,18,15,31,29,16,111,13,5,22,48,55,0,23,16,0,4294967295,24,6,0,1,16,95,1,13,5,22,48,55,0,18,15,2,0,15,134,132,24,11,0,1,13,6,16,43,16,45,0,1,7,5,16,48,15,29,27,13,5,22,49,57,0,23,16,0,4294967295,24,6,0,1,16,95,1,13,5,22,48,57,0,18,15,2,0,17,0,23,29,0,1,16,46,13,5,22,48,57,0,23,16,0,4294967295,24,6,0,1,16,95,1,13,5,22,48,57,0,18,18,23,46,0,1,13,6,16,101,16,69,0,24,11,0,1,13,6,16,43,16,45,0,1,13,5,22,48,57,0,23,16,0,4294967295,24,6,0,1,16,95,1,13,5,22,48,57,0,18,18,17,1,15,2,0,1])
noncomputable def EA (P:Params):Obj:=oF "re.Pattern" [.str (wt (af 7)) 538,.int 96 791,.int 1 0,.ref 104,.ref 105,.ref 106,.int 0 0]
noncomputable def EB (P:Params):Obj:=lO (iq [14,4,0,8,4294967295,17,0,7,15,13,5,22,48,49,0,13,5,22,48,57,0,15,13,11,16,50,13,5,22,48,51,0,15,2,0,17,1,16,58,17,2,13,5,22,48,53,0,13,5,22,48,57,0,17,3,16,58,17,4,13,5,22,48,53,0,13,5,22,48,57,0,17,5,23,31,0,1,16,46,17,6,24,10,1,6,13,5,22,48,57,0,1,17,7,24,10,0,4294967295,13,5,22,48,57,0,1,18,1] 796) 0
noncomputable def EC (P:Params):Obj:=oD [] 0
noncomputable def ED (P:Params):Obj:=tO [.none,.none,.none,.none,.none]
noncomputable def EE (P:Params):Obj:=tO (iz [14,4,0,8,4294967295,17,0,7,15,13,5,22,48,49,0,13,5,22,48,57,0,15,13,11,16,50,13,5,22,48,51,0,15,2,0,17,1,16,58,17,2,13,5,22,48,53,0,13,5,22,48,57,0,17,3,16,58,17,4,13,5,22,48,53,0,13,5,22,48,57,0,17,5,23,31,0,1,16,46,17,6,24,10,1,6,13,5,22,48,57,0,1,17,7,24,10,0,4294967295,13,5,22,48,57,0,1,18,1])
noncomputable def EF (P:Params):Obj:=oF "re.Pattern" [.str (wt (af 8)) 794,.int 32 904,.int 4 0,.none,.none,.ref 111,.int 0 0]
noncomputable def EG (P:Params):Obj:=lO (iq [14,4,0,10,4294967295,17,0,24,10,4,4,13,5,22,48,57,0,1,17,1,16,45,17,2,7,11,16,48,13,5,22,49,57,0,15,13,11,16,49,13,5,22,48,50,0,15,2,0,17,3,16,45,17,4,7,11,16,48,13,5,22,49,57,0,15,28,15,13,5,22,49,50,0,13,5,22,48,57,0,15,13,11,16,51,13,5,22,48,49,0,15,2,0,17,5,23,201,0,1,13,11,9,0,1,1048576,1048576,0,0,0,0,0,17,6,7,15,13,5,22,48,49,0,13,5,22,48,57,0,15,13,11,16,50,13,5,22,48,51,0,15,2,0,17,7,16,58,17,8,13,5,22,48,53,0,13,5,22,48,57,0,17,9,16,58,17,10,13,5,22,48,53,0,13,5,22,48,57,0,17,11,23,31,0,1,16,46,17,12,24,10,1,6,13,5,22,48,57,0,1,17,13,24,10,0,4294967295,13,5,22,48,57,0,1,18,23,83,0,1,7,14,17,14,13,6,16,90,16,122,0,17,15,15,66,64,17,16,13,6,16,43,16,45,0,17,17,17,18,7,15,13,5,22,48,49,0,13,5,22,48,57,0,15,13,11,16,50,13,5,22,48,51,0,15,2,0,17,19,16,58,17,20,13,5,22,48,53,0,13,5,22,48,57,0,17,21,15,2,0,18,18,1] 909) 0
noncomputable def EH (P:Params):Obj:=oD [] 0
noncomputable def EI (P:Params):Obj:=tO [.none,.none,.none,.none,.none,.none,.none,.none,.none,.none,.none,.none]
noncomputable def EJ (P:Params):Obj:=tO (iz [14,4,0,10,4294967295,17,0,24,10,4,4,13,5,22,48,57,0,1,17,1,16,45,17,2,7,11,16,48,13,5,22,49,57,0,15,13,11,16,49,13,5,22,48,50,0,15,2,0,17,3,16,45,17,4,7,11,16,48,13,5,22,49,57,0,15,28,15,13,5,22,49,50,0,13,5,22,48,57,0,15,13,11,16,51,13,5,22,48,49,0,15,2,0,17,5,23,201,0,1,13,11,9,0,1,1048576,1048576,0,0,0,0,0,17,6,7,15,13,5,22,48,49,0,13,5,22,48,57,0,15,13,11,16,50,13,5,22,48,51,0,15,2,0,17,7,16,58,17,8,13,5,22,48,53,0,13,5,22,48,57,0,17,9,16,58,17,10,13,5,22,48,53,0,13,5,22,48,57,0,17,11,23,31,0,1,16,46,17,12,24,10,1,6,13,5,22,48,57,0,1,17,13,24,10,0,4294967295,13,5,22,48,57,0,1,18,23,83,0,1,7,14,17,14,13,6,16,90,16,122,0,17,15,15,66,64,17,16,13,6,16,43,16,45,0,17,17,17,18,7,15,13,5,22,48,49,0,13,5,22,48,57,0,15,13,11,16,50,13,5,22,48,51,0,15,2,0,17,19,16,58,17,20,13,5,22,48,53,0,13,5,22,48,57,0,17,21,15,2,0,18,18,1])
noncomputable def EK (P:Params):Obj:=oF "re.Pattern" [.str (wt (af 9)) 907,.int 96 1209,.int 11 0,.none,.none,.ref 116,.int 0 0]
noncomputable def EL (P:Params):Obj:=tq ["match","year_str","month_str","day_str","hour_str","minute_str","sec_str","micros_str","zulu_time","offset_sign_str","offset_hour_str","offset_minute_str","year","month","day","hour","minute","sec","micros","tz"] 1214
noncomputable def EM (P:Params):Obj:=fN "match_to_datetime" "match_to_datetime" (af 10)
noncomputable def EN (P:Params):Obj:=cF "match_to_datetime" "match_to_datetime" 1211 18 1 0 0 3 118 1234
noncomputable def EO (P:Params):Obj:=fV "match_to_datetime" "match_to_datetime" (af 10) (.str (dm (af 10)) 1236) SS 123
noncomputable def EP (P:Params):Obj:=tq ["__module__","__name__","__qualname__","__doc__","__type_params__"] 1240
noncomputable def ER (P:Params):Obj:=tq ["__dict__"] 1246
noncomputable def ES (P:Params):Obj:=tO [.ref 125,.ref 126]
noncomputable def ET (P:Params):Obj:=tq ["wrapper","wrapped","assigned","updated","value","update"] 1251
noncomputable def EU (P:Params):Obj:=fN "update_wrapper" "update_wrapper" (af 14)
noncomputable def EV (P:Params):Obj:=cF "update_wrapper" "update_wrapper" 1248 40 4 0 0 3 128 1257
noncomputable def EW (P:Params):Obj:=fU none "update_wrapper" "update_wrapper" (af 14) [] (.ref 127) .none (.str (dm (af 14)) 1259) jW none 133 .none
noncomputable def EX (P:Params):Obj:=tO [.type "tuple"]
noncomputable def EY (P:Params):Obj:=oF "builtin_function_or_method" [.builtin "type.__prepare__",.type "type"]
noncomputable def EZ (P:Params):Obj:=oD [de P "__module__" 1268 (.str "functools" 1238),de P "__qualname__" 1270 (.str "CacheInfo" 1269),de P "__firstlineno__" 1272 (.int 96 1271),de P "__doc__" 1274 (.str (dm (af 15)) 1273),de P "__slots__" 1276 (.ref 142),de P "_fields" 1281 (.ref 143),de P "_field_defaults" 1282 (.ref 144),de P "__new__" 1294 (.ref 151),de P "_make" 1316 (.ref 160),de P "_replace" 1326 (.ref 168),de P "__replace__" 1327 (.ref 168),de P "__repr__" 1335 (.ref 175),de P "_asdict" 1342 (.ref 182),de P "__getnewargs__" 1350 (.ref 189),de P "__match_args__" 1355 (.ref 190),de P "hits" 1358 (.ref 191),de P "misses" 1361 (.ref 192),de P "maxsize" 1364 (.ref 193),de P "currsize" 1367 (.ref 194),de P "__static_attributes__" 1368 (.ref 195)] 20
noncomputable def E0 (P:Params):Obj:=⟨.none,none,.fields #[(.int 102 0),(.int 4 0),(.ref 150),(.int 107 0),(.int 4 0),(.ref 157),(.int 114 0),(.int 4 0),(.ref 167),(.int 122 0),(.int 4 0),(.ref 174),(.int 126 0),(.int 4 0),(.ref 181),(.int 129 0),(.int 4 0),(.ref 188)],#[]⟩
noncomputable def E1 (P:Params):Obj:=cC "CacheInfo" "CacheInfo" 1263 96 138 1266
noncomputable def E2 (P:Params):Obj:=fR 140 137 jW
noncomputable def E3 (P:Params):Obj:=tq ["hits","misses","maxsize","currsize"] 1277
noncomputable def E4 (P:Params):Obj:=oD [] 0
noncomputable def E5 (P:Params):Obj:=tq ["_cls","hits","misses","maxsize","currsize"] 1286
noncomputable def E6 (P:Params):Obj:=fN "__new__" "CacheInfo.__new__" (kd (af 15) 4)
noncomputable def E7 (P:Params):Obj:=cF "__new__" "CacheInfo.__new__" 1283 102 5 0 0 3 145 1291
noncomputable def E8 (P:Params):Obj:=fV "__new__" "CacheInfo.__new__" (kd (af 15) 4) (.str (dm (kd (af 15) 4)) 1293) jW 150
noncomputable def E9 (P:Params):Obj:=tq ["cls","iterable","result"] 1298
noncomputable def Fb (P:Params):Obj:=fN "_make" "CacheInfo._make" (kd (af 15) 5)
noncomputable def Fc (P:Params):Obj:=cF "_make" "CacheInfo._make" 1295 106 2 0 0 3 152 1301
noncomputable def Fd (P:Params):Obj:=fU none "_make" "CacheInfo._make" (kd (af 15) 5) [] .none .none (.str (dm (kd (af 15) 5)) 1303) jW (some 161) 157 .none
noncomputable def Fe (P:Params):Obj:=oD [de P "__module__" 1305 (.str "functools" 1238),de P "__name__" 1308 (.str "_make" 1307),de P "__qualname__" 1311 (.str "CacheInfo._make" 1310),de P "__doc__" 1313 (.str (dm (kd (af 15) 5)) 1303),de P "__annotations__" 1315 (.ref 161)] 5
noncomputable def Ff (P:Params):Obj:=⟨(.type "classmethod"),(some 159),.fields #[(.ref 158),(.bool false)],#[]⟩
noncomputable def Fg (P:Params):Obj:=oD [] 0
noncomputable def Fh (P:Params):Obj:=tq ["self","kwds","result"] 1320
noncomputable def Fi (P:Params):Obj:=fN "_replace" "CacheInfo._replace" (kd (af 15) 6)
noncomputable def Fj (P:Params):Obj:=cF "_replace" "CacheInfo._replace" 1317 114 1 1 0 11 162 1323
noncomputable def Fm (P:Params):Obj:=fV "_replace" "CacheInfo._replace" (kd (af 15) 6) (.str (dm (kd (af 15) 6)) 1325) jW 167
noncomputable def Fo (P:Params):Obj:=tq ["self"] 1331
noncomputable def Fp (P:Params):Obj:=fN "__repr__" "CacheInfo.__repr__" (kd (af 15) 8)
noncomputable def Fq (P:Params):Obj:=cF "__repr__" "CacheInfo.__repr__" 1328 122 1 0 0 3 169 1332
noncomputable def Fs (P:Params):Obj:=fV "__repr__" "CacheInfo.__repr__" (kd (af 15) 8) (.str (dm (kd (af 15) 8)) 1334) jW 174
noncomputable def Ft (P:Params):Obj:=tq ["self"] 1339
noncomputable def Fu (P:Params):Obj:=fN "_asdict" "CacheInfo._asdict" (kd (af 15) 9)
noncomputable def Fv (P:Params):Obj:=cF "_asdict" "CacheInfo._asdict" 1336 126 1 0 0 3 176 1340
noncomputable def Fw (P:Params):Obj:=fV "_asdict" "CacheInfo._asdict" (kd (af 15) 9) .none jW 181
noncomputable def Fz (P:Params):Obj:=tq ["self"] 1346
noncomputable def FA (P:Params):Obj:=fN "__getnewargs__" "CacheInfo.__getnewargs__" (kd (af 15) 10)
noncomputable def FC (P:Params):Obj:=cF "__getnewargs__" "CacheInfo.__getnewargs__" 1343 129 1 0 0 3 183 1347
noncomputable def FD (P:Params):Obj:=fV "__getnewargs__" "CacheInfo.__getnewargs__" (kd (af 15) 10) (.str (dm (kd (af 15) 10)) 1349) jW 188
noncomputable def FE (P:Params):Obj:=tq ["hits","misses","maxsize","currsize"] 1351
noncomputable def FF (P:Params):Obj:=oF "collections._tuplegetter" [.int 0 0,.str "Alias for field number 0" 1357,.bool true]
noncomputable def FG (P:Params):Obj:=oF "collections._tuplegetter" [.int 1 0,.str "Alias for field number 1" 1360,.bool true]
noncomputable def FH (P:Params):Obj:=oF "collections._tuplegetter" [.int 2 0,.str "Alias for field number 2" 1363,.bool true]
noncomputable def FI (P:Params):Obj:=oF "collections._tuplegetter" [.int 3 0,.str "Alias for field number 3" 1366,.bool true]
noncomputable def FJ (P:Params):Obj:=lO [] 0
noncomputable def FK (P:Params):Obj:=oD [de P "__module__" 1268 (.str "functools" 1238),de P "__firstlineno__" 1272 (.int 96 1271),de P "__doc__" 1274 (.str (dm (af 15)) 1273),de P "__slots__" 1276 (.ref 142),de P "_fields" 1281 (.ref 143),de P "_field_defaults" 1282 (.ref 144),de P "__new__" 1294 (.ref 199),de P "_make" 1316 (.ref 160),de P "_replace" 1326 (.ref 168),de P "__replace__" 1327 (.ref 168),de P "__repr__" 1335 (.ref 175),de P "_asdict" 1342 (.ref 182),de P "__getnewargs__" 1350 (.ref 189),de P "__match_args__" 1355 (.ref 190),de P "hits" 1358 (.ref 191),de P "misses" 1361 (.ref 192),de P "maxsize" 1364 (.ref 193),de P "currsize" 1367 (.ref 194),de P "__static_attributes__" 1368 (.ref 195)] 1
noncomputable def FL (P:Params):Obj:=⟨(.type "type"),none,.cls ⟨"CacheInfo",[(.type "tuple")],[(.ref 198),(.type "tuple"),(.type "object")],197,"CacheInfo",false,[],[],false,none,false⟩,#[some (.ref 135),none,some (.str "CacheInfo" 1261),some (.str "CacheInfo" 1269),some .none,some (.bool false)]⟩
noncomputable def FN (P:Params):Obj:=oF "staticmethod" [.ref 151]
noncomputable def FO (P:Params):Obj:=oF "super" [.ref 198,.ref 198,.ref 198]
noncomputable def FP (P:Params):Obj:=oF "builtin_function_or_method" [.builtin "object.__init_subclass__",.ref 198]
noncomputable def FQ (P:Params):Obj:=tO [.int 128 1373,.bool false]
noncomputable def FR (P:Params):Obj:=tq ["maxsize","typed","user_function","wrapper","decorating_function"] 1377
noncomputable def FT (P:Params):Obj:=tq ["maxsize","typed"] 1382
noncomputable def FU (P:Params):Obj:=fN "lru_cache" "lru_cache" (af 17)
noncomputable def FV (P:Params):Obj:=cF "lru_cache" "lru_cache" 1374 138 2 0 0 3 203 1384
noncomputable def FW (P:Params):Obj:=fU none "lru_cache" "lru_cache" (af 17) [] (.ref 202) .none .none jW none 208 .none
noncomputable def FX (P:Params):Obj:=⟨.none,none,.fields #[(.int 150 0),(.int 4 0),(.ref 219)],#[]⟩
noncomputable def FY (P:Params):Obj:=⟨(.type "frame"),none,.dict #[de P "decorating_function" 1399 (.ref 220)] 1,#[]⟩
noncomputable def FZ (P:Params):Obj:=⟨(.type "cell"),none,.cell (some .none),#[]⟩
noncomputable def F0 (P:Params):Obj:=⟨(.type "cell"),none,.cell (some (.bool false)),#[]⟩
noncomputable def F5 (P:Params):Obj:=tO [.ref 211,.ref 212]
noncomputable def F7 (P:Params):Obj:=tq ["maxsize","typed"] 1393
noncomputable def F8 (P:Params):Obj:=⟨.none,none,.fields #[(.int 152 0),(.int 35 0),(.ref 239)],#[]⟩
noncomputable def F9 (P:Params):Obj:=tq ["user_function","wrapper"] 1395
noncomputable def Ga (P:Params):Obj:=fN "decorating_function" "lru_cache.<locals>.decorating_function" (kd (af 17) 1)
noncomputable def Gb (P:Params):Obj:=cF "decorating_function" "lru_cache.<locals>.decorating_function" 1390 150 1 0 0 19 214 1397
noncomputable def Gd (P:Params):Obj:=fU none "decorating_function" "lru_cache.<locals>.decorating_function" (kd (af 17) 1) [("typed",212),("maxsize",211)] .none .none .none rQ none 219 (.ref 213)
noncomputable def Ge (P:Params):Obj:=tq ["hour_str","minute_str","sign_str","sign"] 1403
noncomputable def Gf (P:Params):Obj:=fN "cached_tz" "cached_tz" (af 19)
noncomputable def Gg (P:Params):Obj:=cF "cached_tz" "cached_tz" 1400 156 3 0 0 3 221 1407
noncomputable def Gh (P:Params):Obj:=fU (some 245) "cached_tz" "cached_tz" (af 19) [] .none .none .none rQ none 226 .none
noncomputable def Gi (P:Params):Obj:=⟨(.type "frame"),none,.dict #[de P "user_function" 1409 (.ref 227),de P "wrapper" 1410 (.ref 232)] 2,#[]⟩
noncomputable def Gj (P:Params):Obj:=⟨.none,none,.dict #[] 0,#[]⟩
noncomputable def Gk (P:Params):Obj:=⟨.none,none,.fields #[(.int 0 0),(.int 0 0)],#[]⟩
noncomputable def Gl (P:Params):Obj:=⟨(.type "object"),none,.plain,#[]⟩
noncomputable def Gm (P:Params):Obj:=⟨(.type "functools._lru_cache_wrapper"),(some 241),.fields #[(.ref 227),(.int (-1) 0),(.bool false),(.ref 198),(.ref 229),(.ref 230),.none,(.ref 231)],#[]⟩
noncomputable def Gn (P:Params):Obj:=tO [.ref 211,.ref 212]
noncomputable def Gp (P:Params):Obj:=tq ["maxsize","typed"] 1414
noncomputable def Gq (P:Params):Obj:=⟨.none,none,.func ⟨"<lambda>","lru_cache.<locals>.decorating_function.<locals>.<lambda>",(CP m8),(.expr (CQ m8)),(CR m8),0,[],.none,.none,.none,.none,none,.none,.none,0⟩,#[]⟩
noncomputable def Gr (P:Params):Obj:=cF "<lambda>" "lru_cache.<locals>.decorating_function.<locals>.<lambda>" 1411 152 0 0 0 19 234 1416
noncomputable def Gs (P:Params):Obj:=⟨(.type "function"),none,.func ⟨"<lambda>","lru_cache.<locals>.decorating_function.<locals>.<lambda>",(CP m8),(.expr (CQ m8)),(CR m8),3,[("typed",212),("maxsize",211)],.none,.none,.none,(.str "cpy313.tomllib._re" 1387),none,(.ref 239),(.ref 233),0⟩,#[]⟩
noncomputable def Gu (P:Params):Obj:=oD [de P "cache_parameters" 1419 (.ref 240),de P "__module__" 1429 (.str "cpy313.tomllib._re" 1387),de P "__name__" 1434 (.str "cached_tz" 1431),de P "__qualname__" 1439 (.str "cached_tz" 1436),de P "__doc__" 1443 .none,de P "__type_params__" 1447 (.ref 243),de P "__wrapped__" 1454 (.ref 227)] 7
noncomputable def Gv (P:Params):Obj:=⟨(.type "frame"),none,.dict #[de P "wrapper" 1420 (.ref 232),de P "wrapped" 1421 (.ref 227),de P "assigned" 1422 (.ref 125),de P "updated" 1423 (.ref 126),de P "value" 1426 (.ref 245),de P "update" 1450 (.ref 244)] 6,#[]⟩
noncomputable def Gw (P:Params):Obj:=oF "builtin_function_or_method" [.builtin "dict.update",.ref 241]
noncomputable def Gy (P:Params):Obj:=oD [] 0
noncomputable def Gz (P:Params):Obj:=tq ["match","hour_str","minute_str","sec_str","micros_str","micros"] 1459
noncomputable def GA (P:Params):Obj:=fN "match_to_localtime" "match_to_localtime" (af 20)
noncomputable def GB (P:Params):Obj:=cF "match_to_localtime" "match_to_localtime" 1456 160 1 0 0 3 246 1465
noncomputable def GC (P:Params):Obj:=fV "match_to_localtime" "match_to_localtime" (af 20) .none rQ 251
noncomputable def GD (P:Params):Obj:=tq ["match","parse_float"] 1471
noncomputable def GF (P:Params):Obj:=fN "match_to_number" "match_to_number" (af 21)
noncomputable def GG (P:Params):Obj:=cF "match_to_number" "match_to_number" 1468 164 2 0 0 3 253 1473
noncomputable def GH (P:Params):Obj:=fV "match_to_number" "match_to_number" (af 21) .none rQ 258
noncomputable def GI (P:Params):Obj:=oF "builtin_function_or_method" [.builtin "type.__prepare__",.type "type"]
noncomputable def GJ (P:Params):Obj:=oD [de P "__module__" 1485 (.str "cpy313.tomllib._parser" 1476),de P "__qualname__" 1487 (.str "_tuplegetter" 1486),de P "__firstlineno__" 1489 (.int 169 1488),de P "__init__" 1498 (.ref 273),de P "__get__" 1507 (.ref 281),de P "__set__" 1516 (.ref 288),de P "__delete__" 1524 (.ref 295),de P "__static_attributes__" 1527 (.ref 296)] 8
noncomputable def GK (P:Params):Obj:=⟨.none,none,.fields #[(.int 171 0),(.int 4 0),(.ref 272),(.int 175 0),(.int 4 0),(.ref 280),(.int 182 0),(.int 4 0),(.ref 287),(.int 185 0),(.int 4 0),(.ref 294)],#[]⟩
noncomputable def GL (P:Params):Obj:=cC "_tuplegetter" "_tuplegetter" 1480 169 263 1483
noncomputable def GN (P:Params):Obj:=fR 265 262 pE
noncomputable def GO (P:Params):Obj:=tq ["self","index","doc"] 1493
noncomputable def GP (P:Params):Obj:=fN "__init__" "_tuplegetter.__init__" (kd (af 23) 0)
noncomputable def GQ (P:Params):Obj:=cF "__init__" "_tuplegetter.__init__" 1490 171 3 0 0 3 267 1496
noncomputable def GR (P:Params):Obj:=fV "__init__" "_tuplegetter.__init__" (kd (af 23) 0) .none pE 272
noncomputable def wz (P:Params):Obj:=tO [.none]
noncomputable def GS (P:Params):Obj:=tq ["self","obj","objtype"] 1502
noncomputable def GU (P:Params):Obj:=fN "__get__" "_tuplegetter.__get__" (kd (af 23) 1)
noncomputable def GV (P:Params):Obj:=cF "__get__" "_tuplegetter.__get__" 1499 175 3 0 0 3 275 1505
noncomputable def wA (P:Params):Obj:=fU none "__get__" "_tuplegetter.__get__" (kd (af 23) 1) [] (.ref 274) .none .none pE none 280 .none
noncomputable def GW (P:Params):Obj:=tq ["self","obj","value"] 1511
noncomputable def GX (P:Params):Obj:=fN "__set__" "_tuplegetter.__set__" (kd (af 23) 2)
noncomputable def GY (P:Params):Obj:=cF "__set__" "_tuplegetter.__set__" 1508 182 3 0 0 3 282 1514
noncomputable def GZ (P:Params):Obj:=fV "__set__" "_tuplegetter.__set__" (kd (af 23) 2) .none pE 287
noncomputable def G0 (P:Params):Obj:=tq ["self","obj"] 1520
noncomputable def G1 (P:Params):Obj:=fN "__delete__" "_tuplegetter.__delete__" (kd (af 23) 3)
noncomputable def G2 (P:Params):Obj:=cF "__delete__" "_tuplegetter.__delete__" 1517 185 2 0 0 3 289 1522
noncomputable def G3 (P:Params):Obj:=fV "__delete__" "_tuplegetter.__delete__" (kd (af 23) 3) .none pE 294
noncomputable def G4 (P:Params):Obj:=tq ["__doc__","index"] 1525
noncomputable def G5 (P:Params):Obj:=oD [de P "__module__" 1485 (.str "cpy313.tomllib._parser" 1476),de P "__firstlineno__" 1489 (.int 169 1488),de P "__init__" 1498 (.ref 273),de P "__get__" 1507 (.ref 281),de P "__set__" 1516 (.ref 288),de P "__delete__" 1524 (.ref 295),de P "__static_attributes__" 1527 (.ref 296),de P "__dict__" 1529 (.ref 299),de P "__weakref__" 1531 (.ref 300),de P "__doc__" 1532 .none] 4
noncomputable def G6 (P:Params):Obj:=⟨(.type "type"),none,.cls ⟨"_tuplegetter",[(.type "object")],[(.ref 298),(.type "object")],297,"_tuplegetter",true,[],[],false,none,false⟩,#[none,none,some (.str "_tuplegetter" 1478),some (.str "_tuplegetter" 1486),some (.builtin "object.__new__"),some (.bool true)]⟩
noncomputable def G7 (P:Params):Obj:=oF "getset_descriptor" [.str "__dict__" 1528,.ref 298,.builtin "function.__dict__",.builtin "function.__dict__#set"]
noncomputable def G8 (P:Params):Obj:=oF "getset_descriptor" [.str "__weakref__" 1530,.ref 298,.builtin "ExceptionGroup.__weakref__",.none]
noncomputable def G9 (P:Params):Obj:=oF "super" [.ref 298,.ref 298,.ref 298]
noncomputable def Ha (P:Params):Obj:=oF "builtin_function_or_method" [.builtin "object.__init_subclass__",.ref 298]
noncomputable def Hb (P:Params):Obj:=oF "range" [.int 0 1539,.int 32 1538,.int 1 1540]
noncomputable def Hc (P:Params):Obj:=oF "range_iterator" [.int 32 0,.int 0 0,.int 1 0]
noncomputable def Hd (P:Params):Obj:=oF "code" [.str "<genexpr>" 1541,.str "<genexpr>" 1542,.str "/claim/cut.py" 1543,.int 189 0,.int 1 0,.int 0 0,.int 0 0,.int 35 0,.ref 305,.bool true,.int 482 0,.ref 306,.none,.none,.none,.none,.int 1544 0,.int 189 0,.str "/claim/cut.py" 1545]
noncomputable def He (P:Params):Obj:=⟨(.type "frame"),none,.dict #[de P ".0" 1546 (.ref 304),de P "i" 1550 (.int 31 1673)] 2,#[]⟩
noncomputable def Hf (P:Params):Obj:=oF "generator" [.int 0 0,.str "<genexpr>" 1547,.str "<genexpr>" 1548]
noncomputable def Hg (P:Params):Obj:=oF "StopIteration" [.ref 311,.none,.none,.none,.bool false,.none]
noncomputable def Hh (P:Params):Obj:=oF "StopIteration" [.ref 313,.none,.none,.none,.bool false,.none]
noncomputable def Hi (P:Params):Obj:=oF "str_ascii_iterator" [.none,.int 1 0]
noncomputable def Hj (P:Params):Obj:=oF "StopIteration" [.ref 317,.none,.none,.none,.bool false,.none]
noncomputable def Hk (P:Params):Obj:=oF "str_ascii_iterator" [.none,.int 1 0]
noncomputable def Hl (P:Params):Obj:=oF "StopIteration" [.ref 322,.none,.none,.none,.bool false,.none]
noncomputable def Hm (P:Params):Obj:=oF "str_ascii_iterator" [.none,.int 2 0]
noncomputable def Hn (P:Params):Obj:=oF "StopIteration" [.ref 327,.none,.none,.none,.bool false,.none]
noncomputable def Ho (P:Params):Obj:=oF "str_ascii_iterator" [.none,.int 2 0]
noncomputable def Hp (P:Params):Obj:=oF "StopIteration" [.ref 332,.none,.none,.none,.bool false,.none]
noncomputable def Hq (P:Params):Obj:=oF "str_ascii_iterator" [.none,.int 1 0]
noncomputable def Hr (P:Params):Obj:=oF "StopIteration" [.ref 336,.none,.none,.none,.bool false,.none]
noncomputable def Hs (P:Params):Obj:=oF "str_ascii_iterator" [.none,.int 64 0]
noncomputable def Ht (P:Params):Obj:=oF "StopIteration" [.ref 341,.none,.none,.none,.bool false,.none]
noncomputable def Hu (P:Params):Obj:=oF "str_ascii_iterator" [.none,.int 2 0]
noncomputable def Hv (P:Params):Obj:=oF "StopIteration" [.ref 345,.none,.none,.none,.bool false,.none]
noncomputable def Hw (P:Params):Obj:=oF "str_ascii_iterator" [.none,.int 22 0]
noncomputable def Hx (P:Params):Obj:=oF "StopIteration" [.ref 350,.none,.none,.none,.bool false,.none]
noncomputable def Hy (P:Params):Obj:=oF "mappingproxy" [.ref 97]
noncomputable def rR (P:Params):Obj:=oD [de P ⟨#[92,98]⟩ 1907 (.str ⟨#[8]⟩ 1908),de P ⟨#[92,116]⟩ 1909 (.str ⟨#[9]⟩ 1910),de P ⟨#[92,110]⟩ 1911 (.str ⟨#[10]⟩ 1912),de P ⟨#[92,102]⟩ 1913 (.str ⟨#[12]⟩ 1914),de P ⟨#[92,114]⟩ 1915 (.str ⟨#[13]⟩ 1916),de P ⟨#[92,34]⟩ 1917 (.str ⟨#[34]⟩ 1918),de P ⟨#[92,92]⟩ 1919 (.str ⟨#[92]⟩ 1920)] 7
noncomputable def Hz (P:Params):Obj:=oF "mappingproxy" [.ref 353]
noncomputable def HA (P:Params):Obj:=oD [de P "parse_float" 1949 (.type "float")] 1
noncomputable def HB (P:Params):Obj:=fU none "loads" "loads" (af 47) [] .none (.ref 368) (.str (dm (af 47)) 1963) bT none 374 .none
noncomputable def HC (P:Params):Obj:=fV "__init__" "Flags.__init__" (kd (af 48) 3) .none bT 388
noncomputable def HD (P:Params):Obj:=fV "finalize_pending" "Flags.finalize_pending" (kd (af 48) 5) .none bT 402
noncomputable def HE (P:Params):Obj:=fV "set" "Flags.set" (kd (af 48) 7) .none bT 416
noncomputable def HF (P:Params):Obj:=fV "is_" "Flags.is_" (kd (af 48) 8) .none bT 423
noncomputable def HG (P:Params):Obj:=fV "__init__" "NestedDict.__init__" (kd (af 49) 0) .none bT 444
noncomputable def HH (P:Params):Obj:=oD [de P "access_lists" 2074 (.bool true)] 1
noncomputable def HI (P:Params):Obj:=fU none "get_or_create_nest" "NestedDict.get_or_create_nest" (kd (af 49) 1) [] .none (.ref 446) .none bT none 452 .none
noncomputable def HJ (P:Params):Obj:=fV "__new__" "Output.__new__" (kd (af 50) 4) (.str (dm (kd (af 50) 4)) 2134) bT 484
noncomputable def HK (P:Params):Obj:=oD [de P "index" 2202 (.int 0 2196),de P "__doc__" 2204 (.str "Alias for field number 0" 2197)] 2
noncomputable def HL (P:Params):Obj:=⟨(.ref 298),(some 526),.plain,#[]⟩
noncomputable def HM (P:Params):Obj:=oD [de P "index" 2212 (.int 1 2206),de P "__doc__" 2214 (.str "Alias for field number 1" 2207)] 2
noncomputable def HN (P:Params):Obj:=⟨(.ref 298),(some 529),.plain,#[]⟩
noncomputable def HO (P:Params):Obj:=⟨(.type "type"),none,.cls ⟨"Output",[(.type "tuple")],[(.ref 535),(.type "tuple"),(.type "object")],534,"Output",false,[],[],false,none,false⟩,#[some (.ref 468),none,some (.str "Output" 2106),some (.str "Output" 2114),some .none,some (.bool false)]⟩
noncomputable def HP (P:Params):Obj:=fV "skip_chars" "skip_chars" (af 51) .none bT 544
noncomputable def HQ (P:Params):Obj:=fV "skip_until" "skip_until" (af 52) .none bT 551
noncomputable def HR (P:Params):Obj:=fV "skip_comment" "skip_comment" (af 53) .none bT 558
noncomputable def HS (P:Params):Obj:=fV "create_dict_rule" "create_dict_rule" (af 55) .none bT 572
noncomputable def HT (P:Params):Obj:=fV "parse_key" "parse_key" (af 59) .none bT 600
noncomputable def HU (P:Params):Obj:=fV "parse_key_part" "parse_key_part" (af 60) .none bT 607
noncomputable def HV (P:Params):Obj:=fV "parse_one_line_basic_str" "parse_one_line_basic_str" (af 61) .none bT 614
noncomputable def HW (P:Params):Obj:=oD [de P "multiline" 2370 (.bool false)] 1
noncomputable def HX (P:Params):Obj:=fU none "parse_basic_str_escape" "parse_basic_str_escape" (af 64) [] .none (.ref 630) .none bT none 636 .none
noncomputable def HY (P:Params):Obj:=fV "parse_literal_str" "parse_literal_str" (af 67) .none bT 657
noncomputable def HZ (P:Params):Obj:=fV "parse_basic_str" "parse_basic_str" (af 69) .none bT 671
noncomputable def H0 (P:Params):Obj:=cF "suffixed_err" "suffixed_err" 2454 683 3 0 0 3 680 2461
noncomputable def wB (P:Params):Obj:=fV "suffixed_err" "suffixed_err" (af 71) (.str (dm (af 71)) 2463) bT 685
noncomputable def H2 (P:Params):Obj:=fV "make_safe_parse_float" "make_safe_parse_float" (af 73) (.str (dm (af 73)) 2480) bT 699
noncomputable def H3 (P:Params):Obj:=tO [.ref 701]
noncomputable def H4 (P:Params):Obj:=fU none "reduce" "reduce" (af 76) [] (.ref 702) .none (.str (dm (af 76)) 2496) SU none 708 .none
noncomputable def H5 (P:Params):Obj:=fV "fspath" "fspath" (af 85) .none SW 781
noncomputable def H6 (P:Params):Obj:=fV "_get_sep" "_get_sep" (af 89) .none wx 795
noncomputable def H7 (P:Params):Obj:=fV "join" "join" (af 90) (.str (dm (af 90)) 2629) wx 802
noncomputable def H8 (P:Params):Obj:=fV "split" "split" (af 91) (.str (dm (af 91)) 2641) wx 809
noncomputable def H9 (P:Params):Obj:=fV "_law_names" "_law_names" (af 93) .none nc 816
noncomputable def Ia (P:Params):Obj:=fV "_law_tidy" "_law_tidy" (af 94) .none nc 823
noncomputable def Ib (P:Params):Obj:=fV "_law_written" "_law_written" (af 95) .none nc 830
noncomputable def Ic (P:Params):Obj:=fV "_law_key" "_law_key" (af 96) .none nc 835
noncomputable def Ie (P:Params):Obj:=fV "_law_ends" "_law_ends" (af 97) .none nc 842
noncomputable def Ig (P:Params):Obj:=fV "law" "law" (af 98) .none nc 847
noncomputable def rS (P:Params) (env:Nat→az):BT:=(.node (C2 P) (.node (wy P) (.node (oD (de P "__name__" 165 (.str "__main__" 164)::CT P) 17) (.node tE (.node tE (.node (Dv P) .nil .nil) (.node (DK P) .nil .nil)) (.node (Dm P) (.node (DD P) .nil .nil) (.node (DS P) .nil .nil))) (.node (C9 P) (.node (Di P) (.node (Dz P) .nil .nil) (.node (DO P) .nil .nil)) (.node (Dr P) (.node (DG P) .nil .nil) (.node (DW P) .nil .nil)))) (.node (C5 P) (.node (C7 P) (.node (Dg P) (.node (Dx P) .nil .nil) (.node (DM P) .nil .nil)) (.node (Dp P) (.node (DE P) .nil .nil) (.node (DU P) .nil .nil))) (.node (Dd P) (.node (Dk P) (.node (DB P) .nil .nil) (.node (DQ P) .nil .nil)) (.node (Dt P) (.node (DI P) .nil .nil) (.node (DY P) .nil .nil))))) (.node (C3 P) (.node (C4 P) (.node nE (.node (Df P) (.node (Dw P) .nil .nil) (.node (DL P) .nil .nil)) (.node (Dn P) (.node tE .nil .nil) (.node (DT P) .nil .nil))) (.node (Dc P) (.node (Dj P) (.node (DA P) .nil .nil) (.node (DP P) .nil .nil)) (.node (Ds P) (.node (DH P) .nil .nil) (.node (DX P) .nil .nil)))) (.node (C6 P) (.node (C8 P) (.node (Dh P) (.node (Dy P) .nil .nil) (.node (DN P) .nil .nil)) (.node (Dq P) (.node (DF P) .nil .nil) (.node (DV P) .nil .nil))) (.node (De P) (.node (Dl P) (.node (DC P) .nil .nil) (.node (DR P) .nil .nil)) (.node (Du P) (.node (DJ P) .nil .nil) (.node (DZ P) .nil .nil))))))
noncomputable def S1 (P:Params):List Ent:=[]
noncomputable def S2:List (Nat×Nat):=[]
noncomputable def S0 (P:Params) (env:Nat→az):ST:=⟨rS P env,63,{},#[],{},482,{},S2,S1 P⟩
noncomputable def Ih (P:Params) (env:Nat→az):BT:=jV (rS P env) 63 [tE,nE,D0 P,D1 P]
noncomputable def S6 (P:Params):List Ent:=[]
noncomputable def S7:List (Nat×Nat):=[]
noncomputable def SP (P:Params) (env:Nat→az):ST:=⟨Ih P env,67,{},#[],{},488,{},S7,S6 P⟩
noncomputable def Ii (P:Params) (env:Nat→az):BT:=jV (kT (Ih P env) [(3,oD (de P "__name__" 165 (.str "cpy313.tomllib._re" 535)::CU P) 19),(64,⟨.none,none,.fields #[(.int 5 0),(.int 0 0),(.ref 72),(.int 8 0),(.int 0 0),(.ref 79)],#[]⟩)]) 67 [tE,nE,D2 P,tE,D3 P,D4 P,D5 P,tE,D6 P,D7 P,tE,D8 P,D9 P,Ea P,tE,nE,Eb P,tE,Ec P,Ed P,Ee P,Ef P,tE,nE,Eg P,tE,Eh P,Ei P,Ej P,Ek P,El P,Em P,Eo P,Ep P,Es P,Et P]
noncomputable def S8 (P:Params):List Ent:=[]
noncomputable def S9:List (Nat×Nat):=[]
noncomputable def S3 (P:Params) (env:Nat→az):ST:=⟨Ii P env,103,{},#[],{},537,{},S9,S8 P⟩
noncomputable def Ij (P:Params) (env:Nat→az):BT:=jV (kT (Ii P env) [(3,oD (de P "__name__" 165 (.str "cpy313.tomllib._re" 535)::CV P) 20)]) 103 [Eu P,Ew P,Ey P,Ez P,EA P]
noncomputable def Ta (P:Params):List Ent:=[]
noncomputable def Tb:List (Nat×Nat):=[]
noncomputable def S4 (P:Params) (env:Nat→az):ST:=⟨Ij P env,108,{},#[],{},793,{},Tb,Ta P⟩
noncomputable def Ik (P:Params) (env:Nat→az):BT:=jV (kT (Ij P env) [(3,oD (de P "__name__" 165 (.str "cpy313.tomllib._re" 535)::CW P) 21)]) 108 [EB P,EC P,ED P,EE P,EF P]
noncomputable def Tc (P:Params):List Ent:=[]
noncomputable def Td:List (Nat×Nat):=[]
noncomputable def S5 (P:Params) (env:Nat→az):ST:=⟨Ik P env,113,{},#[],{},906,{},Td,Tc P⟩
noncomputable def Il (P:Params) (env:Nat→az):BT:=jV (kT (Ik P env) [(3,oD (de P "__name__" 165 (.str "cpy313.tomllib._re" 1387)::CY P) 29),(64,⟨.none,none,.fields #[(.int 5 0),(.int 0 0),(.ref 72),(.int 8 0),(.int 0 0),(.ref 79),(.int 18 0),(.int 0 0),(.ref 123),(.int 40 0),(.int 0 0),(.ref 133),(.int 96 0),(.int 0 0),(.ref 140),(.int 138 0),(.int 0 0),(.ref 208)],#[]⟩)]) 113 [EG P,EH P,EI P,EJ P,EK P,tE,nE,EL P,tE,EM P,EN P,EO P,EP P,ER P,ES P,tE,nE,ET P,tE,EU P,EV P,EW P,EX P,EY P,EZ P,tE,E0 P,E1 P,E2 P,tE,E3 P,E4 P,tE,nE,E5 P,tE,E6 P,E7 P,E8 P,tE,nE,E9 P,tE,Fb P,Fc P,Fd P,Fe P,Ff P,Fg P,tE,nE,Fh P,tE,Fi P,Fj P,Fm P,tE,nE,Fo P,tE,Fp P,Fq P,Fs P,tE,nE,Ft P,tE,Fu P,Fv P,Fw P,tE,nE,Fz P,tE,FA P,FC P,FD P,FE P,FF P,FG P,FH P,FI P,tE,FJ P,FK P,FL P,FN P,FO P,FP P,FQ P,tE,nE,FR P,FT P,FU P,FV P,FW P]
noncomputable def Te (P:Params):List Ent:=[]
noncomputable def Tf:List (Nat×Nat):=[]
noncomputable def nf (P:Params) (env:Nat→az):ST:=⟨Il P env,210,{},#[],{},1389,{},Tf,Te P⟩
noncomputable def Im (P:Params) (env:Nat→az):BT:=jV (kT (Il P env) [(3,oD (de P "__name__" 165 (.str "cpy313.tomllib._re" 1387)::CZ P) 30),(64,⟨.none,none,.fields #[(.int 5 0),(.int 0 0),(.ref 72),(.int 8 0),(.int 0 0),(.ref 79),(.int 18 0),(.int 0 0),(.ref 123),(.int 40 0),(.int 0 0),(.ref 133),(.int 96 0),(.int 0 0),(.ref 140),(.int 138 0),(.int 0 0),(.ref 208),(.int 157 0),(.int 0 0),(.ref 226)],#[]⟩),(204,FX P)]) 210 [FY P,FZ P,F0 P,F5 P,F7 P,F8 P,F9 P,tE,Ga P,Gb P,Gd P,tE,nE,Ge P,tE,Gf P,Gg P,Gh P,Gi P,Gj P,Gk P,Gl P,Gm P,Gn P,Gp P,nE,tE,tE,Gq P,Gr P,Gs P,Gu P,Gv P,tE,Gw P,Gy P]
noncomputable def Tg (P:Params):List Ent:=[]
noncomputable def Th:List (Nat×Nat):=[]
noncomputable def ng (P:Params) (env:Nat→az):ST:=⟨Im P env,246,{},#[],{},1456,{},Th,Tg P⟩
noncomputable def Io (P:Params) (env:Nat→az):BT:=jV (kT (Im P env) [(3,oD (de P "__name__" 165 (.str "cpy313.tomllib._parser" 1476)::C0 P) 35),(64,⟨.none,none,.fields #[(.int 5 0),(.int 0 0),(.ref 72),(.int 8 0),(.int 0 0),(.ref 79),(.int 18 0),(.int 0 0),(.ref 123),(.int 40 0),(.int 0 0),(.ref 133),(.int 96 0),(.int 0 0),(.ref 140),(.int 138 0),(.int 0 0),(.ref 208),(.int 157 0),(.int 0 0),(.ref 226),(.int 160 0),(.int 0 0),(.ref 251),(.int 164 0),(.int 0 0),(.ref 258),(.int 169 0),(.int 0 0),(.ref 265)],#[]⟩)]) 246 [tE,nE,Gz P,tE,GA P,GB P,GC P,tE,nE,GD P,tE,GF P,GG P,GH P,tE,GI P,GJ P,tE,GK P,GL P,GN P,tE,nE,GO P,tE,GP P,GQ P,GR P,wz P,tE,nE,GS P,tE,GU P,GV P,wA P,tE,nE,GW P,tE,GX P,GY P,GZ P,tE,nE,G0 P,tE,G1 P,G2 P,G3 P,G4 P,G5 P,G6 P,G7 P,G8 P,G9 P,Ha P]
noncomputable def Ti (P:Params):List Ent:=[]
noncomputable def Tj:List (Nat×Nat):=[]
noncomputable def jX (P:Params) (env:Nat→az):ST:=⟨Io P env,303,{},#[],{},1538,{},Tj,Ti P⟩
noncomputable def Ip (P:Params) (env:Nat→az):BT:=jV (kT (Io P env) [(3,oD (de P "__name__" 165 (.str "cpy313.tomllib._parser" 1476)::C1 P) 36),(64,⟨.none,none,.fields #[(.int 5 0),(.int 0 0),(.ref 72),(.int 8 0),(.int 0 0),(.ref 79),(.int 18 0),(.int 0 0),(.ref 123),(.int 40 0),(.int 0 0),(.ref 133),(.int 96 0),(.int 0 0),(.ref 140),(.int 138 0),(.int 0 0),(.ref 208),(.int 157 0),(.int 0 0),(.ref 226),(.int 160 0),(.int 0 0),(.ref 251),(.int 164 0),(.int 0 0),(.ref 258),(.int 169 0),(.int 0 0),(.ref 265),(.int 189 0),(.int 23 0),(.ref 307)],#[]⟩)]) 303 [Hb P,Hc P,tE,nE,Hd P,He P,Hf P,fz (env 32),tE,Hg P,tE,Hh P,fz (env 34),Hi P,tE,Hj P,fz (env 35)]
noncomputable def Iq (P:Params):List Ent:=[.or 32 34 315,eA P 33 ⟨#[127]⟩ 1679,i7 (!P.followText "set-order"),eA P 31 ⟨#[31]⟩ 1675,eA P 30 ⟨#[30]⟩ 1671,eA P 29 ⟨#[29]⟩ 1667,eA P 28 ⟨#[28]⟩ 1663,eA P 27 ⟨#[27]⟩ 1659,eA P 26 ⟨#[26]⟩ 1655,eA P 25 ⟨#[25]⟩ 1651,eA P 24 ⟨#[24]⟩ 1647,eA P 23 ⟨#[23]⟩ 1643,eA P 22 ⟨#[22]⟩ 1639,eA P 21 ⟨#[21]⟩ 1635,eA P 20 ⟨#[20]⟩ 1631,eA P 19 ⟨#[19]⟩ 1627,eA P 18 ⟨#[18]⟩ 1623,eA P 17 ⟨#[17]⟩ 1619,eA P 16 ⟨#[16]⟩ 1615,eA P 15 ⟨#[15]⟩ 1611,eA P 14 ⟨#[14]⟩ 1607,eA P 13 ⟨#[13]⟩ 1603,eA P 12 ⟨#[12]⟩ 1599,eA P 11 ⟨#[11]⟩ 1595,eA P 10 ⟨#[10]⟩ 1591,eA P 9 ⟨#[9]⟩ 1587,eA P 8 ⟨#[8]⟩ 1583,eA P 7 ⟨#[7]⟩ 1579,eA P 6 ⟨#[6]⟩ 1575,eA P 5 ⟨#[5]⟩ 1571,eA P 4 ⟨#[4]⟩ 1567,eA P 3 ⟨#[3]⟩ 1563,eA P 2 ⟨#[2]⟩ 1559,eA P 1 ⟨#[1]⟩ 1555,eA P 0 ⟨#[0]⟩ 1551,i7 (!P.followText "set-order")]
noncomputable def Ir:List (Nat×Nat):=[(319,35),(315,34),(315,33),(310,32),(310,31),(310,30),(310,29),(310,28),(310,27),(310,26),(310,25),(310,24),(310,23),(310,22),(310,21),(310,20),(310,19),(310,18),(310,17),(310,16),(310,15),(310,14),(310,13),(310,12),(310,11),(310,10),(310,9),(310,8),(310,7),(310,6),(310,5),(310,4),(310,3),(310,2),(310,1),(310,0)]
noncomputable def g0 (P:Params) (env:Nat→az):ST:=⟨Ip P env,320,{},#[.finished],{},1682,{},Ir,Iq P⟩
noncomputable def Tn (P:Params) (env:Nat→az):BT:=jV (kT (Ip P env) [(3,oD (de P "__name__" 165 (.str "cpy313.tomllib._parser" 1905)::SY P) 53)]) 320 [fz (env 37),Hk P,tE,Hl P,fz (env 38),fz (env 41),Hm P,tE,Hn P,fz (env 42),fz (env 45),Ho P,tE,Hp P,fz (env 47),Hq P,tE,Hr P,fz (env 48),fz (env 113),Hs P,tE,Ht P,fz (env 116),Hu P,tE,Hv P,fz (env 117),fz (env 140),Hw P,tE,Hx P,Hy P,rR P,Hz P]
noncomputable def It (P:Params):List Ent:=[eA P 139 "F" 1898,eA P 138 "E" 1896,eA P 137 "D" 1894,eA P 136 "C" 1892,eA P 135 "B" 1890,eA P 134 "A" 1888,eA P 133 "f" 1886,eA P 132 "e" 1884,eA P 131 "d" 1882,eA P 130 "c" 1880,eA P 129 "b" 1878,eA P 128 "a" 1876,eA P 127 "9" 1874,eA P 126 "8" 1872,eA P 125 "7" 1870,eA P 124 "6" 1868,eA P 123 "5" 1866,eA P 122 "4" 1864,eA P 121 "3" 1862,eA P 120 "2" 1860,eA P 119 "1" 1858,eA P 118 "0" 1856,i7 (!P.followText "set-order"),.or 113 116 343,eA P 115 "'" 1853,eA P 114 ⟨#[34]⟩ 1851,i7 (!P.followText "set-order"),eA P 112 "_" 1847,eA P 111 "-" 1845,eA P 110 "9" 1843,eA P 109 "8" 1841,eA P 108 "7" 1839,eA P 107 "6" 1837,eA P 106 "5" 1835,eA P 105 "4" 1833,eA P 104 "3" 1831,eA P 103 "2" 1829,eA P 102 "1" 1827,eA P 101 "0" 1825,eA P 100 "Z" 1823,eA P 99 "Y" 1821,eA P 98 "X" 1819,eA P 97 "W" 1817,eA P 96 "V" 1815,eA P 95 "U" 1813,eA P 94 "T" 1811,eA P 93 "S" 1809,eA P 92 "R" 1807,eA P 91 "Q" 1805,eA P 90 "P" 1803,eA P 89 "O" 1801,eA P 88 "N" 1799,eA P 87 "M" 1797,eA P 86 "L" 1795,eA P 85 "K" 1793,eA P 84 "J" 1791,eA P 83 "I" 1789,eA P 82 "H" 1787,eA P 81 "G" 1785,eA P 80 "F" 1783,eA P 79 "E" 1781,eA P 78 "D" 1779,eA P 77 "C" 1777,eA P 76 "B" 1775,eA P 75 "A" 1773,eA P 74 "z" 1771,eA P 73 "y" 1769,eA P 72 "x" 1767,eA P 71 "w" 1765,eA P 70 "v" 1763,eA P 69 "u" 1761,eA P 68 "t" 1759,eA P 67 "s" 1757,eA P 66 "r" 1755,eA P 65 "q" 1753,eA P 64 "p" 1751,eA P 63 "o" 1749,eA P 62 "n" 1747,eA P 61 "m" 1745,eA P 60 "l" 1743,eA P 59 "k" 1741,eA P 58 "j" 1739,eA P 57 "i" 1737,eA P 56 "h" 1735,eA P 55 "g" 1733,eA P 54 "f" 1731,eA P 53 "e" 1729,eA P 52 "d" 1727,eA P 51 "c" 1725,eA P 50 "b" 1723,eA P 49 "a" 1721,i7 (!P.followText "set-order"),.or 45 47 334,eA P 46 ⟨#[10]⟩ 1702,i7 (!P.followText "set-order"),eA P 44 ⟨#[9]⟩ 1698,eA P 43 " " 1696,i7 (!P.followText "set-order"),.sub 35 41 325,eA P 40 ⟨#[10]⟩ 1689,eA P 39 ⟨#[9]⟩ 1687,i7 (!P.followText "set-order"),.sub 35 37 320,eA P 36 ⟨#[9]⟩ 1683,i7 (!P.followText "set-order")]++Iq P
noncomputable def Iu:List (Nat×Nat):=[(348,140),(348,139),(348,138),(348,137),(348,136),(348,135),(348,134),(348,133),(348,132),(348,131),(348,130),(348,129),(348,128),(348,127),(348,126),(348,125),(348,124),(348,123),(348,122),(348,121),(348,120),(348,119),(348,118),(347,117),(343,116),(343,115),(343,114),(339,113),(339,112),(339,111),(339,110),(339,109),(339,108),(339,107),(339,106),(339,105),(339,104),(339,103),(339,102),(339,101),(339,100),(339,99),(339,98),(339,97),(339,96),(339,95),(339,94),(339,93),(339,92),(339,91),(339,90),(339,89),(339,88),(339,87),(339,86),(339,85),(339,84),(339,83),(339,82),(339,81),(339,80),(339,79),(339,78),(339,77),(339,76),(339,75),(339,74),(339,73),(339,72),(339,71),(339,70),(339,69),(339,68),(339,67),(339,66),(339,65),(339,64),(339,63),(339,62),(339,61),(339,60),(339,59),(339,58),(339,57),(339,56),(339,55),(339,54),(339,53),(339,52),(339,51),(339,50),(339,49),(338,48),(334,47),(334,46),(330,45),(330,44),(330,43),(329,42),(325,41),(325,40),(325,39),(324,38),(320,37),(320,36)]++Ir
noncomputable def ni (P:Params) (env:Nat→az):ST:=⟨Tn P env,355,{},#[.finished],{},1929,{},Iu,It P⟩
noncomputable def kU (P:Params) (env:Nat→az):BT:=(.node (C2 P) (.node (wy P) (.node (oD [de P "__name__" 165 (.str "law_in0144_01" 2643),de P "__doc__" 166 .none,de P "__package__" 167 .none,de P "__loader__" 168 (.builtin "__main__.__loader__#opaque"),de P "__spec__" 169 .none,de P "__annotations__" 170 (.ref 6),de P "__builtins__" 171 (.ref 4),de P "__file__" 173 (.str "/claim/cut.py" 172),de P "__cached__" 174 .none,de P "_sre" 275 (.ref 12),de P "tuplegetter_collections" 317 (.type "collections._tuplegetter"),de P "date" 429 (.type "datetime.date"),de P "datetime" 432 (.type "datetime.datetime"),de P "time" 435 (.type "datetime.time"),de P "timedelta" 438 (.type "datetime.timedelta"),de P "timezone" 441 (.type "datetime.timezone"),de P "_lru_cache_wrapper" 481 (.type "functools._lru_cache_wrapper"),de P "_wall" 494 (.ref 73),de P "_WallAttr" 534 (.ref 98),de P "RE_NUMBER" 792 (.ref 107),de P "RE_LOCALTIME" 905 (.ref 112),de P "RE_DATETIME" 1210 (.ref 117),de P "match_to_datetime" 1237 (.ref 124),de P "WRAPPER_ASSIGNMENTS" 1245 (.ref 125),de P "WRAPPER_UPDATES" 1247 (.ref 126),de P "update_wrapper" 1260 (.ref 134),de P "CacheInfo" 1371 (.ref 198),de P "_CacheInfo" 1372 (.ref 198),de P "lru_cache" 1386 (.ref 209),de P "cached_tz" 1455 (.ref 232),de P "match_to_localtime" 1467 (.ref 252),de P "match_to_number" 1475 (.ref 259),de P "_tuplegetter" 1534 (.ref 298),de P "tuplegetter_parser" 1535 (.ref 298),de P "MAX_KEY_PARTS" 1537 (.int 1000 1536),de P "ASCII_CTRL" 1681 (.ref 319),de P "ILLEGAL_BASIC_STR_CHARS" 1685 (.ref 324),de P "ILLEGAL_MULTILINE_BASIC_STR_CHARS" 1691 (.ref 329),de P "ILLEGAL_LITERAL_STR_CHARS" 1692 (.ref 324),de P "ILLEGAL_MULTILINE_LITERAL_STR_CHARS" 1693 (.ref 329),de P "ILLEGAL_COMMENT_CHARS" 1694 (.ref 324),de P "TOML_WS" 1700 (.ref 330),de P "TOML_WS_AND_NEWLINE" 1704 (.ref 338),de P "ascii_lowercase" 1706 (.str "abcdefghijklmnopqrstuvwxyz" 1705),de P "ascii_uppercase" 1708 (.str "ABCDEFGHIJKLMNOPQRSTUVWXYZ" 1707),de P "ascii_letters" 1710 (.str "abcdefghijklmnopqrstuvwxyzABCDEFGHIJKLMNOPQRSTUVWXYZ" 1709),de P "digits" 1712 (.str "0123456789" 1711),de P "hexdigits" 1717 (.str "0123456789abcdefABCDEF" 1716),de P "BARE_KEY_CHARS" 1849 (.ref 339),de P "KEY_INITIAL_CHARS" 1855 (.ref 347),de P "HEXDIGIT_CHARS" 1900 (.ref 348),de P "MappingProxyType" 1904 (.type "mappingproxy"),de P "BASIC_STR_ESCAPE_REPLACEMENTS" 1928 (.ref 354),de P "TOMLDecodeError" 1948 (.ref 364),de P "loads" 1964 (.ref 375),de P "Flags" 2054 (.ref 427),de P "NestedDict" 2105 (.ref 463),de P "Output" 2220 (.ref 535),de P "skip_chars" 2229 (.ref 545),de P "skip_until" 2241 (.ref 552),de P "skip_comment" 2250 (.ref 559),de P "skip_comments_and_array_ws" 2259 (.ref 566),de P "create_dict_rule" 2269 (.ref 573),de P "create_list_rule" 2279 (.ref 580),de P "key_value_rule" 2299 (.ref 587),de P "parse_key_value_pair" 2311 (.ref 594),de P "parse_key" 2322 (.ref 601),de P "parse_key_part" 2332 (.ref 608),de P "parse_one_line_basic_str" 2340 (.ref 615),de P "parse_array" 2352 (.ref 622),de P "parse_inline_table" 2369 (.ref 629),de P "parse_basic_str_escape" 2381 (.ref 637),de P "parse_basic_str_escape_multiline" 2389 (.ref 644),de P "parse_hex_char" 2400 (.ref 651),de P "parse_literal_str" 2409 (.ref 658),de P "parse_multiline_str" 2421 (.ref 665),de P "parse_basic_str" 2436 (.ref 672),de P "parse_value" 2453 (.ref 679),de P "suffixed_err" 2464 (.ref 686),de P "is_unicode_scalar_value" 2471 (.ref 693),de P "make_safe_parse_float" 2481 (.ref 700),de P "_initial_missing" 2484 (.ref 701),de P "reduce" 2497 (.ref 709),de P "_plain_name" 2508 (.ref 716),de P "ABCMeta" 2534 (.ref 733),de P "_ABCLike" 2577 (.ref 766),de P "_abc_plain_meta" 2584 (.ref 775),de P "fspath" 2596 (.ref 782),de P "_check_arg_types" 2609 (.ref 789),de P "_get_sep" 2618 (.ref 796),de P "join" 2630 (.ref 803),de P "split" 2642 (.ref 810),de P "_law_names" 2655 (.ref 817),de P "_law_tidy" 2665 (.ref 824),de P "_law_written" 2674 (.ref 831),de P "_law_key" 2680 (.ref 836),de P "_law_ends" 2690 (.ref 843),de P "law" 2696 (.ref 848)] 98) (.node tE (.node tE (.node (Dv P) (.node tE (.node (ES P) (.node (GD P) (.node tE .nil .nil) (.node (oF "super" [.ref 766,.ref 766,.ref 766]) .nil .nil)) (.node tE (.node nE .nil .nil) .nil)) (.node (FF P) (.node (fz (env 35)) (.node nE .nil .nil) (.node (Ib P) .nil .nil)) (.node tE (.node tE .nil .nil) .nil))) (.node (Ej P) (.node (Fe P) (.node (GY P) (.node (fN "skip_chars" "skip_chars" (af 51)) .nil .nil) (.node (tq ["a","p","sep","path","b"] 2622) .nil .nil)) (.node (fN "set" "Flags.set" (kd (af 48) 7)) (.node (cF "parse_basic_str" "parse_basic_str" 2422 610 2 0 1 3 666 2434) .nil .nil) .nil)) (.node (Ge P) (.node (Hx P) (.node (cF "parse_key_part" "parse_key_part" 2323 487 2 0 0 3 602 2330) .nil .nil) .nil) (.node tE (.node (oF "builtin_function_or_method" [.builtin "object.__init_subclass__",.ref 733]) .nil .nil) .nil)))) (.node (DK P) (.node (D9 P) (.node (E3 P) (.node (GP P) (.node (HL P) .nil .nil) (.node tE .nil .nil)) (.node (tq ["self","key","flag"] 2003) (.node tE .nil .nil) .nil)) (.node (FU P) (.node (Hq P) (.node tE .nil .nil) (.node (oF "code" [.str "law" 2691,.str "law" 2692,.str "/claim/cut.py" 2693,.int 872 0,.int 1 0,.int 0 0,.int 0 0,.int 3 0,.ref 844,.bool true,.int 482 0,.ref 845,.none,.none,.none,.ref 846,.int 2694 0,.int 872 0,.str "/claim/cut.py" 2695]) .nil .nil)) (.node ⟨(.type "type"),none,.cls ⟨"NestedDict",[(.type "object")],[(.ref 463),(.type "object")],462,"NestedDict",true,[],[],false,none,false⟩,#[none,none,some (.str "NestedDict" 2055),some (.str "NestedDict" 2063),some (.builtin "object.__new__"),some (.bool true)]⟩ (.node (oD [de P "__module__" 2518 (.str "abc" 2509),de P "__qualname__" 2520 (.str "ABCMeta" 2519),de P "__firstlineno__" 2522 (.int 749 2521),de P "register" 2530 (.ref 730),de P "__static_attributes__" 2531 (.ref 731)] 5) .nil .nil) .nil))) (.node (EE P) (.node (Fs P) (.node (Hb P) (.node (HR P) .nil .nil) (.node (fN "_law_names" "_law_names" (af 93)) .nil .nil)) (.node (oF "builtin_function_or_method" [.builtin "object.__init_subclass__",.ref 427]) (.node tE .nil .nil) .nil)) (.node (Gr P) (.node (oF "builtin_function_or_method" [.builtin "object.__init_subclass__",.ref 364]) (.node tE .nil .nil) .nil) (.node (oD [] 0) (.node nE .nil .nil) .nil))))) (.node (Dm P) (.node (DD P) (.node (D3 P) (.node (EX P) (.node tE (.node nE .nil .nil) (.node (fV "_abc_plain_meta" "_abc_plain_meta" (af 83) .none pF 774) .nil .nil)) (.node nE (.node (tq ["src","pos","hex_len","hex_str","hex_int"] 2393) .nil .nil) .nil)) (.node (FN P) (.node tE (.node (tq ["src","pos","out","header","parse_float","value","key_parent","key_stem","abs_key_parent","relative_path_cont_keys","cont_key","nest"] 2283) .nil .nil) (.node (tq ["nest","way","told","name"] 2684) .nil .nil)) (.node nE (.node nE .nil .nil) .nil))) (.node (Eu P) (.node (Fj P) (.node (G3 P) (.node (cF "skip_until" "skip_until" 2230 380 3 0 2 3 546 2239) .nil .nil) (.node tE .nil .nil)) (.node (cF "is_" "Flags.is_" 2033 288 3 0 0 3 418 2043) (.node (fV "parse_value" "parse_value" (af 70) .none bT 678) .nil .nil) .nil)) (.node (Gl P) (.node nE (.node (HV P) .nil .nil) .nil) (.node nE (.node tE .nil .nil) .nil)))) (.node (DS P) (.node (Ee P) (.node (E8 P) (.node (GU P) (.node (HO P) .nil .nil) (.node nE .nil .nil)) (.node tE (.node (fN "parse_multiline_str" "parse_multiline_str" (af 68)) .nil .nil) .nil)) (.node (F8 P) (.node (fz (env 116)) (.node (fN "parse_key" "parse_key" (af 59)) .nil .nil) .nil) (.node ⟨(.type "cell"),none,.cell (some (.ref 535)),#[]⟩ (.node tE .nil .nil) .nil))) (.node nE (.node tE (.node tE (.node tE .nil .nil) (.node (cF "_law_tidy" "_law_tidy" 2656 848 1 0 0 3 818 2663) .nil .nil)) (.node tE (.node nE .nil .nil) .nil)) (.node nE (.node (HB P) (.node tE .nil .nil) .nil) (.node (fU none "_replace" "Output._replace" (kd (af 50) 6) [("__class__",471)] .none .none (.str (dm (kd (af 50) 6)) 2167) bT none 502 (.ref 496)) (.node (tq ["cls","subclass"] 2569) .nil .nil) .nil)))))) (.node (C9 P) (.node (Di P) (.node (Dz P) (.node tE (.node tE (.node (GH P) (.node (fN "_asdict" "Output._asdict" (kd (af 50) 9)) .nil .nil) (.node (tq ["C"] 2581) .nil .nil)) (.node (fN "__init__" "Flags.__init__" (kd (af 48) 3)) (.node (cF "parse_basic_str_escape_multiline" "parse_basic_str_escape_multiline" 2382 575 2 0 0 3 638 2387) .nil .nil) .nil)) (.node tE (.node (Hl P) (.node (cF "create_list_rule" "create_list_rule" 2270 421 3 0 0 3 574 2277) .nil .nil) (.node (oF "code" [.str "_law_key" 2675,.str "_law_key" 2676,.str "/claim/cut.py" 2677,.int 863 0,.int 2 0,.int 0 0,.int 0 0,.int 3 0,.ref 832,.bool true,.int 482 0,.ref 833,.none,.none,.none,.ref 834,.int 2678 0,.int 863 0,.str "/claim/cut.py" 2679]) .nil .nil)) (.node (fN "get_or_create_nest" "NestedDict.get_or_create_nest" (kd (af 49) 1)) (.node (fN "reduce" "reduce" (af 76)) .nil .nil) .nil))) (.node (Eo P) (.node nE (.node (G0 P) (.node nE .nil .nil) (.node (H7 P) .nil .nil)) (.node nE (.node (tq ["src","pos","parse_float","char","datetime_match","datetime_obj","e","localtime_match","number_match","first_three","first_four"] 2440) .nil .nil) .nil)) (.node (Gh P) (.node (tO [.type "ValueError"]) (.node (tq ["src","pos"] 2336) .nil .nil) .nil) (.node (fN "__new__" "Output.__new__" (kd (af 50) 4)) (.node tE .nil .nil) .nil)))) (.node (DO P) (.node (Eb P) (.node (E5 P) (.node tE (.node ⟨(.type "frame"),none,.dict #[de P "self" 2208 (.ref 530),de P "index" 2209 (.int 1 2206),de P "doc" 2210 (.str "Alias for field number 1" 2207)] 3,#[]⟩ .nil .nil) (.node (fN "_check_arg_types" "_check_arg_types" (af 87)) .nil .nil)) (.node (HD P) (.node tE .nil .nil) .nil)) (.node (FZ P) (.node (fz (env 113)) (.node tE .nil .nil) .nil) (.node (oF "builtin_function_or_method" [.builtin "object.__init_subclass__",.ref 463]) (.node (fR 722 719 CS) .nil .nil) .nil))) (.node (EI P) (.node tE (.node (Hd P) (.node tE .nil .nil) (.node nE .nil .nil)) (.node tE (.node (fN "is_unicode_scalar_value" "is_unicode_scalar_value" (af 72)) .nil .nil) .nil)) (.node tE (.node (tq ["s","parse_float","src","pos","out","header","char","second_char"] 1953) (.node (fN "parse_inline_table" "parse_inline_table" (af 63)) .nil .nil) .nil) (.node (tq ["self","kwds","result"] 2162) (.node (cF "__subclasscheck__" "_ABCLike.__subclasscheck__" 2558 762 2 0 0 3 750 2563) .nil .nil) .nil))))) (.node (Dr P) (.node (DG P) (.node (D6 P) (.node (E0 P) (.node tE (.node (cF "__getnewargs__" "Output.__getnewargs__" 2185 367 1 0 0 3 518 2189) .nil .nil) (.node tE .nil .nil)) (.node (cF "add_pending" "Flags.add_pending" 1991 261 3 0 0 3 390 1997) (.node (fV "parse_hex_char" "parse_hex_char" (af 66) .none bT 650) .nil .nil) .nil)) (.node tE (.node (Ho P) (.node (fV "key_value_rule" "key_value_rule" (af 57) .none bT 586) .nil .nil) (.node (Ie P) .nil .nil)) (.node (cF "append_nest_to_list" "NestedDict.append_nest_to_list" 2086 321 2 0 0 3 454 2094) (.node (cF "_plain_name" "_plain_name" 2500 743 2 0 0 3 710 2506) .nil .nil) .nil))) (.node (EA P) (.node (Fo P) (.node (G7 P) (.node (tq ["src","pos","char"] 2245) .nil .nil) (.node tE .nil .nil)) (.node ⟨(.type "type"),none,.cls ⟨"Flags",[(.type "object")],[(.ref 427),(.type "object")],426,"Flags",true,[],[],false,none,false⟩,#[none,none,some (.str "Flags" 1965),some (.str "Flags" 1973),some (.builtin "object.__new__"),some (.bool true)]⟩ (.node tE .nil .nil) .nil)) (.node nE (.node (oD [de P "__module__" 1936 (.str "cpy313.tomllib._parser" 1905),de P "__firstlineno__" 1940 (.int 209 1939),de P "__doc__" 1942 (.str (dm (af 46)) 1941),de P "__static_attributes__" 1944 (.ref 362),de P "__weakref__" 1946 (.ref 365)] 2) (.node tE .nil .nil) .nil) (.node (cF "_make" "Output._make" 2136 341 2 0 0 3 486 2142) (.node (fN "__instancecheck__" "_ABCLike.__instancecheck__" (kd (af 82) 0)) .nil .nil) .nil)))) (.node (DW P) (.node (Eg P) (.node tE (.node nE (.node tE .nil .nil) (.node (cF "_get_sep" "_get_sep" 2612 802 1 0 0 3 790 2616) .nil .nil)) (.node tE (.node nE .nil .nil) .nil)) (.node (Gb P) (.node (fz (env 117)) (.node nE .nil .nil) .nil) (.node (fR 474 470 bT) (.node tE .nil .nil) .nil))) (.node (EN P) (.node (FA P) (.node (fz (env 34)) (.node (fN "create_dict_rule" "create_dict_rule" (af 55)) .nil .nil) (.node (tq ["name","dress","inner"] 2669) .nil .nil)) (.node (fN "__init__" "NestedDict.__init__" (kd (af 49) 0)) (.node (cF "make_safe_parse_float" "make_safe_parse_float" 2472 699 1 0 0 3 694 2478) .nil .nil) .nil)) (.node (GB P) (.node tE (.node (fN "parse_basic_str_escape" "parse_basic_str_escape" (af 64)) .nil .nil) .nil) (.node tE (.node (fV "register" "_ABCLike.register" (kd (af 82) 2) .none pF 762) .nil .nil) .nil))))))) (.node (C5 P) (.node (C7 P) (.node (Dg P) (.node (Dx P) (.node (D0 P) (.node nE (.node (GF P) (.node (tq ["self"] 2181) .nil .nil) (.node tE .nil .nil)) (.node (tq ["self"] 1987) (.node tE .nil .nil) .nil)) (.node (FH P) (.node (Hk P) (.node tE .nil .nil) (.node nE .nil .nil)) (.node (tq ["self","key","access_lists","cont","k"] 2078) (.node (tq ["function","sequence","initial","it","value","element"] 2488) .nil .nil) .nil))) (.node (El P) (.node (Fg P) (.node tE (.node (HP P) .nil .nil) (.node (fN "join" "join" (af 90)) .nil .nil)) (.node (HE P) (.node tE .nil .nil) .nil)) (.node (Gf P) (.node (rR P) (.node tE .nil .nil) .nil) (.node (tq ["_cls","data","flags"] 2129) (.node (oF "builtin_function_or_method" [.builtin "type.__prepare__",.type "type"]) .nil .nil) .nil)))) (.node (DM P) (.node tE (.node tE (.node (GR P) (.node (HM P) .nil .nil) (.node (tq ["funcname","args","hasstr","hasbytes","s"] 2602) .nil .nil)) (.node (fN "finalize_pending" "Flags.finalize_pending" (kd (af 48) 5)) (.node (cF "parse_literal_str" "parse_literal_str" 2401 586 2 0 0 3 652 2407) .nil .nil) .nil)) (.node (FW P) (.node (Hr P) (.node (cF "parse_key_value_pair" "parse_key_value_pair" 2300 457 3 0 0 3 588 2309) .nil .nil) .nil) (.node (oF "getset_descriptor" [.str "__weakref__" 2101,.ref 463,.builtin "ExceptionGroup.__weakref__",.none]) (.node ⟨.none,none,.fields #[(.int 751 0),(.int 4 0),(.ref 729)],#[]⟩ .nil .nil) .nil))) (.node (EG P) (.node nE (.node tE (.node nE .nil .nil) (.node (H9 P) .nil .nil)) (.node (oF "builtin_function_or_method" [.builtin "type.__prepare__",.type "type"]) (.node (tq ["codepoint"] 2468) .nil .nil) .nil)) (.node (Gu P) (.node tE (.node (tq ["src","pos","parse_float","nested_dict","flags","key","value","key_parent","key_stem","nest","c"] 2356) .nil .nil) .nil) (.node (tq ["__class__"] 2161) (.node tE .nil .nil) .nil))))) (.node (Dp P) (.node (DE P) (.node (D5 P) (.node (EZ P) (.node (GL P) (.node tE .nil .nil) (.node nE .nil .nil)) (.node tE (.node (fN "parse_hex_char" "parse_hex_char" (af 66)) .nil .nil) .nil)) (.node (FP P) (.node (fz (env 42)) (.node (fN "key_value_rule" "key_value_rule" (af 57)) .nil .nil) (.node (fN "_law_ends" "_law_ends" (af 97)) .nil .nil)) (.node tE (.node tE .nil .nil) .nil))) (.node (Ey P) (.node tE (.node (G5 P) (.node tE .nil .nil) (.node (cF "split" "split" 2631 828 1 0 0 3 804 2639) .nil .nil)) (.node (tq ["_flags","_pending_flags"] 2046) (.node nE .nil .nil) .nil)) (.node (Gn P) (.node (fR 360 357 bT) (.node nE .nil .nil) .nil) (.node tE (.node (tq ["cls","instance","C"] 2552) .nil .nil) .nil)))) (.node (DU P) (.node tE (.node nE (.node (wA P) (.node (oF "super" [.ref 535,.ref 535,.ref 535]) .nil .nil) (.node tE .nil .nil)) (.node (cF "unset_all" "Flags.unset_all" 2009 269 2 0 0 3 404 2016) (.node (fV "parse_multiline_str" "parse_multiline_str" (af 68) .none bT 664) .nil .nil) .nil)) (.node tE (.node tE (.node (HT P) .nil .nil) .nil) (.node ⟨.none,none,.fields #[(.int 337 0),(.int 4 0),(.ref 484),(.int 342 0),(.int 4 0),(.ref 491),(.int 349 0),(.int 4 0),(.ref 502),(.int 360 0),(.int 4 0),(.ref 509),(.int 364 0),(.int 4 0),(.ref 516),(.int 367 0),(.int 4 0),(.ref 523)],#[]⟩ (.node (cF "register" "ABCMeta.register" 2523 751 2 0 0 3 724 2528) .nil .nil) .nil))) (.node tE (.node (Fz P) (.node tE (.node (tq ["src","pos","out","key"] 2263) .nil .nil) (.node tE .nil .nil)) (.node (tq ["self"] 2070) (.node (tq ["parse_float"] 2477) .nil .nil) .nil)) (.node tE (.node (oF "builtin_function_or_method" [.builtin "type.__prepare__",.type "type"]) (.node (tq ["src","pos","multiline","escape_id","char"] 2374) .nil .nil) .nil) (.node nE (.node (fN "register" "_ABCLike.register" (kd (af 82) 2)) .nil .nil) .nil)))))) (.node (Dd P) (.node (Dk P) (.node (DB P) (.node (D2 P) (.node (EV P) (.node (GI P) (.node (fV "_asdict" "Output._asdict" (kd (af 50) 9) .none bT 516) .nil .nil) (.node (fN "_abc_plain_meta" "_abc_plain_meta" (af 83)) .nil .nil)) (.node (HC P) (.node tE .nil .nil) .nil)) (.node (FK P) (.node (fz (env 41)) (.node tE .nil .nil) (.node tE .nil .nil)) (.node (HI P) (.node (H4 P) .nil .nil) .nil))) (.node (Es P) (.node tE (.node (G1 P) (.node tE .nil .nil) (.node nE .nil .nil)) (.node tE (.node (fN "parse_value" "parse_value" (af 70)) .nil .nil) .nil)) (.node (Gj P) (.node (oD [de P "__module__" 1936 (.str "cpy313.tomllib._parser" 1905),de P "__qualname__" 1938 (.str "TOMLDecodeError" 1937),de P "__firstlineno__" 1940 (.int 209 1939),de P "__doc__" 1942 (.str (dm (af 46)) 1941),de P "__static_attributes__" 1944 (.ref 362)] 5) (.node (fN "parse_one_line_basic_str" "parse_one_line_basic_str" (af 61)) .nil .nil) .nil) (.node (HJ P) (.node (cC "_ABCLike" "_ABCLike" 2539 754 739 2542) .nil .nil) .nil)))) (.node (DQ P) (.node (Ec P) (.node (E6 P) (.node (GS P) (.node (lO [] 0) .nil .nil) (.node (fV "_check_arg_types" "_check_arg_types" (af 87) .none SX 788) .nil .nil)) (.node nE (.node (tq ["src","pos","literal","delim","end_pos","result"] 2413) .nil .nil) .nil)) (.node (F5 P) (.node tE (.node (tq ["src","pos","key_part","key","char"] 2315) .nil .nil) .nil) (.node (oF "builtin_function_or_method" [.builtin "type.__prepare__",.type "type"]) (.node nE .nil .nil) .nil))) (.node (EK P) (.node (Fv P) (.node (Hf P) (.node (cF "skip_comments_and_array_ws" "skip_comments_and_array_ws" 2251 400 2 0 0 3 560 2257) .nil .nil) (.node tE .nil .nil)) (.node (cC "NestedDict" "NestedDict" 2057 304 435 2060) (.node (fV "is_unicode_scalar_value" "is_unicode_scalar_value" (af 72) .none bT 692) .nil .nil) .nil)) (.node (Gy P) (.node (fN "loads" "loads" (af 47)) (.node (fV "parse_inline_table" "parse_inline_table" (af 63) .none bT 628) .nil .nil) .nil) (.node (fN "_replace" "Output._replace" (kd (af 50) 6)) (.node tE .nil .nil) .nil))))) (.node (Dt P) (.node (DI P) (.node tE (.node (E2 P) (.node (GO P) (.node (tq ["data","flags"] 2193) .nil .nil) (.node (cF "fspath" "fspath" 2587 773 1 0 0 3 776 2594) .nil .nil)) (.node tE (.node nE .nil .nil) .nil)) (.node (FR P) (.node (Hp P) (.node nE .nil .nil) (.node nE .nil .nil)) (.node (tq ["dict"] 2097) (.node (tO [.type "type"]) .nil .nil) .nil))) (.node (EC P) (.node (Fp P) (.node (G9 P) (.node (fN "skip_comment" "skip_comment" (af 53)) .nil .nil) (.node (tq ["path","names","left","head","tail"] 2648) .nil .nil)) (.node (oF "getset_descriptor" [.str "__weakref__" 2051,.ref 427,.builtin "ExceptionGroup.__weakref__",.none]) (.node (H0 P) .nil .nil) .nil)) (.node tE (.node (oF "getset_descriptor" [.str "__weakref__" 1945,.ref 364,.builtin "ExceptionGroup.__weakref__",.none]) (.node (cF "parse_array" "parse_array" 2341 504 3 0 0 3 616 2350) .nil .nil) .nil) (.node (oD [de P "__module__" 2146 (.str "cpy313.tomllib._parser" 1905),de P "__name__" 2149 (.str "_make" 2148),de P "__qualname__" 2152 (.str "Output._make" 2151),de P "__doc__" 2154 (.str (dm (kd (af 50) 5)) 2144),de P "__annotations__" 2156 (.ref 495)] 5) (.node (fV "__instancecheck__" "_ABCLike.__instancecheck__" (kd (af 82) 0) .none pF 748) .nil .nil) .nil)))) (.node (DY P) (.node (Eh P) (.node (Fc P) (.node tE (.node (tq ["src","pos","chars"] 2224) .nil .nil) (.node tE .nil .nil)) (.node (tq ["self","key","flag","recursive","cont","key_parent","key_stem","k"] 2022) (.node tE .nil .nil) .nil)) (.node tE (.node (Hw P) (.node tE .nil .nil) .nil) (.node (tq ["data","flags"] 2122) (.node ⟨(.type "type"),none,.cls ⟨"ABCMeta",[(.type "type")],[(.ref 733),(.type "type"),(.type "object")],732,"ABCMeta",true,[],[(.ref 766)],false,none,false⟩,#[some (.ref 717),none,some (.str "ABCMeta" 2511),some (.str "ABCMeta" 2519),some (.builtin "type.__new__"),some (.bool true)]⟩ .nil .nil) .nil))) (.node (EP P) (.node (FD P) (.node tE (.node (HS P) .nil .nil) (.node (fN "_law_written" "_law_written" (af 95)) .nil .nil)) (.node (HG P) (.node ⟨(.type "object"),none,.plain,#[]⟩ .nil .nil) .nil)) (.node tE (.node (cC "Flags" "Flags" 1967 252 379 1970) (.node (HX P) .nil .nil) .nil) (.node (cF "__repr__" "Output.__repr__" 2170 360 1 0 0 3 504 2174) (.node (oD [de P "__module__" 2544 (.str "collections.abc" 2535),de P "__firstlineno__" 2548 (.int 754 2547),de P "__instancecheck__" 2557 (.ref 749),de P "__subclasscheck__" 2565 (.ref 756),de P "register" 2573 (.ref 763),de P "__static_attributes__" 2574 (.ref 764),de P "__doc__" 2575 .none] 2) .nil .nil) .nil)))))))) (.node (C3 P) (.node (C4 P) (.node nE (.node (Df P) (.node (Dw P) (.node ⟨.none,none,.fields #[(.int 5 0),(.int 0 0),(.ref 72),(.int 8 0),(.int 0 0),(.ref 79),(.int 18 0),(.int 0 0),(.ref 123),(.int 40 0),(.int 0 0),(.ref 133),(.int 96 0),(.int 0 0),(.ref 140),(.int 138 0),(.int 0 0),(.ref 208),(.int 157 0),(.int 0 0),(.ref 226),(.int 160 0),(.int 0 0),(.ref 251),(.int 164 0),(.int 0 0),(.ref 258),(.int 169 0),(.int 0 0),(.ref 265),(.int 189 0),(.int 23 0),(.ref 307),(.int 209 0),(.int 0 0),(.ref 360),(.int 211 0),(.int 0 0),(.ref 374),(.int 252 0),(.int 0 0),(.ref 381),(.int 304 0),(.int 0 0),(.ref 437),(.int 331 0),(.int 0 0),(.ref 474),(.int 373 0),(.int 0 0),(.ref 544),(.int 380 0),(.int 0 0),(.ref 551),(.int 392 0),(.int 0 0),(.ref 558),(.int 400 0),(.int 0 0),(.ref 565),(.int 407 0),(.int 0 0),(.ref 572),(.int 421 0),(.int 0 0),(.ref 579),(.int 436 0),(.int 0 0),(.ref 586),(.int 457 0),(.int 0 0),(.ref 593),(.int 469 0),(.int 0 0),(.ref 600),(.int 487 0),(.int 0 0),(.ref 607),(.int 501 0),(.int 0 0),(.ref 614),(.int 504 0),(.int 0 0),(.ref 621),(.int 523 0),(.int 0 0),(.ref 628),(.int 552 0),(.int 0 0),(.ref 636),(.int 575 0),(.int 0 0),(.ref 643),(.int 577 0),(.int 0 0),(.ref 650),(.int 586 0),(.int 0 0),(.ref 657),(.int 591 0),(.int 0 0),(.ref 664),(.int 610 0),(.int 0 0),(.ref 671),(.int 640 0),(.int 0 0),(.ref 678),(.int 683 0),(.int 0 0),(.ref 685),(.int 697 0),(.int 0 0),(.ref 692),(.int 699 0),(.int 0 0),(.ref 699),(.int 718 0),(.int 0 0),(.ref 708),(.int 743 0),(.int 0 0),(.ref 715),(.int 749 0),(.int 0 0),(.ref 722),(.int 754 0),(.int 0 0),(.ref 741),(.int 769 0),(.int 0 0),(.ref 774),(.int 773 0),(.int 0 0),(.ref 781),(.int 790 0),(.int 0 0),(.ref 788),(.int 802 0),(.int 0 0),(.ref 795),(.int 807 0),(.int 0 0),(.ref 802),(.int 828 0),(.int 0 0),(.ref 809),(.int 839 0),(.int 0 0),(.ref 816),(.int 848 0),(.int 0 0),(.ref 823),(.int 856 0),(.int 0 0),(.ref 830),(.int 863 0),(.int 0 0),(.ref 835),(.int 865 0),(.int 0 0),(.ref 842),(.int 872 0),(.int 0 0),(.ref 847)],#[]⟩ (.node tE (.node tE (.node nE .nil .nil) (.node (oF "builtin_function_or_method" [.builtin "object.__init_subclass__",.ref 766]) .nil .nil)) (.node nE (.node (tq ["src","pos"] 2385) .nil .nil) .nil)) (.node (FG P) (.node (fz (env 37)) (.node (tq ["src","pos","out","key"] 2273) .nil .nil) (.node tE .nil .nil)) (.node nE (.node nE .nil .nil) .nil))) (.node (Ek P) (.node (Ff P) (.node (GZ P) (.node (cF "skip_chars" "skip_chars" 2221 373 3 0 0 3 539 2227) .nil .nil) (.node tE .nil .nil)) (.node (cF "set" "Flags.set" 2019 277 3 0 1 3 411 2030) (.node (HZ P) .nil .nil) .nil)) (.node tE (.node (Hy P) (.node (HU P) .nil .nil) .nil) (.node nE (.node (tO [.ref 733]) .nil .nil) .nil)))) (.node (DL P) (.node (Ea P) (.node (E4 P) (.node (GQ P) (.node ⟨(.type "frame"),none,.dict #[de P "self" 2198 (.ref 527),de P "index" 2199 (.int 0 2196),de P "doc" 2200 (.str "Alias for field number 0" 2197)] 3,#[]⟩ .nil .nil) (.node nE .nil .nil)) (.node tE (.node (fN "parse_literal_str" "parse_literal_str" (af 67)) .nil .nil) .nil)) (.node (FV P) (.node tE (.node (fN "parse_key_value_pair" "parse_key_value_pair" (af 58)) .nil .nil) (.node (Ig P) .nil .nil)) (.node (oF "getset_descriptor" [.str "__dict__" 2099,.ref 463,.builtin "function.__dict__",.builtin "function.__dict__#set"]) (.node tE .nil .nil) .nil))) (.node (EF P) (.node tE (.node (Hc P) (.node tE .nil .nil) (.node (cF "_law_names" "_law_names" 2645 839 1 0 0 3 811 2653) .nil .nil)) (.node tE (.node nE .nil .nil) .nil)) (.node (Gs P) (.node (HA P) (.node nE .nil .nil) .nil) (.node (tO [.ref 471]) (.node (tq ["cls","C"] 2561) .nil .nil) .nil))))) (.node (Dn P) (.node tE (.node (D4 P) (.node (EY P) (.node (GK P) (.node (tq ["self"] 2188) .nil .nil) (.node tE .nil .nil)) (.node (tq ["self","key","flag"] 1994) (.node tE .nil .nil) .nil)) (.node (FO P) (.node (Hn P) (.node (tq ["header","key"] 2295) .nil .nil) (.node tE .nil .nil)) (.node (tq ["self","key","cont","last_key","list_"] 2089) (.node (tq ["x","what","kind"] 2503) .nil .nil) .nil))) (.node (Ew P) (.node (Fm P) (.node (G4 P) (.node (HQ P) .nil .nil) (.node (fN "split" "split" (af 91)) .nil .nil)) (.node (HF P) (.node tE .nil .nil) .nil)) (.node (Gm P) (.node (cC "TOMLDecodeError" "TOMLDecodeError" 1931 209 358 1934) (.node tE .nil .nil) .nil) (.node (tq ["cls","iterable","result"] 2139) (.node nE .nil .nil) .nil)))) (.node (DT P) (.node (Ef P) (.node tE (.node (GV P) (.node (oF "staticmethod" [.ref 485]) .nil .nil) (.node (tq ["path"] 2615) .nil .nil)) (.node (fN "unset_all" "Flags.unset_all" (kd (af 48) 6)) (.node (cF "parse_multiline_str" "parse_multiline_str" 2410 591 2 0 1 3 659 2419) .nil .nil) .nil)) (.node (F9 P) (.node (Hu P) (.node (cF "parse_key" "parse_key" 2312 469 2 0 0 3 595 2320) .nil .nil) .nil) (.node tE (.node (fN "register" "ABCMeta.register" (kd (af 80) 0)) .nil .nil) .nil))) (.node (EL P) (.node nE (.node (Hg P) (.node nE .nil .nil) (.node (Ia P) .nil .nil)) (.node nE (.node (tq ["parse_float","safe_parse_float"] 2475) .nil .nil) .nil)) (.node (Gz P) (.node tE (.node nE .nil .nil) .nil) (.node tE (.node tE .nil .nil) .nil)))))) (.node (Dc P) (.node (Dj P) (.node (DA P) (.node nE (.node (EU P) (.node tE (.node (cF "_asdict" "Output._asdict" 2178 364 1 0 0 3 511 2182) .nil .nil) (.node tE .nil .nil)) (.node (cF "__init__" "Flags.__init__" 1984 257 1 0 0 3 383 1988) (.node (fV "parse_basic_str_escape_multiline" "parse_basic_str_escape_multiline" (af 65) .none bT 643) .nil .nil) .nil)) (.node (FJ P) (.node (fz (env 38)) (.node (fV "create_list_rule" "create_list_rule" (af 56) .none bT 579) .nil .nil) (.node (Ic P) .nil .nil)) (.node (cF "get_or_create_nest" "NestedDict.get_or_create_nest" 2075 309 2 0 1 3 447 2083) (.node (cF "reduce" "reduce" 2485 718 3 0 0 3 703 2494) .nil .nil) .nil))) (.node (Ep P) (.node (Fh P) (.node tE (.node (tq ["src","pos","expect","error_on","error_on_eof","new_pos"] 2233) .nil .nil) (.node tE .nil .nil)) (.node (tq ["self","key","flag","cont","k","inner_cont","key_stem"] 2036) (.node tE .nil .nil) .nil)) (.node (Gi P) (.node (oF "builtin_function_or_method" [.builtin "type.__prepare__",.type "type"]) (.node tE .nil .nil) .nil) (.node (cF "__new__" "Output.__new__" 2126 337 3 0 0 3 479 2132) (.node ⟨.none,none,.fields #[(.int 756 0),(.int 4 0),(.ref 748),(.int 762 0),(.int 4 0),(.ref 755),(.int 767 0),(.int 4 0),(.ref 762)],#[]⟩ .nil .nil) .nil)))) (.node (DP P) (.node tE (.node tE (.node nE (.node tE .nil .nil) (.node (cF "_check_arg_types" "_check_arg_types" 2599 790 1 0 0 7 783 2607) .nil .nil)) (.node tE (.node nE .nil .nil) .nil)) (.node (F0 P) (.node (Hs P) (.node nE .nil .nil) .nil) (.node (tO [.type "tuple"]) (.node tE .nil .nil) .nil))) (.node (EJ P) (.node (Fu P) (.node (He P) (.node (fN "skip_comments_and_array_ws" "skip_comments_and_array_ws" (af 54)) .nil .nil) (.node (tq ["path","told","inside","sign"] 2659) .nil .nil)) (.node ⟨.none,none,.fields #[(.int 306 0),(.int 4 0),(.ref 444),(.int 309 0),(.int 4 0),(.ref 452),(.int 321 0),(.int 4 0),(.ref 459)],#[]⟩ (.node (cF "is_unicode_scalar_value" "is_unicode_scalar_value" 2465 697 1 0 0 3 687 2469) .nil .nil) .nil)) (.node (Gw P) (.node tE (.node (cF "parse_inline_table" "parse_inline_table" 2353 523 3 0 0 3 623 2367) .nil .nil) .nil) (.node tE (.node (fV "__subclasscheck__" "_ABCLike.__subclasscheck__" (kd (af 82) 1) .none pF 755) .nil .nil) .nil))))) (.node (Ds P) (.node (DH P) (.node (D7 P) (.node (E1 P) (.node nE (.node (fV "__getnewargs__" "Output.__getnewargs__" (kd (af 50) 10) (.str (dm (kd (af 15) 10)) 2191) bT 523) .nil .nil) (.node (fN "fspath" "fspath" (af 85)) .nil .nil)) (.node (fV "add_pending" "Flags.add_pending" (kd (af 48) 4) .none bT 395) (.node tE .nil .nil) .nil)) (.node (FX P) (.node tE (.node tE .nil .nil) (.node tE .nil .nil)) (.node (fV "append_nest_to_list" "NestedDict.append_nest_to_list" (kd (af 49) 2) .none bT 459) (.node (fV "_plain_name" "_plain_name" (af 78) .none SV 715) .nil .nil) .nil))) (.node (EB P) (.node tE (.node (G8 P) (.node tE .nil .nil) (.node nE .nil .nil)) (.node (oF "getset_descriptor" [.str "__dict__" 2049,.ref 427,.builtin "function.__dict__",.builtin "function.__dict__#set"]) (.node (fN "suffixed_err" "suffixed_err" (af 71)) .nil .nil) .nil)) (.node tE (.node ⟨(.type "type"),none,.cls ⟨"TOMLDecodeError",[(.type "ValueError")],[(.ref 364),(.type "ValueError"),(.type "Exception"),(.type "BaseException"),(.type "object")],363,"TOMLDecodeError",true,[],[],false,none,false⟩,#[some (.ref 355),none,some (.str "TOMLDecodeError" 1929),some (.str "TOMLDecodeError" 1937),some (.builtin "ValueError.__new__"),some (.bool true)]⟩ (.node (fN "parse_array" "parse_array" (af 62)) .nil .nil) .nil) (.node (fU none "_make" "Output._make" (kd (af 50) 5) [] .none .none (.str (dm (kd (af 50) 5)) 2144) bT (some 495) 491 .none) (.node (cF "__instancecheck__" "_ABCLike.__instancecheck__" 2549 756 2 0 0 3 743 2555) .nil .nil) .nil)))) (.node (DX P) (.node tE (.node (Fb P) (.node (GW P) (.node nE .nil .nil) (.node (H6 P) .nil .nil)) (.node nE (.node (tq ["src","pos","multiline","error_on","parse_escapes","result","start_pos","char","parsed_escape"] 2425) .nil .nil) .nil)) (.node (Gd P) (.node (fz (env 140)) (.node (tq ["src","pos","char","start_pos"] 2326) .nil .nil) .nil) (.node tE (.node (oD [de P "__module__" 2518 (.str "abc" 2509),de P "__firstlineno__" 2522 (.int 749 2521),de P "register" 2530 (.ref 730),de P "__static_attributes__" 2531 (.ref 731),de P "__doc__" 2532 .none] 2) .nil .nil) .nil))) (.node (EO P) (.node (FC P) (.node (Hi P) (.node (cF "create_dict_rule" "create_dict_rule" 2260 407 3 0 0 3 567 2267) .nil .nil) (.node tE .nil .nil)) (.node (cF "__init__" "NestedDict.__init__" 2067 306 1 0 0 3 439 2071) (.node (H2 P) .nil .nil) .nil)) (.node (GC P) (.node ⟨.none,none,.fields #[(.int 257 0),(.int 4 0),(.ref 388),(.int 261 0),(.int 4 0),(.ref 395),(.int 264 0),(.int 4 0),(.ref 402),(.int 269 0),(.int 4 0),(.ref 409),(.int 277 0),(.int 4 0),(.ref 416),(.int 288 0),(.int 4 0),(.ref 423)],#[]⟩ (.node (cF "parse_basic_str_escape" "parse_basic_str_escape" 2371 552 2 0 1 3 631 2379) .nil .nil) .nil) (.node (fN "__repr__" "Output.__repr__" (kd (af 50) 8)) (.node tE .nil .nil) .nil))))))) (.node (C6 P) (.node (C8 P) (.node (Dh P) (.node (Dy P) (.node (D1 P) (.node (ET P) (.node (GG P) (.node tE .nil .nil) (.node nE .nil .nil)) (.node tE (.node (fN "parse_basic_str_escape_multiline" "parse_basic_str_escape_multiline" (af 65)) .nil .nil) .nil)) (.node (FI P) (.node tE (.node (fN "create_list_rule" "create_list_rule" (af 56)) .nil .nil) (.node (fN "_law_key" "_law_key" (af 96)) .nil .nil)) (.node tE (.node tE .nil .nil) .nil))) (.node (Em P) (.node tE (.node nE (.node tE .nil .nil) (.node (cF "join" "join" 2619 807 1 0 0 7 797 2627) .nil .nil)) (.node tE (.node nE .nil .nil) .nil)) (.node (Gg P) (.node (Hz P) (.node nE .nil .nil) .nil) (.node tE (.node (oD [de P "__module__" 2544 (.str "collections.abc" 2535),de P "__qualname__" 2546 (.str "_ABCLike" 2545),de P "__firstlineno__" 2548 (.int 754 2547),de P "__instancecheck__" 2557 (.ref 749),de P "__subclasscheck__" 2565 (.ref 756),de P "register" 2573 (.ref 763),de P "__static_attributes__" 2574 (.ref 764)] 7) .nil .nil) .nil)))) (.node (DN P) (.node nE (.node nE (.node (wz P) (.node (HN P) .nil .nil) (.node tE .nil .nil)) (.node (cF "finalize_pending" "Flags.finalize_pending" 2000 264 1 0 0 3 397 2006) (.node (HY P) .nil .nil) .nil)) (.node (FY P) (.node (fz (env 48)) (.node (fV "parse_key_value_pair" "parse_key_value_pair" (af 58) .none bT 593) .nil .nil) .nil) (.node (oF "super" [.ref 463,.ref 463,.ref 463]) (.node (cC "ABCMeta" "ABCMeta" 2513 749 720 2516) .nil .nil) .nil))) (.node (EH P) (.node (Ft P) (.node nE (.node (tq ["src","pos","pos_before_skip"] 2254) .nil .nil) (.node tE .nil .nil)) (.node (oD [de P "__module__" 2062 (.str "cpy313.tomllib._parser" 1905),de P "__qualname__" 2064 (.str "NestedDict" 2063),de P "__firstlineno__" 2066 (.int 304 2065),de P "__init__" 2073 (.ref 445),de P "get_or_create_nest" 2085 (.ref 453),de P "append_nest_to_list" 2096 (.ref 460),de P "__static_attributes__" 2098 (.ref 461)] 7) (.node tE .nil .nil) .nil)) (.node (Gv P) (.node nE (.node tE .nil .nil) .nil) (.node nE (.node (fN "__subclasscheck__" "_ABCLike.__subclasscheck__" (kd (af 82) 1)) .nil .nil) .nil))))) (.node (Dq P) (.node (DF P) (.node tE (.node tE (.node (GN P) (.node (fN "__getnewargs__" "Output.__getnewargs__" (kd (af 50) 10)) .nil .nil) (.node (tq ["path","kind","hook","given"] 2590) .nil .nil)) (.node (fN "add_pending" "Flags.add_pending" (kd (af 48) 4)) (.node (cF "parse_hex_char" "parse_hex_char" 2390 577 3 0 0 3 645 2398) .nil .nil) .nil)) (.node (FQ P) (.node (fz (env 45)) (.node (cF "key_value_rule" "key_value_rule" 2280 436 5 0 0 3 581 2297) .nil .nil) (.node (cF "_law_ends" "_law_ends" 2681 865 2 0 0 3 837 2688) .nil .nil)) (.node (fN "append_nest_to_list" "NestedDict.append_nest_to_list" (kd (af 49) 2)) (.node (fN "_plain_name" "_plain_name" (af 78)) .nil .nil) .nil))) (.node (Ez P) (.node nE (.node (G6 P) (.node nE .nil .nil) (.node (H8 P) .nil .nil)) (.node (oD [de P "__module__" 1972 (.str "cpy313.tomllib._parser" 1905),de P "__firstlineno__" 1976 (.int 252 1975),de P "__doc__" 1978 (.str (dm (af 48)) 1977),de P "FROZEN" 1981 (.int 0 1980),de P "EXPLICIT_NEST" 1983 (.int 1 1982),de P "__init__" 1990 (.ref 389),de P "add_pending" 1999 (.ref 396),de P "finalize_pending" 2008 (.ref 403),de P "unset_all" 2018 (.ref 410),de P "set" 2032 (.ref 417),de P "is_" 2045 (.ref 424),de P "__static_attributes__" 2048 (.ref 425),de P "__dict__" 2050 (.ref 428),de P "__weakref__" 2052 (.ref 429)] 3) (.node (tq ["src","pos","msg","coord_repr"] 2457) .nil .nil) .nil)) (.node (Gp P) (.node tE (.node (tq ["src","pos","parse_float","array","val","c"] 2344) .nil .nil) .nil) (.node (fN "_make" "Output._make" (kd (af 50) 5)) (.node tE .nil .nil) .nil)))) (.node (DV P) (.node nE (.node (E9 P) (.node tE (.node (oF "builtin_function_or_method" [.builtin "object.__init_subclass__",.ref 535]) .nil .nil) (.node (fN "_get_sep" "_get_sep" (af 89)) .nil .nil)) (.node (fV "unset_all" "Flags.unset_all" (kd (af 48) 6) .none bT 409) (.node tE .nil .nil) .nil)) (.node (Ga P) (.node (Hv P) (.node tE .nil .nil) .nil) (.node (cC "Output" "Output" 2108 331 472 2111) (.node (fV "register" "ABCMeta.register" (kd (af 80) 0) .none CS 729) .nil .nil) .nil))) (.node (EM P) (.node tE (.node (Hh P) (.node tE .nil .nil) (.node nE .nil .nil)) (.node tE (.node (fN "make_safe_parse_float" "make_safe_parse_float" (af 73)) .nil .nil) .nil)) (.node (GA P) (.node (oD [de P "__module__" 1972 (.str "cpy313.tomllib._parser" 1905),de P "__qualname__" 1974 (.str "Flags" 1973),de P "__firstlineno__" 1976 (.int 252 1975),de P "__doc__" 1978 (.str (dm (af 48)) 1977),de P "FROZEN" 1981 (.int 0 1980),de P "EXPLICIT_NEST" 1983 (.int 1 1982),de P "__init__" 1990 (.ref 389),de P "add_pending" 1999 (.ref 396),de P "finalize_pending" 2008 (.ref 403),de P "unset_all" 2018 (.ref 410),de P "set" 2032 (.ref 417),de P "is_" 2045 (.ref 424),de P "__static_attributes__" 2048 (.ref 425)] 13) (.node tE .nil .nil) .nil) (.node (tq ["self"] 2173) (.node (cF "register" "_ABCLike.register" 2566 767 2 0 0 3 757 2571) .nil .nil) .nil)))))) (.node (De P) (.node (Dl P) (.node (DC P) (.node tE (.node (EW P) (.node (GJ P) (.node tE .nil .nil) (.node (cF "_abc_plain_meta" "_abc_plain_meta" 2578 769 1 0 0 3 769 2582) .nil .nil)) (.node tE (.node nE .nil .nil) .nil)) (.node (FL P) (.node (Hm P) (.node nE .nil .nil) (.node nE .nil .nil)) (.node tE (.node tE .nil .nil) .nil))) (.node (Et P) (.node (Fi P) (.node (G2 P) (.node (fN "skip_until" "skip_until" (af 52)) .nil .nil) (.node (tq ["p","sep","i","head","tail"] 2634) .nil .nil)) (.node (fN "is_" "Flags.is_" (kd (af 48) 8)) (.node (cF "parse_value" "parse_value" 2437 640 3 0 0 3 673 2451) .nil .nil) .nil)) (.node (Gk P) (.node tE (.node (cF "parse_one_line_basic_str" "parse_one_line_basic_str" 2333 501 2 0 0 3 609 2338) .nil .nil) .nil) (.node tE (.node (fR 741 738 pF) .nil .nil) .nil)))) (.node (DR P) (.node (Ed P) (.node (E7 P) (.node tE (.node (oD [de P "__module__" 2113 (.str "cpy313.tomllib._parser" 1905),de P "__firstlineno__" 2117 (.int 331 2116),de P "__doc__" 2119 (.str "Output(data, flags)" 2118),de P "__slots__" 2121 (.ref 476),de P "_fields" 2124 (.ref 477),de P "_field_defaults" 2125 (.ref 478),de P "__new__" 2135 (.ref 536),de P "_make" 2157 (.ref 494),de P "_replace" 2168 (.ref 503),de P "__replace__" 2169 (.ref 503),de P "__repr__" 2177 (.ref 510),de P "_asdict" 2184 (.ref 517),de P "__getnewargs__" 2192 (.ref 524),de P "__match_args__" 2195 (.ref 525),de P "data" 2205 (.ref 527),de P "flags" 2215 (.ref 530),de P "__static_attributes__" 2216 (.ref 532)] 2) .nil .nil) (.node tE .nil .nil)) (.node (tq ["self","key","cont","k"] 2012) (.node tE .nil .nil) .nil)) (.node (F7 P) (.node (Ht P) (.node tE .nil .nil) .nil) (.node (oD [de P "__module__" 2113 (.str "cpy313.tomllib._parser" 1905),de P "__qualname__" 2115 (.str "Output" 2114),de P "__firstlineno__" 2117 (.int 331 2116),de P "__doc__" 2119 (.str "Output(data, flags)" 2118),de P "__slots__" 2121 (.ref 476),de P "_fields" 2124 (.ref 477),de P "_field_defaults" 2125 (.ref 478),de P "__new__" 2135 (.ref 485),de P "_make" 2157 (.ref 494),de P "_replace" 2168 (.ref 503),de P "__replace__" 2169 (.ref 503),de P "__repr__" 2177 (.ref 510),de P "_asdict" 2184 (.ref 517),de P "__getnewargs__" 2192 (.ref 524),de P "__match_args__" 2195 (.ref 525),de P "data" 2205 (.ref 527),de P "flags" 2215 (.ref 530),de P "__static_attributes__" 2216 (.ref 532),de P "__classcell__" 2217 (.ref 471)] 19) (.node (tq ["cls","subclass"] 2526) .nil .nil) .nil))) (.node tE (.node (Fw P) (.node (fz (env 32)) (.node (fV "skip_comments_and_array_ws" "skip_comments_and_array_ws" (af 54) .none bT 565) .nil .nil) (.node (fN "_law_tidy" "_law_tidy" (af 94)) .nil .nil)) (.node (fR 437 434 bT) (.node tE .nil .nil) .nil)) (.node tE (.node (cF "loads" "loads" 1950 211 1 1 1 3 369 1961) (.node (HW P) .nil .nil) .nil) (.node (cF "_replace" "Output._replace" 2158 349 1 1 0 11 497 2165) (.node nE .nil .nil) .nil))))) (.node (Du P) (.node (DJ P) (.node (D8 P) (.node tE (.node tE (.node (HK P) .nil .nil) (.node (H5 P) .nil .nil)) (.node nE (.node (tq ["src","pos","start_pos"] 2404) .nil .nil) .nil)) (.node (FT P) (.node (fz (env 47)) (.node (tq ["src","pos","parse_float","key","char","value"] 2303) .nil .nil) (.node (fN "law" "law" (af 98)) .nil .nil)) (.node (oD [de P "__module__" 2062 (.str "cpy313.tomllib._parser" 1905),de P "__firstlineno__" 2066 (.int 304 2065),de P "__init__" 2073 (.ref 445),de P "get_or_create_nest" 2085 (.ref 453),de P "append_nest_to_list" 2096 (.ref 460),de P "__static_attributes__" 2098 (.ref 461),de P "__dict__" 2100 (.ref 464),de P "__weakref__" 2102 (.ref 465),de P "__doc__" 2103 .none] 4) (.node (oF "builtin_function_or_method" [.builtin "type.__prepare__",.type "type"]) .nil .nil) .nil))) (.node (ED P) (.node (Fq P) (.node (Ha P) (.node (cF "skip_comment" "skip_comment" 2242 392 2 0 0 3 553 2248) .nil .nil) (.node tE .nil .nil)) (.node (oF "super" [.ref 427,.ref 427,.ref 427]) (.node (wB P) .nil .nil) .nil)) (.node (Gq P) (.node (oF "super" [.ref 364,.ref 364,.ref 364]) (.node (fV "parse_array" "parse_array" (af 62) .none bT 621) .nil .nil) .nil) (.node ⟨(.type "classmethod"),(some 493),.fields #[(.ref 492),(.bool false)],#[]⟩ (.node tE .nil .nil) .nil)))) (.node (DZ P) (.node (Ei P) (.node (Fd P) (.node (GX P) (.node tE .nil .nil) (.node nE .nil .nil)) (.node tE (.node (fN "parse_basic_str" "parse_basic_str" (af 69)) .nil .nil) .nil)) (.node nE (.node tE (.node (fN "parse_key_part" "parse_key_part" (af 60)) .nil .nil) .nil) (.node (oD [] 0) (.node (oF "super" [.ref 733,.ref 733,.ref 733]) .nil .nil) .nil))) (.node (ER P) (.node (FE P) (.node (Hj P) (.node tE .nil .nil) (.node (cF "_law_written" "_law_written" 2666 856 2 0 0 3 825 2672) .nil .nil)) (.node (HH P) (.node (H3 P) .nil .nil) .nil)) (.node nE (.node (fR 381 378 bT) (.node tE .nil .nil) .nil) (.node (fV "__repr__" "Output.__repr__" (kd (af 50) 8) (.str (dm (kd (af 15) 8)) 2176) bT 509) (.node ⟨(.type "type"),none,.cls ⟨"_ABCLike",[(.ref 733)],[(.ref 766),(.ref 733),(.type "type"),(.type "object")],765,"_ABCLike",true,[],[],false,none,false⟩,#[some (.ref 736),none,some (.str "_ABCLike" 2537),some (.str "_ABCLike" 2545),some (.builtin "type.__new__"),some (.bool true)]⟩ .nil .nil) .nil)))))))))
noncomputable def rU (P:Params):List Ent:=It P
noncomputable def To:List (Nat×Nat):=Iu
noncomputable def pG (P:Params) (env:Nat→az):ST:=⟨kU P env,849,{},#[.finished],{},2697,{},To,rU P⟩
noncomputable def Iv:ST:=⟨.nil,0,{},#[],{},1,{},[],[]⟩
noncomputable abbrev nj:Code→Sem PySem.Fin:=PySem.W.Fast.tw11892475500146522536 PySem.W.Fast.tw14364793385576792824
noncomputable def l6:List (Nat×Nat):=[(310,0),(315,0),(319,0),(320,0),(325,0),(330,0),(334,0),(339,0),(343,0),(348,0)]
noncomputable def wC (P:Params) (env:Nat→az):=jT nj pg P l6 env 200
noncomputable def dP (P:Params) (env:Nat→az) (Γ:Ctx) {α:Type} (t:Sem α) (p:Pos) (s:ST):=fQ pg P (wC P env).1 (wC P env).2 Γ t p s
noncomputable def rV:Program:=opening pg
noncomputable def Tp:Ctx:=Ctx.of (.builtin "boot" {}) []
noncomputable def Tq (P:Params) (env:Nat→az):=fQ rV P (jT nj rV P l6 env 200).1 (jT nj rV P l6 env 200).2 Tp (PySem.W.Fast.tw2477092760451715423 rV) default Iv
noncomputable def wF:Except Value PySem.Fin→Bool
  | .ok (.again (.builtin id ⟨[.int 3 0],[]⟩))=>id=="proto.exit.begin"
  | _=>false
theorem Ts (w:World) (env:Nat→az):(Tq w.params env).map (fun x=>(wF x.1,x.2.2.gens,x.2.2.life,x.2.2.log,x.2.2.cur,fenceModules? pg x.2.2.abs))=some (true,#[],{},[],[],some (S0 w.params env).abs):=by kernel_rfl
noncomputable def bV {α:Type} (M:Model) (Γ:Ctx) (p:Pos) (t:Sem α) (Q:α→Shared→Prop) (s:Shared):Prop:=
  ∀ (Q':α→Pos→Shared→Prop) (E:Value→Pos→Shared→Prop),(∀ a s',Q a s'→Q' a p s')→Sem.wp M Γ t Q' E p s
section
variable {M:Model} {Γ:Ctx} {p:Pos} {s:Shared} {α β:Type}
theorem cB {a:α} {Q:α→Shared→Prop} (h:Q a s):bV M Γ p (pure a) Q s:=fun ω ω k=>k _ _ h
theorem bH {m:Sem α} {f:α→Sem β} {Q:β→Shared→Prop} (h:bV M Γ p m (fun a s'=>bV M Γ p (f a) Q s') s):bV M Γ p (m >>= f) Q s:=fun Q' E k=>by
  rw [Sem.wp_bind']
  exact h _ E fun a s' h'=>h' Q' E k
theorem Iw {c:Bool} {t e:Sem α} {Q:α→Shared→Prop} (hc:c=true) (h:bV M Γ p t Q s):bV M Γ p (if c=true then t else e) Q s:=by rw [if_pos hc]; exact h
theorem Tt {c:Bool} {t e:Sem α} {Q:α→Shared→Prop} (hc:c=false) (h:bV M Γ p e Q s):bV M Γ p (if c=true then t else e) Q s:=by rw [if_neg (Bool.not_eq_true _▸hc)]; exact h
theorem Iy {a:Addr} {o:Obj} {Q:Obj→Shared→Prop} (ho:s.heap.get? a=some o) (h:Q o s):bV M Γ p (load a) Q s:=fun ω ω k=>⟨o,ho,k _ _ h⟩
theorem Iz {a:Addr} {f:Obj→Obj} {o:Obj} {Q:Unit→Shared→Prop} (ho:s.heap.get? a=some o) (h:Q () {s with heap:=s.heap.update a f}):bV M Γ p (update a f) Q s:=fun ω ω k=>⟨by rw [ho]; rfl,k _ _ h⟩
theorem wG {tag:String} {Q:Unit→Shared→Prop} (h:Q () s):bV M Γ p (rule tag) Q s:=fun ω ω k=>k _ _ h
theorem IA {Q:Setting→Shared→Prop} (h:Q ⟨M.prog,M.w.params⟩ s):bV M Γ p ask Q s:=fun ω ω k=>k _ _ h
theorem Tu {o:Obj} {Q:Addr→Shared→Prop} (h:Q s.heap.objs.size {s with heap:=s.heap.push o}):bV M Γ p (alloc o) Q s:=fun ω ω k=>k _ _ h
theorem IB {vs:List Value} {m:Sem α} {Q:α→Shared→Prop} (h:bV M Γ p m Q s):bV M Γ p (holding vs m) Q s:=fun Q' E k=>by rw [Sem.wp_holding]; exact h Q' E k
theorem Tv {A:Around} {t:Sem α} {Q:α→Shared→Prop} {E:Value→Shared→Prop} (h:∀ Γ p,bV M Γ p t Q s):wpAny M A t Q E s:=fun Γ p ω=>h Γ p _ _ fun ω ω q=>q
end
noncomputable def keyOf:Value→Str
  | .str k _=>k
  | _=>default
structure bJ (P:Params) (d:az) (l:List Str):Prop where
  el:∀ e∈d.1.toList,∃ k t,e=(PyData.keyHash P k,Value.str k t)
  ks:(d.1.toList.map fun e=>keyOf e.2).Perm l
  nd:l.Nodup
  fit:d.2.2.fits d.1.size=true
theorem bJ.size {P:Params} {d:az} {l:List Str} (h:bJ P d l):d.1.size=l.length:=by
  have:=h.ks.length_eq
  rw [List.length_map,Array.length_toList] at this; exact this
noncomputable def l7 (h:Int) (x:Str) (tk:Tok) (d:az):az:=
  let r:=layNew d.2.2 d.1 h (.str x tk)
  let t1:SetTable:=if r.2.1.plain then {r.2.1 with plain:=false} else r.2.1
  if !r.2.2.1&&t1.tooFull then let q:=relayAll t1 r.1 (SetTable.grown r.1.size); (q.1,d.2.1+1+1,q.2.1) else (r.1,d.2.1+1,t1)
theorem rW {P:Params} {d:az} {l:List Str} {x:Str} {tk:Tok} (h:bJ P d l) (hx:x∉l):bJ P (l7 (PyData.keyHash P x) x tk d) (l++[x]):=by
  have hp:=layNew_perm d.2.2 d.1 (PyData.keyHash P x) (.str x tk)
  have hf:=layNew_fits d.2.2 d.1 (PyData.keyHash P x) (.str x tk)
  unfold l7
  dsimp only
  generalize layNew d.2.2 d.1 (PyData.keyHash P x) (.str x tk)=r at hp hf ⊢
  obtain ⟨cY,t1,wd,gv⟩:=r
  dsimp only at hp hf ⊢
  rw [Array.toList_push] at hp
  have IC:∀ e∈cY.toList,∃ k t,e=(PyData.keyHash P k,Value.str k t):=fun e he=>by
    rcases List.mem_append.mp (hp.mem_iff.mp he) with q | q
    · exact h.el e q
    · rw [List.mem_singleton] at q; exact ⟨x,tk,q⟩
  have ID:(cY.toList.map fun e=>keyOf e.2).Perm (l++[x]):=by
    refine (hp.map _).trans ?_
    rw [List.map_append]
    exact h.ks.append_right _
  have IE:(l++[x]).Nodup:=List.nodup_append.mpr ⟨h.nd,by simp,fun a ha b hb=>by
    rw [List.mem_singleton] at hb; subst hb; exact fun q=>hx (q▸ha)⟩
  have IF:(if t1.plain=true then {t1 with plain:=false} else t1:SetTable).fits cY.size=true:=by
    split
    · exact SetTable.fits_plain_off hf
    · exact hf
  generalize (if t1.plain=true then {t1 with plain:=false} else t1:SetTable)=t2 at IF ⊢
  have kz:=relayAll_perm t2 cY (SetTable.grown cY.size)
  have Tw:=relayAll_fits t2 cY (SetTable.grown cY.size)
  split
  · exact ⟨fun e he=>IC e (kz.mem_iff.mp he),(kz.map _).trans ID,IE,Tw⟩
  · exact ⟨IC,ID,IE,IF⟩
theorem IG {h:Heap} {a:Addr} {f g:Obj→Obj}:(h.update a f).update a g=h.update a (fun o=>g (f o)):=by
  obtain ⟨objs,life⟩:=h
  show Heap.mk _ _=Heap.mk _ _
  congr 1
  apply Array.ext_getElem?
  intro i
  rw [Array.getElem?_modify,Array.getElem?_modify,Array.getElem?_modify]
  by_cases e:a=i
  · subst e; simp [Option.map_map]; rfl
  · simp [e]
theorem Tz {h:Heap} {a:Addr} {o o':Obj} {f:Obj→Obj} (ho:h.get? a=some o) (e:f o=o'):h.update a f=h.update a (fun ω=>o'):=by
  have q:h.objs[a]?=some o:=by
    unfold Heap.get? at ho
    split at ho <;> simp_all
  obtain ⟨objs,life⟩:=h
  show Heap.mk _ _=Heap.mk _ _
  congr 1
  apply Array.ext_getElem?
  intro i
  rw [Array.getElem?_modify,Array.getElem?_modify]
  by_cases e':a=i
  · subst e'
    have q':objs[a]?=some o:=q
    simp [q',e]
  · simp [e']
section
variable {M:Model} {Γ:Ctx} {p:Pos} {s:Shared}
theorem eY {a:Addr} {d:az} {Q:(Array (Int×Value)×Nat×SetTable)→Shared→Prop} (ho:s.heap.get? a=some (fz d)) (hf:d.2.2.fits d.1.size=true) (h:Q d s):bV M Γ p (setState a) Q s:=by
  unfold setState
  refine bH (Iy ho ?_)
  dsimp only
  have hc:(d.2.2.place.size != d.1.size||decide (d.2.2.fill > d.2.2.mask))=false:=by
    simp only [SetTable.fits,Bool.and_eq_true,beq_iff_eq,decide_eq_true_eq] at hf
    simp [hf.1,Nat.not_lt.mpr hf.2]
  exact Tt hc (cB h)
theorem l8 {a:Addr} {d:az} {pH:Array (Int×Value)} {t':SetTable} {Q:Unit→Shared→Prop} (ho:s.heap.get? a=some (fz d)) (hz:pH.size≤sizeLine)
    (h:Q () {s with heap:=s.heap.update a fun ω=>fz (pH,d.2.1+1,t')}):bV M Γ p (storeSet a pH t') Q s:=by
  unfold storeSet
  refine bH (Iy ho ?_)
  dsimp only
  rw [if_neg (Nat.not_lt.mpr hz)]
  have e:s.heap.update a (Obj.putSet pH t')=s.heap.update a fun ω=>fz (pH,d.2.1+1,t'):=Tz ho rfl
  rw [←e] at h
  first | exact Iz ho h | exact bH (cB (Iz ho h))
theorem IH {h:Heap} {a:Addr} {o:Obj} {d:az} (ho:h.get? a=some o):(h.update a fun ω=>fz d).get? a=some (fz d):=Heap.get?_update_self _ ho rfl
theorem II {P:Params} {d:az} {l:List Str} (h:bJ P d l):d.1.all (fun e=>isExactStrKey e.2)=true:=by
  rw [←Array.all_toList,List.all_eq_true]
  intro e he
  obtain ⟨k,t,rfl⟩:=h.el e he
  rfl
theorem IJ {P:Params} {d:az} {l:List Str} (h:bJ P d l):d.1.all (fun e=>e.2.scannable)=true:=by
  rw [←Array.all_toList,List.all_eq_true]
  intro e he
  obtain ⟨k,t,rfl⟩:=h.el e he
  rfl
theorem TA {P:Params} {d:az} {l:List Str} {x:Str} (h:bJ P d l) (hx:x∉l):d.1.findIdx? (fun e=>e.2.isStr x)=none:=by
  rw [Array.findIdx?_eq_none_iff]
  intro e he
  obtain ⟨k,t,rfl⟩:=h.el e (Array.mem_toList_iff.mpr he)
  have:k∈l:=h.ks.mem_iff.mp (List.mem_map.mpr ⟨_,Array.mem_toList_iff.mpr he,rfl⟩)
  show (k==x)=false
  rw [beq_eq_false_iff_ne]
  exact fun q=>hx (q▸this)
theorem IK {P:Params} {a:Addr} {d:az} {l:List Str} {x:Str} {tk:Tok} {Q:Bool→Shared→Prop} (hd:bJ P d l) (hx:x∉l) (hl:l.length < 4000) (ho:s.heap.get? a=some (fz d))
    (h:Q true {s with heap:=s.heap.update a fun ω=>fz (l7 (PyData.keyHash P x) x tk d)}):bV M Γ p (setAddHashed a (.str x tk) (PyData.keyHash P x)) Q s:=by
  unfold setAddHashed setAddHashedIn
  refine IB (bH (eY ho hd.fit ?_))
  have bX:=hd.size
  have hb:byScan (.str x tk) d.1=true:=by
    simp only [byScan,Bool.and_eq_true,decide_eq_true_eq]
    exact ⟨⟨rfl,by rw [bX]; show l.length < 4096; lia⟩,IJ hd⟩
  refine Iw hb ?_
  unfold setAddByScan
  refine bH (bH (wG ?_))
  refine bH ?_
  unfold setScan
  refine Iw (II hd) ?_
  unfold setScanStrs
  rw [TA hd hx]
  refine cB ?_
  dsimp only
  have hp:=layNew_perm d.2.2 d.1 (PyData.keyHash P x) (.str x tk)
  have hf:=layNew_fits d.2.2 d.1 (PyData.keyHash P x) (.str x tk)
  have hD:=rW (tk:=tk) hd hx
  unfold l7 at h hD
  dsimp only at h hD
  generalize layNew d.2.2 d.1 (PyData.keyHash P x) (.str x tk)=r at hp hf h hD ⊢
  obtain ⟨cY,t1,wd,gv⟩:=r
  dsimp only at hp hf h hD ⊢
  have TB:cY.size=l.length+1:=by rw [←Array.length_toList,hp.length_eq,Array.length_toList,Array.size_push,bX]
  have IL:cY.size≤sizeLine:=by rw [TB]; unfold sizeLine; lia
  have IM:∀ (b:Bool) {aH:Shared} {Q':Unit→Shared→Prop},Q' () aH→bV M Γ p (match b with | true=>rule "set.scan.the-table-gave-way" | false=>pure ()) Q' aH:=
    fun b aH Q' hq=>by cases b <;> first | exact cB hq | exact wG hq
  refine bH (IM _ ?_)
  have tail:∀ t2:SetTable,Q true {s with heap:=s.heap.update a fun ω=>fz (if (!wd&&t2.tooFull)=true then ((relayAll t2 cY (SetTable.grown cY.size)).1,d.2.1+1+1,(relayAll t2 cY (SetTable.grown cY.size)).2.1) else (cY,d.2.1+1,t2))}→
      bV M Γ p (do
        storeSet a cY t2
        if (!wd&&t2.tooFull)=true then do
            (match (relayAll t2 cY (SetTable.grown cY.size)).2.2 with | true=>rule "set.scan.the-table-gave-way" | false=>pure ())
            storeSet a (relayAll t2 cY (SetTable.grown cY.size)).1 (relayAll t2 cY (SetTable.grown cY.size)).2.1
            pure (some true)
          else pure (some true)) (fun r s'=>bV M Γ p (match r with | some added=>pure added | none=>setAddHashedIn a (.str x tk) (PyData.keyHash P x) 99999) Q s') s:=by
    intro t2 h2
    refine bH (l8 ho IL ?_)
    split
    · rename_i hc
      rw [if_pos hc] at h2
      have kz:=relayAll_perm t2 cY (SetTable.grown cY.size)
      generalize relayAll t2 cY (SetTable.grown cY.size)=q at kz h2 ⊢
      obtain ⟨TC,t3,XU⟩:=q
      dsimp only at kz h2 ⊢
      refine bH (IM _ ?_)
      have TF:TC.size≤sizeLine:=by rw [←Array.length_toList,kz.length_eq,Array.length_toList]; exact IL
      refine bH (l8 (d:=(cY,d.2.1+1,t2)) (IH ho) TF ?_)
      rw [IG]
      exact cB (cB h2)
    · rename_i hc
      rw [if_neg hc] at h2
      exact cB (cB h2)
  split
  · rename_i jy
    rw [if_pos jy] at h
    refine bH ?_
    rw [hashByValue_scannable 8 (x:=.str x tk) rfl]
    refine cB ?_
    exact tail _ h
  · rename_i jy
    rw [if_neg jy] at h
    exact bH (cB (tail _ h))
end
theorem TG {M:Model} {d:az} {l:List Str} {x:Str} {tk:Tok} (hd:bJ M.w.params d l) (hx:x∉l) (hl:l.length < 4000):wg M d (PyData.keyHash M.w.params x) x tk (l7 (PyData.keyHash M.w.params x) x tk d):=
  fun Γ p s S Q E ho h=>IK hd hx hl ho (h true) Q E fun a s' q=>q
noncomputable def jc (m:Nat):Nat→Nat→Nat
  | 0,i=>i
  | n+1,i=>jc m n ((i * 5+1) % (m+1))
theorem rX (m:Nat):∀ a b i,jc m (a+b) i=jc m b (jc m a i)
  | 0,b,i=>by rw [Nat.zero_add]; rfl
  | a+1,b,i=>by rw [show a+1+b=(a+b)+1 by lia]; exact rX m a b _
noncomputable def jd (m:Nat):Prop:=jc m (m+1) 0=0∧∀ j,j≤m→∃ n,n≤m∧jc m n 0=j
theorem jd.all {m:Nat} (c:jd m) {i j:Nat} (hi:i≤m) (hj:j≤m):∃ n,n≤m∧jc m n i=j:=by
  obtain ⟨a,ha,rfl⟩:=c.2 i hi
  obtain ⟨b,hb,rfl⟩:=c.2 j hj
  by_cases h:a≤b
  · exact ⟨b - a,by lia,by rw [←rX]; congr 1; lia⟩
  · refine ⟨m+1 - a+b,by lia,?_⟩
    rw [←rX,show a+(m+1 - a+b)=(m+1)+b by lia,rX,c.1]
noncomputable def IP (m:Nat):Bool:=jc m (m+1) 0==0&&(List.range (m+1)).all fun j=>((List.range (m+1)).find? fun n=>jc m n 0==j).isSome
theorem wH {m:Nat} (h:IP m=true):jd m:=by
  unfold IP at h
  rw [Bool.and_eq_true,beq_iff_eq,List.all_eq_true] at h
  refine ⟨h.1,fun j hj=>?_⟩
  have:=h.2 j (List.mem_range.mpr (by lia))
  obtain ⟨n,hn⟩:=Option.isSome_iff_exists.mp this
  have h1:=List.find?_some hn
  have h2:=List.mem_of_find?_eq_some hn
  rw [beq_iff_eq] at h1
  exact ⟨n,by have:=List.mem_range.mp h2; lia,h1⟩
theorem wI:jd 7:=wH (by decide+kernel)
theorem TH:jd 127:=wH (by decide+kernel)
theorem TJ:jd 255:=wH (by decide+kernel)
noncomputable abbrev fr (m:Nat) (owner:Array (Option Nat)):=SetTable.layClean.free m owner
theorem IQ (m:Nat) (owner:Array (Option Nat)) (f i q:Nat):fr m owner (f+1) i q=match (List.range (SetTable.runEnd m i+1 - i)).find? (fun k=>(owner.getD (i+k) (some 0)).isNone) with
    | some k=>some (i+k)
    | none=>fr m owner f ((i * 5+1+q / 32) % (m+1)) (q / 32):=rfl
theorem getD_none {owner:Array (Option Nat)} {i:Nat} (h:(owner.getD i (some 0)).isNone=true):owner[i]?=some none:=by
  have h':owner.getD i (some 0)=none:=by simpa using h
  rw [Array.getD_eq_getD_getElem?] at h'
  cases hq:owner[i]? with
  | none=>rw [hq] at h'; cases h'
  | some v=>rw [hq] at h'; simp at h'; rw [h']
theorem IS {m:Nat} {owner:Array (Option Nat)}:∀ (f i q j:Nat),fr m owner f i q=some j→owner[j]?=some none
  | 0,i,q,j,h=>by cases h
  | f+1,i,q,j,h=>by
    rw [IQ] at h
    cases hf:(List.range (SetTable.runEnd m i+1 - i)).find? (fun k=>(owner.getD (i+k) (some 0)).isNone) with
    | some k=>rw [hf] at h; cases h; exact getD_none (List.find?_some (p:=fun k=>(owner.getD (i+k) (some 0)).isNone) hf)
    | none=>rw [hf] at h; exact IS f _ _ j h
theorem wJ {m:Nat} {owner:Array (Option Nat)} {f i q:Nat} (h:fr m owner (f+1) i q=none):owner[i]?≠some none∧fr m owner f ((i * 5+1+q / 32) % (m+1)) (q / 32)=none:=by
  rw [IQ] at h
  cases hf:(List.range (SetTable.runEnd m i+1 - i)).find? (fun k=>(owner.getD (i+k) (some 0)).isNone) with
  | some k=>rw [hf] at h; cases h
  | none=>
    rw [hf] at h
    refine ⟨fun hi=>?_,h⟩
    have:=List.find?_eq_none.mp hf 0 (List.mem_range.mpr (by unfold SetTable.runEnd; split <;> lia))
    rw [Nat.add_zero,Array.getD_eq_getD_getElem?,hi] at this
    simp at this
theorem IT {m:Nat} {owner:Array (Option Nat)}:∀ (n f i:Nat),n < f→fr m owner f i 0=none→owner[jc m n i]?≠some none
  | 0,f+1,i,_,h=>(wJ h).1
  | n+1,f+1,i,hn,h=>by
    have:=(wJ h).2
    rw [Nat.zero_div,Nat.add_zero] at this
    exact IT n f _ (by lia) this
theorem IU {m:Nat} {owner:Array (Option Nat)}:∀ (k f i q:Nat),i≤m→fr m owner (f+k) i q=none→∃ i',i'≤m∧fr m owner f i' (q / 32 ^ k)=none
  | 0,f,i,q,hi,h=>⟨i,hi,by rw [Nat.pow_zero,Nat.div_one]; exact h⟩
  | k+1,f,i,q,hi,h=>by
    obtain ⟨i',h1,h2⟩:=IU k f ((i * 5+1+q / 32) % (m+1)) (q / 32) (Nat.lt_succ_iff.mp (Nat.mod_lt _ (by lia))) (wJ h).2
    refine ⟨i',h1,?_⟩
    rw [Nat.div_div_eq_div_mul,show 32 * 32 ^ k=32 ^ (k+1) by rw [Nat.pow_succ,Nat.mul_comm]] at h2
    exact h2
theorem TK {m:Nat} (c:jd m) {owner:Array (Option Nat)} {i q j:Nat} (hi:i≤m) (hq:q < 2 ^ 64) (hj:owner[j]?=some none) (hs:owner.size=m+1):∃ k,fr m owner (SetTable.turns m) i q=some k:=by
  cases h:fr m owner (SetTable.turns m) i q with
  | some k=>exact ⟨k,rfl⟩
  | none=>
    exfalso
    have e:SetTable.turns m=(m+2)+13:=by unfold SetTable.turns; lia
    rw [e] at h
    obtain ⟨i',h1,h2⟩:=IU 13 (m+2) i q hi h
    have:q / 32 ^ 13=0:=Nat.div_eq_of_lt (Nat.lt_of_lt_of_le hq (by decide))
    rw [this] at h2
    have TM:j≤m:=by have:=(Array.getElem?_eq_some_iff.mp hj).1; lia
    obtain ⟨n,hn,e⟩:=c.all h1 TM
    exact IT n (m+2) i' (by lia) h2 (by rw [e]; exact hj)
noncomputable def nk (m:Nat) (owner:Array (Option Nat)) (k:Nat):Prop:=owner.size=m+1∧(owner.toList.filterMap id).Perm (List.range k)
theorem TN {m:Nat} {owner:Array (Option Nat)} {k:Nat} (h:nk m owner k) (hk:k≤m):∃ j:Nat,owner[j]?=some none:=by
  by_cases q:∃ j:Nat,owner[j]?=some none
  · exact q
  · exfalso
    have all:∀ o∈owner.toList,o≠none:=fun o ho e=>by
      obtain ⟨j,hj,e'⟩:=List.getElem_of_mem ho
      exact q ⟨j,by rw [←Array.getElem?_toList,List.getElem?_eq_getElem hj,e',e]⟩
    have len:∀ l:List (Option Nat),(∀ o∈l,o≠none)→(l.filterMap id).length=l.length:=by
      intro l hl
      induction l with
      | nil=>rfl
      | cons o l ih=>
        cases o with
        | none=>exact absurd rfl (hl none (List.mem_cons_self ..))
        | some v=>simp only [List.filterMap_cons,id,List.length_cons]; rw [ih fun o ho=>hl o (List.mem_cons_of_mem _ ho)]
    have:=h.2.length_eq
    rw [len _ all,List.length_range,Array.length_toList,h.1] at this
    lia
theorem TO {l:List (Option Nat)} {j k:Nat} (h:l[j]?=some none):((l.set j (some k)).filterMap id).Perm (k::l.filterMap id):=by
  induction l generalizing j with
  | nil=>simp at h
  | cons o l ih=>
    cases j with
    | zero=>
      simp at h
      subst h
      simp
    | succ j=>
      have h':l[j]?=some none:=by simpa using h
      have:=ih h'
      rw [List.set_cons_succ]
      cases o with
      | none=>simpa using this
      | some v=>
        simp only [List.filterMap_cons,id]
        exact (this.cons v).trans (List.Perm.swap k v _)
theorem TP {m:Nat} {owner:Array (Option Nat)} {k j:Nat} (h:nk m owner k) (hj:owner[j]?=some none):nk m (owner.setIfInBounds j (some k)) (k+1):=by
  refine ⟨by rw [Array.size_setIfInBounds]; exact h.1,?_⟩
  rw [Array.toList_setIfInBounds]
  refine (TO (by rw [Array.getElem?_toList]; exact hj)).trans ?_
  rw [List.range_succ]
  exact (h.2.cons k).trans (List.perm_append_comm (l₁:=[k]))
theorem TQ (h:Int):SetTable.bits h < 2 ^ 64:=by
  unfold SetTable.bits
  have h1:=Int.emod_nonneg h (b:=(2 ^ 64:Int)) (by decide)
  have h2:=Int.emod_lt_of_pos h (b:=(2 ^ 64:Int)) (by decide)
  lia
theorem IV {m:Nat} (c:jd m):∀ (hs:List Int) (owner:Array (Option Nat)) (k:Nat),nk m owner k→k+hs.length≤m+1→
    ∃ IW,nk m IW (k+hs.length)∧hs.foldl (init:=(some (owner,k):Option (Array (Option Nat)×Nat))) (fun acc h=>do
      let (owner,k) ←acc
      let j ←SetTable.layClean.free m owner (SetTable.turns m) (SetTable.bits h % (m+1)) (SetTable.bits h)
      pure (owner.setIfInBounds j (some k),k+1))=some (IW,k+hs.length)
  | [],owner,k,h,_=>⟨owner,h,rfl⟩
  | x::hs,owner,k,h,hk=>by
    rw [List.length_cons] at hk
    obtain ⟨XW,TR⟩:=TN h (by lia)
    obtain ⟨j,hj⟩:=TK c (i:=SetTable.bits x % (m+1)) (Nat.lt_succ_iff.mp (Nat.mod_lt _ (by lia))) (TQ x) TR h.1
    obtain ⟨o',h1,h2⟩:=IV c hs (owner.setIfInBounds j (some k)) (k+1) (TP h (IS _ _ _ _ hj)) (by lia)
    refine ⟨o',by rw [List.length_cons,show k+(hs.length+1)=k+1+hs.length by lia]; exact h1,?_⟩
    rw [List.foldl_cons]
    have e:(do
      let (owner,k) ←(some (owner,k):Option (Array (Option Nat)×Nat))
      let j ←SetTable.layClean.free m owner (SetTable.turns m) (SetTable.bits x % (m+1)) (SetTable.bits x)
      pure (owner.setIfInBounds j (some k),k+1))=some (owner.setIfInBounds j (some k),k+1):=by
      show (SetTable.layClean.free m owner (SetTable.turns m) (SetTable.bits x % (m+1)) (SetTable.bits x)).bind _=_
      rw [show SetTable.layClean.free m owner (SetTable.turns m) (SetTable.bits x % (m+1)) (SetTable.bits x)=some j from hj]
      rfl
    rw [List.length_cons,show k+(hs.length+1)=k+1+hs.length by lia]
    exact (congrArg (fun z=>hs.foldl _ z) e).trans h2
theorem wK {m:Nat} (c:jd m) {fi mo:Nat} {led pl:Bool} {hs:Array Int} (hk:hs.size≤m):∃ t order,SetTable.laid m fi mo led pl hs=some (t,order)∧order.toList.Perm (List.range hs.size)∧t.fits hs.size=true∧t.dummies=#[]∧t.mask=m:=by
  have h0:nk m (Array.replicate (m+1) none) 0:=by
    refine ⟨by simp,?_⟩
    rw [Array.toList_replicate]
    have:(List.replicate (m+1) (none:Option Nat)).filterMap id=[]:=by
      rw [List.filterMap_eq_nil_iff]
      intro a ha
      rw [List.eq_of_mem_replicate ha]; rfl
    rw [this]; exact List.Perm.refl _
  obtain ⟨owner,h1,h2⟩:=IV c hs.toList _ 0 h0 (by rw [Array.length_toList]; lia)
  rw [Nat.zero_add,Array.length_toList] at h1 h2
  have hc:SetTable.layClean m hs=some owner:=by
    unfold SetTable.layClean
    rw [←Array.foldl_toList]
    exact congrArg (Option.map (·.1)) h2
  have rY:((List.range (m+1)).filterMap fun j=>(owner.getD j none).map (j,·)).map (·.2)=owner.toList.filterMap id:=by
    have e:owner.toList=(List.range (m+1)).map fun j=>owner.getD j none:=by
      apply List.ext_getElem?
      intro i
      rw [List.getElem?_map]
      by_cases hi:i < m+1
      · rw [List.getElem?_range hi,Array.getElem?_toList,Option.map_some,Array.getD_eq_getD_getElem?]
        rw [Array.getElem?_eq_getElem (by rw [h1.1]; exact hi)]; rfl
      · rw [Array.getElem?_toList,Array.getElem?_eq_none (by rw [h1.1]; lia),List.getElem?_eq_none (by rw [List.length_range]; lia)]; rfl
    rw [e,List.filterMap_map,List.map_filterMap]
    congr 1
    funext j
    show Option.map (·.2) (Option.map (j,·) (owner.getD j none))=owner.getD j none
    cases owner.getD j none <;> rfl
  have hlen:((List.range (m+1)).filterMap fun j=>(owner.getD j none).map (j,·)).length=hs.size:=by
    rw [←List.length_map (f:=(·.2)),rY,h1.2.length_eq,List.length_range]
  refine ⟨_,_,by unfold SetTable.laid; rw [hc]; rfl,?_,?_,rfl,rfl⟩
  · rw [List.toList_toArray,rY]; exact h1.2
  · unfold SetTable.fits SetTable.fill
    simp only [List.size_toArray,List.length_map,hlen]
    simp
    exact hk
theorem wL {α:Type}:∀ (l:List α) (i:Nat) (x:α),l[i]?=some x→(x::l.eraseIdx i).Perm l
  | a::l,0,x,h=>by cases h; exact List.Perm.refl _
  | a::l,i+1,x,h=>by
    rw [List.eraseIdx_cons_succ]
    exact (List.Perm.swap a x _).trans ((wL l i x (by simpa using h)).cons a)
theorem IX {α:Type} (next:Nat→Nat):∀ (f k:Nat) (l:List α) (out:Array α),f=l.length→(pickOrder.go next f k l out).toList.Perm (out.toList++l)
  | 0,k,l,out,h=>by
    obtain rfl:l=[]:=List.length_eq_zero_iff.mp h.symm
    unfold pickOrder.go
    rw [List.append_nil]
  | f+1,k,l,out,h=>by
    have hl:0 < l.length:=by lia
    have bq:next k % l.length < l.length:=Nat.mod_lt _ hl
    have hx:=List.getElem?_eq_getElem bq
    unfold pickOrder.go
    rw [hx]
    dsimp only
    refine (IX next f (k+1) _ _ (by rw [List.length_eraseIdx,if_pos bq]; lia)).trans ?_
    rw [Array.toList_push,List.append_assoc]
    exact List.Perm.append_left _ (wL l _ _ hx)
theorem TS {α:Type} (next:Nat→Nat) (xs:Array α):(pickOrder next xs).toList.Perm xs.toList:=by
  unfold pickOrder
  exact IX next _ 0 _ _ (Array.length_toList).symm
noncomputable def freshT (P:Params):SetTable:=SetTable.fresh 0 0 (!P.followText "set-order")
noncomputable def l9 (P:Params) (n:Nat):az:=match (freshT P).roomFor n with
  | some k=>match (freshT P).relaid #[] k with
    | some (t,_)=>(#[],1,t)
    | none=>(#[],0,freshT P)
  | none=>(#[],0,freshT P)
noncomputable def fW (P:Params) (d:az):az:=
  let r:=l9 P d.1.size
  match r.2.2.road d.2.2 with
  | .slotForSlot=>(d.1,r.2.1+1,{d.2.2 with finger:=r.2.2.finger,led:=r.2.2.led&&d.2.2.led,moves:=r.2.2.moves,plain:=r.2.2.plain&&d.2.2.plain})
  | _=>match SetTable.laid r.2.2.mask r.2.2.finger r.2.2.moves (r.2.2.led&&d.2.2.led) (r.2.2.plain&&d.2.2.plain) (d.1.map (·.1)) with
    | some (t,order)=>(order.filterMap (d.1[·]?),r.2.1+1,t)
    | none=>d
noncomputable def jY (n m:Nat):Prop:=0 < n∧n≤m∧m≤1000∧jd m∧((n < 5∧m=7)∨(5≤n∧SetTable.sizeAbove (n * 2)=m+1))
theorem wM {P:Params} {n m:Nat} (h:jY n m):∃ ep t,l9 P n=(#[],ep,t)∧t.fits 0=true∧t.dummies=#[]∧t.mask=m∧
    ((freshT P).roomFor n=none∧ep=0∧t=freshT P∨∃ k,(freshT P).roomFor n=some k∧ep=1∧SetTable.sizeAbove k≤sizeLine∧(freshT P).relaid #[] k=some (t,#[])):=by
  obtain ⟨hn,Bm,hm,hc,q⟩:=h
  unfold l9
  have e:(freshT P).roomFor n=if n * 5≥21 then some (n * 2) else none:=by
    unfold SetTable.roomFor SetTable.fill freshT SetTable.fresh
    simp
  rcases q with ⟨q1,q2⟩ | ⟨q1,q2⟩
  · rw [e,if_neg (by lia)]
    exact ⟨0,freshT P,rfl,rfl,rfl,q2.symm▸rfl,.inl ⟨rfl,rfl,rfl⟩⟩
  · rw [e,if_pos (by lia)]
    obtain ⟨t,order,h1,h2,h3,h4,h5⟩:=wK (m:=m) hc (fi:=(freshT P).finger) (mo:=(freshT P).movedTo m) (led:=(freshT P).led) (pl:=(freshT P).plain) (hs:=#[]) (by simp)
    have ho:order=#[]:=by
      have:=h2.length_eq
      simp at this
      exact this
    subst ho
    have hr:(freshT P).relaid #[] (n * 2)=some (t,#[]):=by
      unfold SetTable.relaid
      rw [q2,Nat.add_sub_cancel]
      exact h1
    dsimp only
    rw [hr]
    exact ⟨1,t,rfl,h3,h4,h5,.inr ⟨_,rfl,rfl,by rw [q2]; unfold sizeLine; lia,hr⟩⟩
theorem IY {t:SetTable} (h:t.fits 0=true) (hd:t.dummies=#[]):t.fill=0:=by
  simp only [SetTable.fits,Bool.and_eq_true,beq_iff_eq] at h
  unfold SetTable.fill
  rw [h.1,hd]; rfl
theorem IZ {α:Type} {order:Array Nat} {es:Array α} (h:order.toList.Perm (List.range es.size)):(order.filterMap (es[·]?)).toList.Perm es.toList:=by
  rw [Array.toList_filterMap]
  refine (h.filterMap _).trans ?_
  rw [filterMap_getElem?_range]
theorem rZ {P:Params} {d:az} {l:List Str} {m:Nat} (h:bJ P d l) (hr:jY l.length m):bJ P (fW P d) l∧(fW P d).2.2.dummies=#[]∧(fW P d).2.2.mask=m:=by
  have bX:=h.size
  obtain ⟨ep,t,h1,h2,h3,h4,_⟩:=wM (P:=P) hr
  unfold fW
  rw [bX,h1]
  dsimp only
  have nq:=IY h2 h3
  unfold SetTable.road
  rw [nq]
  simp only [bne_self_eq_false,Bool.false_eq_true,↓reduceIte]
  cases hc:t.mask==d.2.2.mask&&d.2.2.dummies.isEmpty with
  | true=>
    simp only [↓reduceIte]
    rw [Bool.and_eq_true,beq_iff_eq,Array.isEmpty_iff] at hc
    exact ⟨⟨h.el,h.ks,h.nd,h.fit⟩,hc.2,hc.1▸h4⟩
  | false=>
    simp only [Bool.false_eq_true,↓reduceIte]
    obtain ⟨t',order,g1,g2,g3,g4,g5⟩:=wK (m:=t.mask) (h4▸hr.2.2.2.1) (fi:=t.finger) (mo:=t.moves) (led:=t.led&&d.2.2.led) (pl:=t.plain&&d.2.2.plain) (hs:=d.1.map (·.1)) (by rw [Array.size_map,bX,h4]; exact hr.2.1)
    rw [Array.size_map] at g2 g3
    rw [g1]
    dsimp only
    have hp:=IZ (es:=d.1) g2
    have bk:(order.filterMap (d.1[·]?)).size=d.1.size:=by rw [←Array.length_toList,hp.length_eq,Array.length_toList]
    exact ⟨⟨fun e he=>h.el e (hp.mem_iff.mp he),(hp.map _).trans h.ks,h.nd,by show t'.fits (order.filterMap (d.1[·]?)).size=true; rw [bk]; exact g3⟩,g4,g5.trans h4⟩
section
variable {M:Model} {Γ:Ctx} {p:Pos} {s:Shared}
theorem wN {Q:Bool→Shared→Prop} (h:Q (M.w.params.followText "set-order") s):bV M Γ p setsByText Q s:=by
  unfold setsByText
  exact bH (IA (cB h))
theorem TU {Q:Value→Shared→Prop} (h:Q (.ref s.heap.objs.size) {s with heap:=s.heap.push (fz (#[],0,freshT M.w.params))}):bV M Γ p (newSet (.type "frozenset")) Q s:=by
  unfold newSet
  refine bH (wN ?_)
  dsimp only
  simp only [newObj]
  exact bH (Tu (cB h))
theorem I0 {α:Type} {t:Sem α} {a:α} {Q:α→Shared→Prop} (e:t=pure a) (h:Q a s):bV M Γ p t Q s:=e▸cB h
theorem ma {h:Heap} {d:az}:(h.push (fz d)).get? h.objs.size=some (fz d):=Heap.get?_push_size _ rfl
theorem nr {h:Heap} {d d':az}:(h.push (fz d)).update h.objs.size (fun ω=>fz d')=h.push (fz d'):=by
  obtain ⟨objs,life⟩:=h
  show Heap.mk _ _=Heap.mk _ _
  congr 1
  apply Array.ext_getElem?
  intro i
  rw [Array.getElem?_modify,Array.getElem?_push,Array.getElem?_push]
  by_cases e:i=objs.size
  · subst e; simp
  · rw [if_neg e,if_neg e,if_neg (fun q=>e q.symm)]
theorem r0 {h:Heap} {d:az} {a:Addr} {o:Obj} (ho:h.get? a=some o):(h.push (fz d)).get? a=some o:=Heap.get?_push_of_some _ ho
theorem TV {n m:Nat} {h:Heap} (hr:jY n m) (hs:s.heap=h.push (fz (#[],0,freshT M.w.params))) {Q:Unit→Shared→Prop}
    (k:Q () {s with heap:=h.push (fz (l9 M.w.params n))}):bV M Γ p (setRoomFor h.objs.size n) Q s:=by
  obtain ⟨ep,t,h1,h2,h3,h4,q⟩:=wM (P:=M.w.params) hr
  have hg:s.heap.get? h.objs.size=some (fz (#[],0,freshT M.w.params)):=by rw [hs]; exact ma
  unfold setRoomFor
  refine bH (eY hg rfl ?_)
  rcases q with ⟨q1,rfl,rfl⟩ | ⟨w,q1,rfl,q2,q3⟩
  · dsimp only
    rw [q1]
    rw [h1] at k
    refine cB ?_
    rw [←hs] at k
    exact k
  · dsimp only
    rw [q1]
    dsimp only
    unfold setRelay
    refine bH (eY hg rfl ?_)
    dsimp only
    rw [if_neg (Nat.not_lt.mpr q2)]
    have e:((#[]:Array (Int×Value)).map (·.1))=#[]:=by simp
    rw [e,q3]
    refine bH (I0 (a:=(#[],t)) ?_ ?_)
    · rfl
    · dsimp only
      refine l8 (d:=(#[],0,freshT M.w.params)) hg (by simp) ?_
      rw [hs,nr]
      rw [h1] at k
      exact k
theorem TX {a:Addr} {d:az} {l:List Str} {m:Nat} {h:Heap} (hd:bJ M.w.params d l) (hr:jY l.length m) (ha:h.get? a=some (fz d)) (hs:s.heap=h.push (fz (#[],0,freshT M.w.params))) {Q:Unit→Shared→Prop} {each:Sem Unit}
    (k:Q () {s with heap:=h.push (fz (fW M.w.params d))}):bV M Γ p (setMerge h.objs.size a each) Q s:=by
  have bX:=hd.size
  have aT:(h.objs.size==a)=false:=by
    rw [beq_eq_false_iff_ne]
    exact Nat.ne_of_gt (Heap.lt_size ha)
  unfold setMerge
  rw [aT]
  simp only [Bool.false_eq_true,↓reduceIte]
  refine bH (eY (d:=d) (by rw [hs]; exact r0 ha) hd.fit ?_)
  have wO:d.1.isEmpty=false:=by
    have h0:0 < d.1.size:=by rw [bX]; exact hr.1
    cases h:d.1.isEmpty with
    | false=>rfl
    | true=>rw [Array.isEmpty_iff] at h; rw [h] at h0; exact absurd h0 (by simp)
  rw [wO]
  simp only [Bool.false_eq_true,↓reduceIte]
  obtain ⟨ep,t,h1,h2,h3,h4,q⟩:=wM (P:=M.w.params) hr
  rw [bX]
  refine bH (TV hr hs ?_)
  have hg:(h.push (fz (l9 M.w.params l.length))).get? h.objs.size=some (fz (l9 M.w.params l.length)):=ma
  refine bH (eY (d:=l9 M.w.params l.length) hg (by rw [h1]; exact h2) ?_)
  unfold fW at k
  rw [bX] at k
  rw [h1] at k hg ⊢
  dsimp only at k ⊢
  have nq:=IY h2 h3
  unfold SetTable.road at k ⊢
  rw [nq] at k ⊢
  simp only [bne_self_eq_false,Bool.false_eq_true,↓reduceIte] at k ⊢
  cases hc:t.mask==d.2.2.mask&&d.2.2.dummies.isEmpty with
  | true=>
    rw [hc] at k
    simp only [↓reduceIte] at k ⊢
    refine l8 (d:=(#[],ep,t)) hg (by rw [bX]; have:=hr.2.1; have:=hr.2.2.1; unfold sizeLine; lia) ?_
    rw [nr]
    exact k
  | false=>
    rw [hc] at k
    simp only [Bool.false_eq_true,↓reduceIte] at k ⊢
    obtain ⟨t',order,g1,g2,g3,g4,g5⟩:=wK (m:=t.mask) (h4▸hr.2.2.2.1) (fi:=t.finger) (mo:=t.moves) (led:=t.led&&d.2.2.led) (pl:=t.plain&&d.2.2.plain) (hs:=d.1.map (·.1)) (by rw [Array.size_map,bX,h4]; exact hr.2.1)
    rw [Array.size_map] at g2 g3
    rw [g1] at k ⊢
    dsimp only at k ⊢
    have hp:=IZ (es:=d.1) g2
    have bk:(order.filterMap (d.1[·]?)).size=d.1.size:=by rw [←Array.length_toList,hp.length_eq,Array.length_toList]
    refine bH (I0 (a:=(order.filterMap (d.1[·]?),t')) ?_ ?_)
    · show (if ((order.filterMap (d.1[·]?)).size != d.1.size)=true then _ else _)=_
      rw [if_neg (by rw [bk]; simp)]
    · dsimp only
      refine l8 (d:=(#[],ep,t)) hg (by rw [bk,bX]; have:=hr.2.1; have:=hr.2.2.1; unfold sizeLine; lia) ?_
      rw [nr]
      exact k
end
noncomputable def tokOf:Value→Tok
  | .str _ t=>t
  | _=>default
noncomputable def wD (P:Params) (b:Addr) (d:az):List (Int×Value):=if P.followText "set-order" then (pickOrder (P.setOrder b d.2.1) d.1).toList else d.1.toList
noncomputable def iH (P:Params) (db dc:az):az:=
  if P.followText "set-order"||(db.2.2.led&&db.2.2.plain)||decide (db.1.size≤1) then dc
  else if (dc.2.2.led&&!db.2.2.led)||(dc.2.2.plain&&!db.2.2.plain) then (dc.1,dc.2.1+1,{dc.2.2 with led:=dc.2.2.led&&db.2.2.led,plain:=dc.2.2.plain&&db.2.2.plain}) else dc
noncomputable def nt (es:List (Int×Value)) (d:az):az:=es.foldl (fun d e=>l7 e.1 (keyOf e.2) (tokOf e.2) d) d
noncomputable def r3 (P:Params) (b:Addr) (da db:az):az:=nt (wD P b db) (iH P db (fW P da))
noncomputable def kW (k:Str) (d:az):az:=match d.1.findIdx? (fun e=>e.2.isStr k) with
  | some i=>(SetTable.eraseAt d.1 i,d.2.1+1,d.2.2.drop i)
  | none=>d
noncomputable def kY (es:List (Int×Value)) (d:az):az:=es.foldl (fun d e=>kW (keyOf e.2) d) d
noncomputable def r4 (P:Params) (b:Addr) (da db:az):az:=kY (wD P b db) (fW P da)
theorem bJ.perm {P:Params} {d:az} {l l':List Str} (h:bJ P d l) (p:l.Perm l'):bJ P d l':=⟨h.el,h.ks.trans p,(p.nodup_iff).mp h.nd,h.fit⟩
theorem me {P:Params} {b:Addr} {d:az}:(wD P b d).Perm d.1.toList:=by
  unfold wD
  split
  · exact TS _ _
  · exact List.Perm.refl _
noncomputable def r5 (P:Params) (es:List (Int×Value)):Prop:=∀ e∈es,∃ k t,e=(PyData.keyHash P k,Value.str k t)
theorem I1 {P:Params} {db dc:az} {l:List Str} (h:bJ P dc l):bJ P (iH P db dc) l∧(iH P db dc).2.2.dummies=dc.2.2.dummies∧(iH P db dc).2.2.mask=dc.2.2.mask:=by
  unfold iH
  split
  · exact ⟨h,rfl,rfl⟩
  · split
    · exact ⟨⟨h.el,h.ks,h.nd,h.fit⟩,rfl,rfl⟩
    · exact ⟨h,rfl,rfl⟩
noncomputable def keysOf (es:List (Int×Value)):List Str:=es.map fun e=>keyOf e.2
theorem I3 {P:Params}:∀ (es:List (Int×Value)) {d:az} {l:List Str},bJ P d l→r5 P es→(l++keysOf es).Nodup→bJ P (nt es d) (l++keysOf es)
  | [],d,l,h,_,_=>by show bJ P d (l++[]); rw [List.append_nil]; exact h
  | e::es,d,l,h,he,hn=>by
    obtain ⟨k,t,rfl⟩:=he e (.head _)
    have mP:((l++[k])++keysOf es).Nodup:=by rw [List.append_assoc]; exact hn
    have hk:k∉l:=fun hk=>by
      have:=(List.nodup_append.mp hn).2.2 k hk k (.head _)
      exact this rfl
    have:=I3 es (rW (tk:=t) h hk) (fun e iO=>he e (.tail _ iO)) mP
    rw [List.append_assoc] at this
    exact this
theorem wQ {α:Type} (xs:Array α) (i:Nat):(SetTable.eraseAt xs i).toList=xs.toList.eraseIdx i:=by
  unfold SetTable.eraseAt
  rw [Array.toList_append,Array.toList_extract,Array.toList_extract,List.eraseIdx_eq_take_drop_succ]
  simp
  rw [List.take_of_length_le]
  simp
theorem wR {α:Type} (xs:Array α) (i:Nat) (h:i < xs.size):(SetTable.eraseAt xs i).size=xs.size - 1:=by
  rw [←Array.length_toList,wQ,List.length_eraseIdx,if_pos (by simpa using h),Array.length_toList]
theorem I4 {α:Type} (xs:Array α) (p:Nat) (x:α):(SetTable.insertAt xs p x).size=xs.size+1:=by
  have:=(SetTable.insertAt_perm xs p x).length_eq
  rw [Array.length_toList,Array.length_toList,Array.size_push] at this; exact this
theorem TY {t:SetTable} {n i:Nat} (h:t.fits n=true) (hi:i < n):(t.drop i).fits (n - 1)=true∧(t.drop i).dummies.size=t.dummies.size+1∧(t.drop i).mask=t.mask:=by
  simp only [SetTable.fits,Bool.and_eq_true,beq_iff_eq,decide_eq_true_eq] at h
  unfold SetTable.drop
  rw [Array.getElem?_eq_getElem (by rw [h.1]; exact hi)]
  dsimp only
  have h2:=h.2
  unfold SetTable.fill at h2
  refine ⟨?_,I4 _ _ _,rfl⟩
  simp only [SetTable.fits,Bool.and_eq_true,beq_iff_eq,decide_eq_true_eq]
  unfold SetTable.fill
  dsimp only
  rw [wR _ _ (by rw [h.1]; exact hi),I4,h.1]
  rw [h.1] at h2
  lia
theorem bJ.find {P:Params} {d:az} {l:List Str} {x:Str} (h:bJ P d l) (hx:x∈l):∃ i t,d.1.findIdx? (fun e=>e.2.isStr x)=some i∧d.1[i]?=some (PyData.keyHash P x,Value.str x t)∧i < d.1.size:=by
  obtain ⟨e,he,hk⟩:=List.mem_map.mp (h.ks.mem_iff.mpr hx)
  obtain ⟨k,t,rfl⟩:=h.el e he
  obtain rfl:k=x:=hk
  have hs:(d.1.findIdx? (fun e=>e.2.isStr k)).isSome=true:=by
    rw [Array.findIdx?_isSome,Array.any_eq_true]
    obtain ⟨i,hi,hg⟩:=Array.mem_iff_getElem.mp (Array.mem_toList_iff.mp he)
    exact ⟨i,hi,by rw [hg]; exact beq_self_eq_true k⟩
  obtain ⟨i,hi⟩:=Option.isSome_iff_exists.mp hs
  obtain ⟨h1,h2,_⟩:=Array.findIdx?_eq_some_iff_getElem.mp hi
  obtain ⟨k',t',e'⟩:=h.el d.1[i] (Array.getElem_mem_toList h1)
  have:k'=k:=by rw [e'] at h2; exact eq_of_beq h2
  subst this
  exact ⟨i,t',hi,by rw [Array.getElem?_eq_getElem h1,e'],h1⟩
theorem I6 {P:Params} {d:az} {l l':List Str} {x:Str} (h:bJ P d l) (hp:(x::l').Perm l):
    bJ P (kW x d) l'∧(kW x d).2.2.dummies.size=d.2.2.dummies.size+1∧(kW x d).2.2.mask=d.2.2.mask:=by
  obtain ⟨i,t,h1,h2,h3⟩:=h.find (hp.mem_iff.mp (.head _))
  have hf:=TY h.fit h3
  unfold kW
  rw [h1]
  dsimp only
  refine ⟨⟨?_,?_,((hp.nodup_iff).mpr h.nd).of_cons,?_⟩,hf.2⟩
  · intro e he
    rw [wQ] at he
    exact h.el e (List.mem_of_mem_eraseIdx he)
  · rw [wQ]
    have hq:=(wL d.1.toList i _ (by rw [Array.getElem?_toList]; exact h2)).map fun e:Int×Value=>keyOf e.2
    rw [List.map_cons] at hq
    exact (List.perm_cons x).mp ((hq.trans h.ks).trans hp.symm)
  · show (d.2.2.drop i).fits (SetTable.eraseAt d.1 i).size=true
    rw [wR _ _ h3]
    exact hf.1
theorem wU {P:Params}:∀ (es:List (Int×Value)) {d:az} {l l':List Str},bJ P d l→(keysOf es++l').Perm l→bJ P (kY es d) l'∧(kY es d).2.2.dummies.size=d.2.2.dummies.size+es.length∧(kY es d).2.2.mask=d.2.2.mask
  | [],d,l,l',h,hp=>⟨h.perm hp.symm,rfl,rfl⟩
  | e::es,d,l,l',h,hp=>by
    obtain ⟨h1,h2,h3⟩:=I6 (l':=keysOf es++l') (x:=keyOf e.2) h hp
    obtain ⟨g1,g2,g3⟩:=wU es h1 (List.Perm.refl _)
    refine ⟨g1,?_,g3.trans h3⟩
    show (kY es (kW (keyOf e.2) d)).2.2.dummies.size=_
    rw [g2,h2,List.length_cons]; lia
section
variable {M:Model} {Γ:Ctx} {p:Pos} {s:Shared} {α β:Type}
theorem wV {f:α→β→Sem (ForInStep β)} {Q:β→Shared→Prop} (I:List α→β→Shared→Prop)
    (turn:∀ x r b s,I (x::r) b s→bV M Γ p (f x b) (fun o s'=>match o with | .yield b'=>I r b' s' | .done b'=>Q b' s') s)
    (fin:∀ b s,I [] b s→Q b s):∀ (l:List α) (b:β) (s:Shared),I l b s→bV M Γ p (forIn l b f) Q s
  | [],b,s,h=>by rw [List.forIn_nil]; exact cB (fin b s h)
  | x::l,b,s,h=>by
    rw [List.forIn_cons]
    refine bH ?_
    intro Q' E k
    refine turn x l b s h _ _ fun o s' ho=>?_
    cases o with
    | done b'=>exact k _ _ (cB ho)
    | yield b'=>exact k _ _ (wV I turn fin l b' s' ho)
theorem I7 {f:α→β→Sem (ForInStep β)} {Q:β→Shared→Prop} (I:List α→β→Shared→Prop)
    (turn:∀ x r b s,I (x::r) b s→bV M Γ p (f x b) (fun o s'=>match o with | .yield b'=>I r b' s' | .done b'=>Q b' s') s)
    (fin:∀ b s,I [] b s→Q b s) (xs:Array α) (b:β) (h:I xs.toList b s):bV M Γ p (forIn xs b f) Q s:=by
  rw [←Array.forIn_toList]
  exact wV I turn fin _ b s h
theorem pI {a:Addr} {d:az} {Q:Nat→Shared→Prop} (ho:s.heap.get? a=some (fz d)) (hf:d.2.2.fits d.1.size=true) (h:Q d.2.1 s):bV M Γ p (setEpoch a) Q s:=by
  unfold setEpoch
  exact bH (eY ho hf (cB h))
theorem I8 {a:Addr} {d:az} {Q:Array (Int×Value)→Shared→Prop} (ho:s.heap.get? a=some (fz d)) (hf:d.2.2.fits d.1.size=true) (h:Q d.1 s):bV M Γ p (setEntries a) Q s:=by
  unfold setEntries
  exact bH (eY ho hf (cB h))
theorem TZ {P:Params} {Q:Bool→Shared→Prop} {sets:List Addr} (hs:∀ a∈sets,∃ d l,s.heap.get? a=some (fz d)∧bJ P d l) (h:Q true s):bV M Γ p (setsQuiet sets) Q s:=by
  unfold setsQuiet
  refine bH ?_
  refine wV (fun l b s'=>s'=s∧b=(none,PUnit.unit)∧∀ a∈l,∃ d l,s.heap.get? a=some (fz d)∧bJ P d l) ?_ ?_ sets _ s ⟨rfl,rfl,hs⟩
  · rintro a r b s' ⟨rfl,rfl,hl⟩
    obtain ⟨d,l,h1,h2⟩:=hl a (.head _)
    refine bH (I8 h1 h2.fit ?_)
    refine bH ?_
    refine I7 (fun es b aH=>aH=s'∧b=(none,PUnit.unit)∧r5 P es) ?_ ?_ d.1 _ ⟨rfl,rfl,h2.el⟩
    · rintro e r' b aH ⟨rfl,rfl,he⟩
      obtain ⟨k,t,rfl⟩:=he e (.head _)
      exact cB ⟨rfl,rfl,fun e iO=>he e (.tail _ iO)⟩
    · rintro b aH ⟨rfl,rfl,_⟩
      exact cB ⟨rfl,rfl,fun a ha=>hl a (.tail _ ha)⟩
  · rintro b s' ⟨rfl,rfl,_⟩
    exact cB h
end
section
variable {M:Model} {Γ:Ctx} {p:Pos} {s:Shared} {α β:Type}
theorem T3 {b:Addr} {d:az} {Q:Array (Int×Value)→Shared→Prop} (ho:s.heap.get? b=some (fz d)) (hf:d.2.2.fits d.1.size=true)
    (hc:(M.w.params.followText "set-order"||(d.2.2.led&&d.2.2.plain)||decide (d.1.size≤1))=true) (h:∀ xs:Array (Int×Value),xs.toList=wD M.w.params b d→Q xs s):bV M Γ p (setWalk b) Q s:=by
  unfold setWalk
  refine bH (eY ho hf ?_)
  obtain ⟨es,ep,t⟩:=d
  dsimp only at hc ⊢
  refine bH (wN ?_)
  unfold wD at h
  cases hb:M.w.params.followText "set-order" with
  | true=>
    rw [hb] at h
    simp only [↓reduceIte] at h ⊢
    exact bH (IA (cB (h _ rfl)))
  | false=>
    rw [hb] at h hc
    simp only [Bool.false_eq_true,↓reduceIte,Bool.false_or] at h hc ⊢
    have h1:(!t.plain&&decide (es.size > 1))=false:=by
      cases hl:t.led <;> cases hp:t.plain <;> rw [hl,hp] at hc <;> simp at hc ⊢ <;> lia
    have h2:(!t.led&&decide (es.size > 1))=false:=by
      cases hl:t.led <;> cases hp:t.plain <;> rw [hl,hp] at hc <;> simp at hc ⊢ <;> lia
    show bV M Γ p (if (!t.plain&&decide (es.size > 1))=true then _ else (do
      (if (!t.led&&decide (es.size > 1))=true then unsupported "set:maker-not-led" else pure PUnit.unit)
      pure es)) Q s
    rw [h1,h2]
    exact bH (cB (cB (h _ rfl)))
theorem I9 {b r:Addr} {db dc:az} {l l':List Str} {P:Params} {Q:Array (Int×Value)→Shared→Prop} (f:Bool) (ho:s.heap.get? b=some (fz db)) (hb:bJ P db l) (hr:s.heap.get? r=some (fz dc)) (hc:bJ P dc l') (hz:dc.1.size≤sizeLine)
    (h:∀ xs:Array (Int×Value),xs.toList=wD M.w.params b db→Q xs {s with heap:=s.heap.update r fun ω=>fz (if f then iH M.w.params db dc else dc)}) (hs:s.heap.update r (fun ω=>fz dc)=s.heap):
    bV M Γ p (setWalkUnseen b [r] (if f then some r else none)) Q s:=by
  unfold setWalkUnseen
  refine bH (eY ho hb.fit ?_)
  dsimp only
  refine bH (wN ?_)
  have same:∀ {d'},d'=dc→({s with heap:=s.heap.update r fun ω=>fz d'}:Shared)=s:=fun e=>by subst e; rw [hs]
  cases hq:M.w.params.followText "set-order"||(db.2.2.led&&db.2.2.plain)||decide (db.1.size≤1) with
  | true=>
    simp only [↓reduceIte]
    refine T3 ho hb.fit hq fun xs hx=>?_
    have:=h xs hx
    rwa [same (by unfold iH; rw [if_pos hq]; split <;> rfl)] at this
  | false=>
    simp only [Bool.false_eq_true,↓reduceIte]
    refine bH (TZ (P:=P) (fun a ha=>?_) ?_)
    · rcases List.mem_cons.mp ha with rfl | ha
      · exact ⟨db,l,ho,hb⟩
      · rw [List.mem_singleton] at ha; subst ha; exact ⟨dc,l',hr,hc⟩
    simp only [Bool.not_true,Bool.false_eq_true,↓reduceIte]
    refine bH (wG ?_)
    have hw:db.1.toList=wD M.w.params b db:=by
      unfold wD
      rw [if_neg]
      intro q; rw [q] at hq; simp at hq
    have hx:=h db.1 hw
    cases f with
    | false=>
      simp only [Bool.false_eq_true,↓reduceIte] at hx ⊢
      rw [hs] at hx
      exact cB hx
    | true=>
      simp only [↓reduceIte] at hx ⊢
      refine bH (eY hr hc.fit ?_)
      unfold iH at hx
      rw [if_neg (by rw [hq]; simp)] at hx
      split
      · rename_i hg
        rw [if_pos hg] at hx
        exact bH (l8 hr hz (cB hx))
      · rename_i hg
        rw [if_neg hg,hs] at hx
        exact cB hx
end
section
variable {M:Model} {Γ:Ctx} {p:Pos} {s:Shared} {α β:Type}
theorem Ja {id:String} {b:Addr} {d:az} {Q:Unit→Shared→Prop} (ho:s.heap.get? b=some (fz d)) (hf:d.2.2.fits d.1.size=true) (h:Q () s):bV M Γ p (Builtin.Frozenset.unchanged id b d.2.1) Q s:=by
  unfold Builtin.Frozenset.unchanged
  refine bH (pI ho hf ?_)
  simp only [bne_self_eq_false,Bool.false_eq_true,↓reduceIte]
  exact cB h
theorem T4 {id:String} {b r:Addr} {db dc:az} {l lb:List Str} {Q:Unit→Shared→Prop} (ki:r≠b) (hb:s.heap.get? b=some (fz db)) (iI:bJ M.w.params db lb) (hr:s.heap.get? r=some (fz dc)) (hc:bJ M.w.params dc l)
    (hs:s.heap.update r (fun ω=>fz dc)=s.heap) (h0:0 < l.length) (T5:0 < lb.length) (hd:dc.2.2.dummies=#[]) (y3:(l.length+lb.length) * 5 < dc.2.2.mask * 3) (hlen:l.length+lb.length < 4000) (oB:(l++lb).Nodup)
    (h:Q () {s with heap:=s.heap.update r fun ω=>fz (nt (wD M.w.params b db) (iH M.w.params db dc))}):bV M Γ p (setMerge r b (Builtin.Frozenset.unchanged id b db.2.1)) Q s:=by
  have bX:=iI.size
  have Jb:=hc.size
  have nq:dc.2.2.fill=l.length:=by
    have:=hc.fit
    simp only [SetTable.fits,Bool.and_eq_true,beq_iff_eq] at this
    unfold SetTable.fill
    rw [this.1,hd,Jb]; rfl
  have aT:(r==b)=false:=by rw [beq_eq_false_iff_ne]; exact ki
  unfold setMerge
  rw [aT]
  simp only [Bool.false_eq_true,↓reduceIte]
  refine bH (eY hb iI.fit ?_)
  have wO:db.1.isEmpty=false:=by
    have h0:0 < db.1.size:=by rw [bX]; exact T5
    cases h:db.1.isEmpty with
    | false=>rfl
    | true=>rw [Array.isEmpty_iff] at h; rw [h] at h0; exact absurd h0 (by simp)
  rw [wO]
  simp only [Bool.false_eq_true,↓reduceIte]
  have T6:dc.2.2.roomFor db.1.size=none:=by
    unfold SetTable.roomFor
    rw [nq,bX,if_neg (by lia)]
  refine bH ?_
  unfold setRoomFor
  refine bH (eY hr hc.fit ?_)
  rw [T6]
  refine cB ?_
  refine bH (eY hr hc.fit ?_)
  have T7:dc.2.2.road db.2.2=.oneByOne:=by
    unfold SetTable.road
    rw [nq,if_pos]
    exact bne_iff_ne.mpr (by lia)
  rw [T7]
  refine bH (I9 true hb iI hr hc (by rw [Jb]; unfold sizeLine; lia) (fun xs hx=>?_) hs)
  simp only [↓reduceIte]
  have T8:=(I1 (db:=db) hc).1
  have hw:(keysOf (wD M.w.params b db)).Perm lb:=(me.map _).trans iI.ks
  refine bH ?_
  refine I7 (fun es u s'=>∃ d' l',s'=({s with heap:=s.heap.update r fun ω=>fz d'}:Shared)∧nt es d'=nt (wD M.w.params b db) (iH M.w.params db dc)∧bJ M.w.params d' l'∧r5 M.w.params es∧(l'++keysOf es).Nodup∧(l'++keysOf es).length < 4000) ?_ ?_ xs _ ?_
  · rintro e r' u s' ⟨d',l',rfl,h1,h2,h3,h4,h5⟩
    obtain ⟨k,t,rfl⟩:=h3 e (.head _)
    have hk:k∉l':=fun hk=>(List.nodup_append.mp h4).2.2 k hk k (.head _) rfl
    have hg:(s.heap.update r fun ω=>fz d').get? r=some (fz d'):=IH hr
    have r6:∀ pJ,(s.heap.update r fun ω=>fz pJ).get? b=some (fz db):=fun pJ=>(Heap.get?_update_other _ _ ki).trans hb
    dsimp only
    refine bH (IB (IK h2 hk (by rw [List.length_append] at h5; lia) hg ?_))
    simp only [IG]
    refine bH (Ja (r6 _) iI.fit ?_)
    refine bH (eY (r6 _) iI.fit ?_)
    simp only [bne_self_eq_false,Bool.false_eq_true,↓reduceIte]
    refine cB ⟨_,l'++[k],rfl,h1,rW h2 hk,fun e he=>h3 e (.tail _ he),?_,?_⟩
    · rw [List.append_assoc]; exact h4
    · rw [List.append_assoc]; exact h5
  · rintro u s' ⟨d',l',rfl,h1,_⟩
    have e:d'=nt (wD M.w.params b db) (iH M.w.params db dc):=h1
    rw [e]
    exact cB h
  · refine ⟨_,l,rfl,by rw [hx],T8,?_,?_,?_⟩
    · rw [hx]; exact fun e he=>iI.el e (me.mem_iff.mp he)
    · rw [hx]; exact (hw.append_left l).nodup_iff.mpr oB
    · rw [hx,List.length_append,hw.length_eq]; exact hlen
end
theorem T9:entryFor table "frozenset.__or__"=some Builtin.«frozenset.__or__»:=entryFor_of_tree (by kernel_rfl)
theorem Ua:entryFor table "frozenset.__sub__"=some Builtin.«frozenset.__sub__»:=entryFor_of_tree (by kernel_rfl)
theorem Jc:isSubtype (.type "frozenset") (.type "set")=pure false:=by rw [isSubtype_type]; kernel_rfl
theorem Ub:isSubtype (.type "frozenset") (.type "frozenset")=pure true:=by rw [isSubtype_type]; kernel_rfl
section
variable {prog:Program} {w:World} {A:Around} {E:Value→Shared→Prop} {s:Shared} {α β:Type}
theorem gh {t:Sem α} {Q:α→Shared→Prop} (h:∀ Γ p,bV (model prog w) Γ p t Q s):wpAny (model prog w) A t Q E s:=Tv h
theorem Uc {r:Addr} {d:az} {l:List Str} {x:Str} {tk:Tok} {Q:Bool→Shared→Prop} (hd:bJ w.params d l) (hx:x∈l) (hl:l.length < 4000) (ho:s.heap.get? r=some (fz d))
    (h:Q true {s with heap:=s.heap.update r fun ω=>fz (kW x d)}):wpAny (model prog w) A (setDiscardHashed r (.str x tk) (PyData.keyHash w.params x)) Q E s:=by
  obtain ⟨i,t,h1,h2,h3⟩:=hd.find hx
  have bX:=hd.size
  have hb:byScan (.str x tk) d.1=true:=by
    simp only [byScan,Bool.and_eq_true,decide_eq_true_eq]
    exact ⟨⟨rfl,by rw [bX]; show l.length < 4096; lia⟩,IJ hd⟩
  unfold setDiscardHashed setFind setFindIn
  refine wpAny_bind ?_
  refine wpAny_bind (gh fun Γ p=>eY ho hd.fit ?_)
  dsimp only
  rw [hb]
  simp only [↓reduceIte]
  refine wpAny_bind (wpAny_rule ?_)
  refine wpAny_bind ?_
  unfold setScan
  dsimp only
  rw [II hd]
  simp only [↓reduceIte]
  unfold setScanStrs
  rw [h1]
  dsimp only
  rw [h2]
  dsimp only
  refine wpAny_bind (gh fun Γ p=>pI ho hd.fit ?_)
  refine wpAny_bind (eqBool_str ?_)
  simp only [beq_self_eq_true,Bool.false_and,Bool.false_eq_true,↓reduceIte]
  refine wpAny_bind (gh fun Γ p=>pI ho hd.fit ?_)
  simp only [bne_self_eq_false,Bool.false_eq_true,↓reduceIte]
  refine wpAny_pure (wpAny_pure ?_)
  dsimp only
  refine wpAny_bind (gh fun Γ p=>eY ho hd.fit ?_)
  refine wpAny_bind (gh fun Γ p=>l8 ho (by rw [wR _ _ h3,bX]; unfold sizeLine; lia) ?_)
  refine wpAny_bind (wpAny_point (wpAny_pure ?_))
  unfold kW at h
  rw [h1] at h
  exact h
theorem mf {d:az} {r:Addr} {Q:Bool→Shared→Prop} (ho:s.heap.get? r=some (fz d)) (h:Q true s):wpAny (model prog w) A (Builtin.Frozenset.isAnySet (.ref r)) Q E s:=by
  have hT:s.TypeIs (.ref r) "frozenset":=⟨_,ho,rfl⟩
  unfold Builtin.Frozenset.isAnySet
  refine wpAny_bind (wpAny_isInstance hT Jc ?_)
  show wpAny _ _ (isInstance (.ref r) (.type "frozenset")) _ _ _
  exact wpAny_isInstance hT Ub h
theorem Ud {d:az} {r:Addr} {Q:Value→Shared→Prop} (ho:s.heap.get? r=some (fz d)) (h:Q (.type "frozenset") s):wpAny (model prog w) A (Builtin.Frozenset.baseOf r) Q E s:=by
  have hT:s.TypeIs (.ref r) "frozenset":=⟨_,ho,rfl⟩
  unfold Builtin.Frozenset.baseOf
  refine wpAny_bind (wpAny_isInstance hT Jc ?_)
  simp only [Bool.false_eq_true,↓reduceIte]
  exact wpAny_pure h
theorem Jd {a:Addr} {d:az} {l:List Str} {m:Nat} {Q:Value→Shared→Prop} (hd:bJ w.params d l) (hr:jY l.length m) (ha:s.heap.get? a=some (fz d))
    (h:Q (.ref s.heap.objs.size) {s with heap:=s.heap.push (fz (fW w.params d))}):wpAny (model prog w) A (Builtin.Frozenset.copyOf a) Q E s:=by
  unfold Builtin.Frozenset.copyOf
  refine wpAny_bind (Ud ha ?_)
  refine wpAny_bind (gh fun Γ p=>TU ?_)
  refine wpAny_bind (wpAny_pure ?_)
  refine wpAny_bind (gh fun Γ p=>TX (h:=s.heap) hd hr ha rfl ?_)
  exact wpAny_pure h
end
section
variable {prog:Program} {w:World} {A:Around} {E:Value→Shared→Prop} {s:Shared} {α β:Type}
theorem Ue {a b:Addr} (h:a≠b):(Value.ref b != Value.ref a)=true:=bne_iff_ne.mpr fun e=>by cases e; exact h rfl
theorem Ug {a b:Addr} (h:a≠b):(Value.ref b==Value.ref a)=false:=beq_eq_false_iff_ne.mpr fun e=>by cases e; exact h rfl
structure wW (P:Params) (da db:az) (la lb:List Str) (m:Nat):Prop where
  da:bJ P da la
  db:bJ P db lb
  rm:jY la.length m
  pos:0 < lb.length
  fit:(la.length+lb.length) * 5 < m * 3
  wX:la.length+lb.length < 4000
  nd:(la++lb).Nodup
theorem Uh {a b:Addr} {da db:az} {la lb:List Str} {m:Nat} {Q:PySem.Fin→Shared→Prop} (f:wW w.params da db la lb m) (e9:a≠b) (ha:s.heap.get? a=some (fz da)) (hb:s.heap.get? b=some (fz db))
    (h:Q (.done (.ret (.ref s.heap.objs.size))) {s with heap:=s.heap.push (fz (r3 w.params b da db))}):wpAny (model prog w) A (Builtin.«frozenset.__or__» ⟨[.ref a,.ref b],[]⟩) Q E s:=by
  unfold Builtin.«frozenset.__or__»
  show wpAny _ _ (Builtin.Frozenset.slot1 "__or__" _ >>= _) _ _ _
  refine wpAny_bind ?_
  unfold Builtin.Frozenset.slot1
  refine wpAny_bind (wpAny_of_eq (a:=(.ref a,[.ref b])) rfl ?_)
  refine wpAny_pure ?_
  show wpAny _ _ ((Builtin.Frozenset.isAnySet (.ref a) <&&> Builtin.Frozenset.isAnySet (.ref b)) >>= _) _ _ _
  refine wpAny_bind (wpAny_bind (mf ha ?_))
  show wpAny _ _ (Builtin.Frozenset.isAnySet (.ref b)) _ _ _
  refine mf hb ?_
  simp only [Bool.not_true,Bool.false_eq_true,↓reduceIte]
  refine wpAny_bind (wpAny_pure ?_)
  refine wpAny_bind ?_
  show wpAny _ _ (Builtin.Frozenset.copyOf a >>= _) _ _ _
  refine wpAny_bind (Jd f.da f.rm ha ?_)
  rw [Ue e9]
  simp only [↓reduceIte]
  have fX:=rZ f.da f.rm
  have iI:b < s.heap.objs.size:=Heap.lt_size hb
  have hr:s.heap.objs.size≠b:=Nat.ne_of_gt iI
  have dY:(s.heap.push (fz (fW w.params da))).get? b=some (fz db):=r0 hb
  refine wpAny_bind (wpAny_pure ?_)
  refine wpAny_bind (wpAny_holding ?_)
  unfold Builtin.Frozenset.updateFrom
  refine wpAny_bind (mf dY ?_)
  simp only [↓reduceIte]
  refine wpAny_bind (wpAny_pure ?_)
  unfold Builtin.Frozenset.merge
  refine wpAny_bind (gh fun Γ p=>pI dY f.db.fit ?_)
  have pK:∀ d',((s.heap.push (fz (fW w.params da))).update s.heap.objs.size fun ω=>fz d')=s.heap.push (fz d'):=fun d'=>nr
  refine gh fun Γ p=>T4 hr dY f.db ma fX.1 (pK _) f.rm.1 f.pos fX.2.1 (by rw [fX.2.2]; exact f.fit) f.wX f.nd ?_
  dsimp only
  rw [pK]
  exact wpAny_pure (wpAny_pure h)
theorem Ui {r:Addr} {d:az} {M:Model} {Γ:Ctx} {p:Pos} {Q:Unit→Shared→Prop} (ho:s.heap.get? r=some (fz d)) (hf:d.2.2.fits d.1.size=true) (ht:d.2.2.dummies.size≤d.2.2.mask / 4) (h:Q () s):bV M Γ p (setTidy r) Q s:=by
  unfold setTidy
  refine bH (eY ho hf ?_)
  dsimp only
  unfold SetTable.tooManyDummies
  rw [if_neg (by simpa using ht)]
  exact cB h
theorem r7 {r:Addr} {d:az} {Q:Nat→Shared→Prop} (ho:s.heap.get? r=some (fz d)) (hf:d.2.2.fits d.1.size=true) (h:Q d.1.size s):wpAny (model prog w) A (Builtin.Frozenset.sizeOf r) Q E s:=by
  unfold Builtin.Frozenset.sizeOf
  exact wpAny_bind (gh fun Γ p=>I8 ho hf (wpAny_pure h))
structure wY (P:Params) (da db:az) (la lb lc:List Str) (m:Nat):Prop where
  da:bJ P da la
  db:bJ P db lb
  rm:jY la.length m
  big:lb.length < la.length / 4
  wX:la.length < 4000
  cut:(lb++lc).Perm la
  tidy:lb.length≤m / 4
theorem Uj {a b:Addr} {da db:az} {la lb lc:List Str} {m:Nat} {Q:PySem.Fin→Shared→Prop} (f:wY w.params da db la lb lc m) (e9:a≠b) (ha:s.heap.get? a=some (fz da)) (hb:s.heap.get? b=some (fz db))
    (h:Q (.done (.ret (.ref s.heap.objs.size))) {s with heap:=s.heap.push (fz (r4 w.params b da db))}):wpAny (model prog w) A (Builtin.«frozenset.__sub__» ⟨[.ref a,.ref b],[]⟩) Q E s:=by
  have Uk:=f.da.size
  have fe:=f.db.size
  have XX:=f.big
  have Ul:=f.wX
  unfold Builtin.«frozenset.__sub__»
  show wpAny _ _ (Builtin.Frozenset.slot1 "__sub__" _ >>= _) _ _ _
  refine wpAny_bind ?_
  unfold Builtin.Frozenset.slot1
  refine wpAny_bind (wpAny_of_eq (a:=(.ref a,[.ref b])) rfl ?_)
  refine wpAny_pure ?_
  show wpAny _ _ ((Builtin.Frozenset.isAnySet (.ref a) <&&> Builtin.Frozenset.isAnySet (.ref b)) >>= _) _ _ _
  refine wpAny_bind (wpAny_bind (mf ha ?_))
  show wpAny _ _ (Builtin.Frozenset.isAnySet (.ref b)) _ _ _
  refine mf hb ?_
  simp only [Bool.not_true,Bool.false_eq_true,↓reduceIte]
  refine wpAny_bind (wpAny_pure ?_)
  refine wpAny_bind ?_
  have fX:=rZ f.da f.rm
  have iI:b < s.heap.objs.size:=Heap.lt_size hb
  have hr:s.heap.objs.size≠b:=Nat.ne_of_gt iI
  have dY:(s.heap.push (fz (fW w.params da))).get? b=some (fz db):=r0 hb
  have pK:∀ d',((s.heap.push (fz (fW w.params da))).update s.heap.objs.size fun ω=>fz d')=s.heap.push (fz d'):=fun d'=>nr
  unfold Builtin.Frozenset.difference
  refine wpAny_bind (mf hb ?_)
  simp only [Bool.not_true,Bool.false_eq_true,Bool.false_and,↓reduceIte]
  refine wpAny_bind (wpAny_pure ?_)
  refine wpAny_bind (r7 hb f.db.fit ?_)
  refine wpAny_bind (r7 ha f.da.fit ?_)
  rw [if_pos (by rw [Uk,fe]; lia)]
  refine wpAny_bind (wpAny_rule ?_)
  refine wpAny_bind (Jd f.da f.rm ha ?_)
  refine wpAny_bind (wpAny_pure ?_)
  refine wpAny_bind (wpAny_holding ?_)
  unfold Builtin.Frozenset.differenceUpdate
  rw [Ug hr]
  simp only [Bool.false_eq_true,↓reduceIte]
  have oU:=fX.1.size
  refine wpAny_bind (mf dY ?_)
  simp only [↓reduceIte]
  refine wpAny_bind (wpAny_pure ?_)
  refine wpAny_bind (r7 dY f.db.fit ?_)
  refine wpAny_bind (r7 ma fX.1.fit ?_)
  rw [if_neg (by rw [oU,fe]; lia)]
  refine wpAny_bind (gh fun Γ p=>pI dY f.db.fit ?_)
  refine wpAny_bind ?_
  refine wpAny_holding ?_
  refine wpAny_bind (gh fun Γ p=>I9 false dY f.db ma fX.1 (by rw [oU]; unfold sizeLine; lia) (fun xs hx=>?_) (pK _))
  replace hx:xs.toList=wD w.params b db:=hx
  simp only [Bool.false_eq_true,↓reduceIte]
  rw [pK]
  have hw:(keysOf (wD w.params b db)).Perm lb:=(me.map _).trans f.db.ks
  have oZ:=wU (wD w.params b db) (l':=lc) fX.1 ((hw.append_right lc).trans f.cut)
  refine wpAny_bind ?_
  refine wpAny_forIn_array' _ (fun es u s'=>∃ d' l',s'=({s with heap:=s.heap.push (fz d')}:Shared)∧kY es d'=kY (wD w.params b db) (fW w.params da)∧bJ w.params d' l'∧r5 w.params es∧(keysOf es++lc).Perm l'∧l'.length < 4000) _ ?_ ?_ xs _ ?_
  · rintro e r' u s' ⟨d',l',rfl,h1,h2,h3,h4,h5⟩
    obtain ⟨k,t,rfl⟩:=h3 e (.head _)
    have hk:k∈l':=h4.mem_iff.mp (.head _)
    have r6:∀ pJ,(s.heap.push (fz pJ)).get? b=some (fz db):=fun pJ=>r0 hb
    dsimp only
    refine wpAny_bind (wpAny_holding (Uc h2 hk h5 ma ?_))
    simp only [nr]
    refine wpAny_bind (gh fun Γ p=>Ja (r6 _) f.db.fit ?_)
    refine wpAny_pure ⟨_,keysOf r'++lc,rfl,h1,(I6 h2 h4).1,fun e he=>h3 e (.tail _ he),List.Perm.refl _,?_⟩
    have:=h4.length_eq
    rw [←this,keysOf,List.map_cons] at h5
    rw [keysOf]
    simp only [List.cons_append,List.length_cons] at h5
    lia
  · rintro u s' ⟨d',l',rfl,h1,_⟩
    have e:d'=kY (wD w.params b db) (fW w.params da):=h1
    rw [e]
    refine wpAny_pure (gh fun Γ p=>Ui ma oZ.1.fit ?_ ?_)
    · rw [oZ.2.1,oZ.2.2,fX.2.1,fX.2.2]
      have:=hw.length_eq
      rw [keysOf,List.length_map] at this
      rw [this]
      simpa using f.tidy
    · exact wpAny_pure (wpAny_pure h)
  · refine ⟨_,la,rfl,by rw [hx],fX.1,?_,?_,Ul⟩
    · rw [hx]; exact fun e he=>f.db.el e (me.mem_iff.mp he)
    · rw [hx]; exact (hw.append_right lc).trans f.cut
end
theorem Um {prog:Program} {w:World} {b:Addr} {da db:az} {la lb:List Str} {m:Nat} (f:wW w.params da db la lb m):lZ (model prog w) "frozenset.__or__" da db b (r3 w.params b da db):=by
  intro Γ p s a hc hh hu e9 ha hb
  have cy:codeAny (model prog w) ⟨Γ.handled,frameCount Γ.below,none,none,unitsOf Γ.below⟩ (.builtin "frozenset.__or__" ⟨[.ref a,.ref b],[]⟩)
      (fun r s'=>r=.ok (.ret (.ref s.heap.objs.size))∧s'={s with heap:=s.heap.push (fz (r3 w.params b da db))}) s:=
    codeAny_builtin T9 (Uh f e9 ha hb ⟨rfl,rfl⟩)
  obtain ⟨r,s',hr,rfl,rfl⟩:=cy Γ p hc ⟨rfl,Nat.le_refl _,fun ω h=>(by cases h),fun ω h=>(by cases h),Nat.le_refl _⟩
  exact hr
theorem Un {prog:Program} {w:World} {b:Addr} {da db:az} {la lb lc:List Str} {m:Nat} (f:wY w.params da db la lb lc m):lZ (model prog w) "frozenset.__sub__" da db b (r4 w.params b da db):=by
  intro Γ p s a hc hh hu e9 ha hb
  have cy:codeAny (model prog w) ⟨Γ.handled,frameCount Γ.below,none,none,unitsOf Γ.below⟩ (.builtin "frozenset.__sub__" ⟨[.ref a,.ref b],[]⟩)
      (fun r s'=>r=.ok (.ret (.ref s.heap.objs.size))∧s'={s with heap:=s.heap.push (fz (r4 w.params b da db))}) s:=
    codeAny_builtin Ua (Uj f e9 ha hb ⟨rfl,rfl⟩)
  obtain ⟨r,s',hr,rfl,rfl⟩:=cy Γ p hc ⟨rfl,Nat.le_refl _,fun ω h=>(by cases h),fun ω h=>(by cases h),Nat.le_refl _⟩
  exact hr
set_option genInjectivity false in
inductive Sk where
  | fresh
  | add (j:Nat) (x:Str) (t:Tok)
  | or (ja jb b:Nat)
  | sub (ja jb b:Nat)
noncomputable def Uo:Ent→Sk
  | .fresh _=>.fresh
  | .add j _ x t=>.add j x t
  | .or a b r=>.or a b r
  | .sub a b r=>.sub a b r
noncomputable def Sk.ent (P:Params):Sk→Ent
  | .fresh=>i7 (!P.followText "set-order")
  | .add j x t=>.add j (PyData.keyHash P x) x t
  | .or a b r=>.or a b r
  | .sub a b r=>.sub a b r
noncomputable def eZ:az:=(#[],0,SetTable.fresh 0 0 false)
noncomputable def pL (P:Params) (c:List az):Sk→az
  | .fresh=>(#[],0,freshT P)
  | .add j x t=>l7 (PyData.keyHash P x) x t (c.getD j eZ)
  | .or a b r=>r3 P r (c.getD a eZ) (c.getD b eZ)
  | .sub a b r=>r4 P r (c.getD a eZ) (c.getD b eZ)
noncomputable def envOf (P:Params):List Sk→List az
  | []=>[]
  | e::l=>envOf P l++[pL P (envOf P l) e]
noncomputable def r8 (c:List (List Str)):Sk→List Str
  | .fresh=>[]
  | .add j x _=>c.getD j []++[x]
  | .or a b _=>c.getD a []++c.getD b []
  | .sub a b _=>(c.getD a []).filter fun x=>!(c.getD b []).contains x
noncomputable def gi:List Sk→List (List Str)
  | []=>[]
  | e::l=>gi l++[r8 (gi l) e]
noncomputable def r9 (n:Nat):Nat:=if n < 5 then 7 else SetTable.sizeAbove (n * 2) - 1
noncomputable def sa (n:Nat):Bool:=decide (0 < n)&&(decide (n < 5)||(decide (n≤127)&&SetTable.sizeAbove (n * 2)==128)||(decide (n≤255)&&SetTable.sizeAbove (n * 2)==256))
noncomputable def pM (l:List Str):Bool:=match l with
  | []=>true
  | x::r=>!r.contains x&&pM r
noncomputable def sb (c:List (List Str)):Sk→Bool
  | .fresh=>true
  | .add j x _=>decide (j < c.length)&&!(c.getD j []).contains x&&decide ((c.getD j []).length < 4000)
  | .or a b _=>decide (a < c.length)&&decide (b < c.length)&&sa (c.getD a []).length&&decide (0 < (c.getD b []).length)&&decide (((c.getD a []).length+(c.getD b []).length) * 5 < r9 (c.getD a []).length * 3)
      &&decide ((c.getD a []).length+(c.getD b []).length < 4000)&&pM (c.getD a []++c.getD b [])
  | .sub a b _=>decide (a < c.length)&&decide (b < c.length)&&sa (c.getD a []).length&&decide ((c.getD b []).length < (c.getD a []).length / 4)&&decide ((c.getD a []).length < 4000)
      &&(c.getD b []).all (fun x=>(c.getD a []).contains x)&&pM (c.getD b [])&&decide ((c.getD b []).length≤r9 (c.getD a []).length / 4)
noncomputable def sd:List Sk→Bool
  | []=>true
  | e::l=>sb (gi l) e&&sd l
theorem se:∀ {l:List Str},pM l=true→l.Nodup
  | [],_=>List.nodup_nil
  | x::r,h=>by
    unfold pM at h
    rw [Bool.and_eq_true,Bool.not_eq_true',←Bool.not_eq_true,List.contains_iff_mem] at h
    exact List.nodup_cons.mpr ⟨h.1,se h.2⟩
theorem si {n:Nat} (h:sa n=true):jY n (r9 n):=by
  unfold sa at h
  simp only [Bool.and_eq_true,Bool.or_eq_true,decide_eq_true_eq,beq_iff_eq] at h
  unfold jY r9
  obtain ⟨h0,(h1 | h1) | h1⟩:=h
  · rw [if_pos h1]; exact ⟨h0,by lia,by lia,wI,.inl ⟨h1,rfl⟩⟩
  · by_cases h5:n < 5
    · rw [if_pos h5]; exact ⟨h0,by lia,by lia,wI,.inl ⟨h5,rfl⟩⟩
    · rw [if_neg h5,h1.2]; exact ⟨h0,by lia,by lia,TH,.inr ⟨by lia,rfl⟩⟩
  · by_cases h5:n < 5
    · rw [if_pos h5]; exact ⟨h0,by lia,by lia,wI,.inl ⟨h5,rfl⟩⟩
    · rw [if_neg h5,h1.2]; exact ⟨h0,by lia,by lia,TJ,.inr ⟨by lia,rfl⟩⟩
theorem Up {la lb:List Str} (hb:lb.Nodup) (ha:la.Nodup) (hs:∀ x∈lb,x∈la):(lb++la.filter fun x=>!lb.contains x).Perm la:=by
  rw [List.perm_ext_iff_of_nodup]
  · intro x
    rw [List.mem_append,List.mem_filter,Bool.not_eq_true',←Bool.not_eq_true,List.contains_iff_mem]
    exact ⟨fun h=>h.elim (hs x) (·.1),fun h=>(Classical.em (x∈lb)).elim .inl fun q=>.inr ⟨h,q⟩⟩
  · exact List.nodup_append.mpr ⟨hb,ha.filter _,fun x hx y hy e=>by
      subst e
      rw [List.mem_filter,Bool.not_eq_true',←Bool.not_eq_true,List.contains_iff_mem] at hy
      exact hy.2 hx⟩
  · exact ha
theorem Je (P:Params):∀ l,(envOf P l).length=l.length
  | []=>rfl
  | e::l=>by rw [envOf,List.length_append,Je P l]; rfl
theorem Jf:∀ l,(gi l).length=l.length
  | []=>rfl
  | e::l=>by rw [gi,List.length_append,Jf l]; rfl
theorem wZ {α:Type} {l:List α} {x d:α} {i:Nat} (h:i < l.length):(l++[x]).getD i d=l.getD i d:=by
  simp [List.getD_eq_getElem?_getD,List.getElem?_append_left h]
theorem xa {α:Type} {l:List α} {x d:α}:(l++[x]).getD l.length d=x:=by
  simp [List.getD_eq_getElem?_getD]
theorem Uq (P:Params) (led:Bool):bJ P (#[],0,SetTable.fresh 0 0 led) []:=⟨fun e he=>by simp at he,List.Perm.refl _,List.nodup_nil,rfl⟩
theorem xb {prog:Program} {w:World}:∀ (l:List Sk),sd l=true→
    (∀ i,i < l.length→bJ w.params ((envOf w.params l).getD i eZ) ((gi l).getD i []))∧
    ∀ env:Nat→az,(∀ i,i < l.length→env i=(envOf w.params l).getD i eZ)→dE (model prog w) env (l.map (Sk.ent w.params))
  | [],_=>⟨fun i h=>absurd h (Nat.not_lt_zero _),fun env ω=>trivial⟩
  | e::l,h=>by
    unfold sd at h
    rw [Bool.and_eq_true] at h
    obtain ⟨hg,hl⟩:=h
    obtain ⟨nu,Ur⟩:=xb (prog:=prog) (w:=w) l hl
    have hn:=Je w.params l
    have hm:=Jf l
    have new:bJ w.params (pL w.params (envOf w.params l) e) (r8 (gi l) e)∧∀ env:Nat→az,(∀ i,i < l.length→env i=(envOf w.params l).getD i eZ)→env l.length=pL w.params (envOf w.params l) e→Cy (model prog w) env l.length (e.ent w.params):=by
      cases e with
      | fresh=>exact ⟨Uq _ _,fun env ω he=>congrArg fz he.symm⟩
      | add j x t=>
        simp only [sb,Bool.and_eq_true,decide_eq_true_eq,Bool.not_eq_true',←Bool.not_eq_true,List.contains_iff_mem,hm] at hg
        obtain ⟨⟨g1,g2⟩,g3⟩:=hg
        have hj:=nu j g1
        refine ⟨rW hj g2,fun env he m4=>?_⟩
        show wg (model prog w) (env j) _ x t (env l.length)
        rw [he j g1,m4]
        exact TG (M:=model prog w) hj g2 g3
      | or a b r=>
        simp only [sb,Bool.and_eq_true,decide_eq_true_eq,hm] at hg
        obtain ⟨⟨⟨⟨⟨⟨g1,g2⟩,g3⟩,g4⟩,g5⟩,g6⟩,g7⟩:=hg
        have ha:=nu a g1
        have hb:=nu b g2
        have f:wW w.params ((envOf w.params l).getD a eZ) ((envOf w.params l).getD b eZ) _ _ _:=⟨ha,hb,si g3,g4,g5,g6,se g7⟩
        refine ⟨?_,fun env he m4=>?_⟩
        · have fX:=rZ ha (si g3)
          have hw:(keysOf (wD w.params r ((envOf w.params l).getD b eZ))).Perm ((gi l).getD b []):=(me.map _).trans hb.ks
          refine (I3 _ (I1 fX.1).1 (fun e he=>hb.el e (me.mem_iff.mp he)) ((hw.append_left _).nodup_iff.mpr (se g7))).perm (hw.append_left _)
        · show lZ (model prog w) "frozenset.__or__" (env a) (env b) r (env l.length)
          rw [he a g1,he b g2,m4]
          exact Um f
      | sub a b r=>
        simp only [sb,Bool.and_eq_true,decide_eq_true_eq,List.all_eq_true,List.contains_iff_mem,hm] at hg
        obtain ⟨⟨⟨⟨⟨⟨⟨g1,g2⟩,g3⟩,g4⟩,g5⟩,g6⟩,g7⟩,g8⟩:=hg
        have ha:=nu a g1
        have hb:=nu b g2
        have Jg:=Up (se g7) ha.nd g6
        have f:wY w.params ((envOf w.params l).getD a eZ) ((envOf w.params l).getD b eZ) _ _ _ _:=⟨ha,hb,si g3,g4,g5,Jg,g8⟩
        refine ⟨?_,fun env he m4=>?_⟩
        · have fX:=rZ ha (si g3)
          have hw:(keysOf (wD w.params r ((envOf w.params l).getD b eZ))).Perm ((gi l).getD b []):=(me.map _).trans hb.ks
          exact (wU _ fX.1 ((hw.append_right _).trans Jg)).1
        · show lZ (model prog w) "frozenset.__sub__" (env a) (env b) r (env l.length)
          rw [he a g1,he b g2,m4]
          exact Un f
    constructor
    · intro i hi
      rw [envOf,gi]
      by_cases q:i < l.length
      · rw [wZ (by rw [hn]; exact q),wZ (by rw [hm]; exact q)]; exact nu i q
      · have:i=l.length:=by simp only [List.length_cons] at hi; lia
        subst this
        have e1:(envOf w.params l++[pL w.params (envOf w.params l) e]).getD l.length eZ=pL w.params (envOf w.params l) e:=by rw [←hn]; exact xa
        have e2:(gi l++[r8 (gi l) e]).getD l.length []=r8 (gi l) e:=by rw [←hm]; exact xa
        rw [e1,e2]; exact new.1
    · intro env he
      have iO:∀ i,i < l.length→env i=(envOf w.params l).getD i eZ:=fun i hi=>by
        rw [he i (Nat.lt_succ_of_lt hi),envOf,wZ (by rw [hn]; exact hi)]
      refine ⟨?_,Ur env iO⟩
      rw [List.length_map]
      refine new.2 env iO ?_
      rw [he l.length (Nat.lt_succ_self _),envOf]
      rw [←hn]; exact xa
noncomputable def pN (P:Params):List Sk:=(rU P).map Uo
noncomputable def envX (P:Params) (i:Nat):az:=(envOf P (pN P)).getD i eZ
theorem Us (P:Params):(pN P).map (Sk.ent P)=rU P:=by kernel_rfl
theorem Jh (P:Params):sd (pN P)=true:=by kernel_rfl
theorem Ut (prog:Program) (w:World):dE (model prog w) (envX w.params) (rU w.params):=by
  rw [←Us]
  exact (xb _ (Jh _)).2 _ fun i ω=>rfl
theorem sk (w:World) {i:Nat} {l:List Nat} (hi:Nat.blt i (pN w.params).length=true) (he:(gi (pN w.params)).getD i []=l.map fun c=>⟨#[c]⟩):bJ w.params (envX w.params i) (l.map fun c=>⟨#[c]⟩):=by
  rw [←he]
  exact (xb (prog:=default) (w:=w) _ (Jh _)).1 i (by simpa using hi)
theorem sq {prog:Program} {w:World} {h:Heap} {a:Addr} {d:az} {l l':List Nat} (hd:bJ w.params d (l.map fun c=>⟨#[c]⟩)) (hp:l.isPerm l'=true) (hs:h.get? a=some (fz d)):FrozAt (PySem.strKind prog w) h a (dj l') l.length:=by
  refine ⟨d.1,d.2.1,d.2.2,hs,?_,?_,?_,hd.fit⟩
  · intro e he
    obtain ⟨k,t,rfl⟩:=hd.el e he
    exact ⟨⟨k,by show decide (k=k)=true; simp,rfl⟩,rfl⟩
  · intro k
    have gj:=List.isPerm_iff.mp hp
    constructor
    · intro hk
      unfold dj at hk
      split at hk
      · rename_i c hc
        have hm:(⟨#[c]⟩:Str)∈l.map fun c=>(⟨#[c]⟩:Str):=List.mem_map.mpr ⟨c,gj.mem_iff.mpr (by simpa using hk),rfl⟩
        obtain ⟨e,he,Uu⟩:=List.mem_map.mp (hd.ks.mem_iff.mpr hm)
        obtain ⟨k',t,rfl⟩:=hd.el e he
        refine ⟨_,he,?_⟩
        have:k=k':=by
          have h1:k'=⟨#[c]⟩:=Uu
          rw [h1]
          obtain ⟨cps⟩:=k
          congr 1
          exact Array.toList_inj.mp (by simpa using hc)
        subst this
        show decide (k=k)=true; simp
      · cases hk
    · rintro ⟨e,he,hk⟩
      obtain ⟨k',t,rfl⟩:=hd.el e he
      obtain ⟨u,hu⟩:=Value.isStrOf_shape (show Value.isStrOf k (.str k' t)=true from hk)
      obtain rfl:k'=k:=by injection hu
      have hm:=hd.ks.mem_iff.mp (List.mem_map.mpr ⟨_,he,rfl⟩)
      obtain ⟨c,hc,e⟩:=List.mem_map.mp hm
      have:k'=⟨#[c]⟩:=e.symm
      rw [this]
      show l'.contains c=true
      simpa using gj.mem_iff.mp hc
  · rw [hd.size,List.length_map]
noncomputable def Uv:List Nat:=[0,1,2,3,4,5,6,7,8,10,11,12,13,14,15,16,17,18,19,20,21,22,23,24,25,26,27,28,29,30,31,127]
theorem Uw (w:World):bJ w.params (envX w.params 38) (Uv.map fun c=>⟨#[c]⟩):=sk w (by kernel_rfl) (by kernel_rfl)
theorem Ux (w:World):bJ w.params (envX w.params 45) (eo.map fun c=>⟨#[c]⟩):=sk w (by kernel_rfl) (by kernel_rfl)
theorem Uy (w:World):bJ w.params (envX w.params 113) (iT.map fun c=>⟨#[c]⟩):=sk w (by kernel_rfl) (by kernel_rfl)
theorem Uz (w:World):bJ w.params (envX w.params 117) (oA.map fun c=>⟨#[c]⟩):=sk w (by kernel_rfl) (by kernel_rfl)
theorem Ji:denote table=nj:=by rw [table_eq_tree]; exact congr PySem.W.Fast.te11892475500146522536 PySem.W.Fast.te14364793385576792824
theorem UA {prog:Program} {w:World} {id:String} {args:Args} {b:Builtin} (hb:entryFor table id=some b):(model prog w).den (.builtin id args)=b args:=by
  show (match entryFor table id with | some b=>b args | none=>unsupported ((withoutEnding? id "#data").getD id))=_
  rw [hb]
theorem Jj (prog:Program) (w:World):rO (model prog w):=fun S it=>UA PyProof.Rows.F.entry_set_update_loop
theorem Jk {prog:Program} {w:World} {env:Nat→az} {Γ:Ctx} {α:Type} {t:Sem α} {p:Pos} {s:ST} {r:Except Value α} {p':Pos} {s':ST} {n:Nat}
    (h:fQ prog w.params (jT nj prog w.params l6 env n).1 (jT nj prog w.params l6 env n).2 Γ t p s=some (r,p',s')) (hl:dE (model prog w) env s'.log) (hi:eX env s):
    eX env s'∧Reaches (model prog w) Γ t p s.abs r p' s'.abs:=by
  rw [←Ji] at h
  have q:=CO (M:=model prog w) (env:=env) (cuts:=l6) (Jj prog w) n
  exact ((rM q.1 q.2 Γ t p s).of h).2 hl hi
theorem UB:(start (opening pg)).1=Iv.abs:=by rfl
theorem Jl {env:Nat→az} {s:ST} (h:s.cur=[]):eX env s:=fun S i q=>by rw [h] at q; cases q
theorem opens (w:World) (env:Nat→az):(∃ s,AfterImport (opening pg) w s)∧∀ s,AfterImport (opening pg) w s→fenceModules? pg s=some (S0 w.params env).abs∧s.heap.life={}:=by
  have hb:=Ts w env
  obtain ⟨⟨r,p',sB⟩,h1,h2⟩:=Option.map_eq_some_iff.mp hb
  simp only [Prod.mk.injEq] at h2
  obtain ⟨h2,h3,h4,h5,h6,h7⟩:=h2
  obtain ⟨_,hR⟩:=Jk (prog:=opening pg) (w:=w) h1 (by rw [h5]; trivial) (Jl rfl)
  refine AfterImport.of_wp (P:=fun s=>fenceModules? pg s=some (S0 w.params env).abs∧s.heap.life={}) ?_
  rw [UB,PySem.W.Fast.te2477092760451715423]
  refine hR _ _ ?_
  cases r with
  | error e=>exact absurd h2 (by simp [wF])
  | ok f=>
    refine ⟨?_,⟨h7,h4⟩,h3⟩
    unfold wF at h2
    split at h2
    · rename_i x id heq
      cases heq
      rw [eq_of_beq h2]; rfl
    · cases h2
theorem Jm {den:Code→Sem PySem.Fin} {prog:Program} {w:World}:∀ {k:Nat} {s:Shared} {t:Thread} {cw:Shared} {jQ:Thread} {o:Outcome} {iW:Shared},runN den prog w k s t=.running cw jQ→step den prog w cw jQ=.halt o iW→runN den prog w (k+1) s t=.halted o iW
  | 0,s,t,cw,jQ,o,iW,h,hs=>by
    have h':Run.running s t=.running cw jQ:=h
    injection h' with h1 h2
    subst h1 h2
    simp only [runN,hs]
  | k+1,s,t,cw,jQ,o,iW,h,hs=>by
    simp only [runN] at h
    cases h1:step den prog w s t with
    | go s' t'=>
      rw [h1] at h
      have:=Jm h hs
      simp only [runN,h1] at this ⊢
      exact this
    | halt o' s'=>rw [h1] at h; cases h
theorem UC {prog:Program} {w:World} {c:Code} {t:Sem PySem.Fin} {p:Pos} {s aH:Shared} {f:Flow}
    (h:Sem.wp (model prog w) (Ctx.of c []) t (fun fin ω s'=>fin=.done f∧s'=aH) (fun ω ω ω=>False) p s) (hz:s.asleep) (hn:aH.NoSusp):
    ∃ n uh,schedN (denote table) prog w n (.single s ⟨t,c,p,[]⟩)=.running (.single aH uh)∧through uh=true:=by
  obtain ⟨n,s',σ,p',leaf,hr,hf,hl⟩:=wp_reaches (M:=model prog w) h
  obtain ⟨m,r,gE,hm,_⟩:=(wp_iff_halts (M:=model prog w) t (fun ω ω=>True) p s).mp (Sem.wp_mono _ _ _ (fun fin ω s' x=>by
    obtain ⟨rfl,rfl⟩:=x
    exact ⟨trivial,hn.noCleanup⟩) (fun ω ω ω x=>x.elim) p s h)
  obtain ⟨_,_,_,hc⟩:=runNI_real (denote table) prog w hm (outcomeOf_ends r)
  rcases hl with ⟨a,rfl,rfl,rfl⟩ | ⟨e,_,q⟩
  · obtain rfl:=Shared.eq_of_forget_eq' hf hn
    refine ⟨n,⟨.pure (.done f),c,p',[]⟩,?_,rfl⟩
    rw [schedN_prefix (denote table) prog w n s _ hz,show runN (denote table) prog w n s ⟨t,c,p,[]⟩=_ from hr]
    · rfl
    · intro k cw jQ hk h2
      refine ⟨hc k cw jQ h2,fun hs=>?_⟩
      have:runN (denote table) prog w (k+1) s ⟨t,c,p,[]⟩=.halted (.unsupported "lifetime:generator-with-cleanup-left-suspended") cw:=Jm h2 hs
      have hm:=runN_mono (denote table) prog w (k+1) (n - (k+1)) s _ _ _ this
      rw [show k+1+(n - (k+1))=n from by lia] at hm
      rw [show runN (denote table) prog w n s ⟨t,c,p,[]⟩=_ from hr] at hm
      cases hm
  · exact q.elim
noncomputable abbrev je:List Stmt:=behindTheImports pg
noncomputable def dC:Env:={scope:=pg.main.scope,locals:=mainNs,globals:=mainNs,cells:=[],code:=.ref 65,frame:=some 66}
noncomputable def nv:Ctx:=Ctx.of (.builtin "claim.caller" {}) []
noncomputable def eB:Ctx:=nv.enter (.body je dC) none default
noncomputable def part (i n:Nat):List Stmt:=(je.drop i).take n
noncomputable def Jn:Sem (Value×Addr):=do
  let code ←moduleCode pg.main
  let frame ←newBodyFrame code mainNs mainNs
  pure (code,frame)
noncomputable abbrev spec (w:World) (b:Bool):Params:=(w.withFollow "special-get-raises" b).params
noncomputable abbrev twice (w:World) (b c:Bool):Params:=((w.withFollow "special-get-raises" b).withFollow "comprehension-iter-twice" c).params
theorem UD (w:World) (env:Nat→az):dP w.params env nv Jn default (S0 w.params env)=some (.ok (.ref 65,66),default,SP w.params env):=by kernel_rfl
theorem UE (w:World) (env:Nat→az):dP w.params env eB (blockStart je dC) default (SP w.params env)=some (.ok (),default,SP w.params env):=by kernel_rfl
theorem Jo (w:World) (env:Nat→az) (p:Pos):dP w.params env eB (execs (part 4 1) dC) p (S4 w.params env)=some (.ok .next,⟨16,0,16,12⟩,S5 w.params env):=by kernel_rfl
theorem Jp (w:World) (env:Nat→az) (p:Pos):dP w.params env eB (execs (part 5 10) dC) p (S5 w.params env)=some (.ok .next,⟨155,0,155,8⟩,nf w.params env):=by kernel_rfl
theorem UG (w:World) (env:Nat→az) (p:Pos):dP (spec w true) env eB (execs (part 15 1) dC) p (nf (spec w true) env)=some (.ok .next,⟨157,0,159,90⟩,ng (spec w true) env):=by kernel_rfl
theorem UH (w:World) (env:Nat→az) (p:Pos):dP (spec w false) env eB (execs (part 15 1) dC) p (nf (spec w false) env)=some (.ok .next,⟨157,0,159,90⟩,ng (spec w false) env):=by kernel_rfl
theorem Jq (w:World) (env:Nat→az) (p:Pos):dP w.params env eB (execs (part 16 6) dC) p (ng w.params env)=some (.ok .next,⟨188,0,188,13⟩,jX w.params env):=by kernel_rfl
theorem UI (w:World) (env:Nat→az) (p:Pos):dP (twice w true true) env eB (execs (part 22 1) dC) p (jX (twice w true true) env)=some (.ok .next,⟨189,0,189,10⟩,g0 (twice w true true) env):=by kernel_rfl
theorem UJ (w:World) (env:Nat→az) (p:Pos):dP (twice w true false) env eB (execs (part 22 1) dC) p (jX (twice w true false) env)=some (.ok .next,⟨189,0,189,10⟩,g0 (twice w true false) env):=by kernel_rfl
theorem UK (w:World) (env:Nat→az) (p:Pos):dP (twice w false true) env eB (execs (part 22 1) dC) p (jX (twice w false true) env)=some (.ok .next,⟨189,0,189,10⟩,g0 (twice w false true) env):=by kernel_rfl
theorem UL (w:World) (env:Nat→az) (p:Pos):dP (twice w false false) env eB (execs (part 22 1) dC) p (jX (twice w false false) env)=some (.ok .next,⟨189,0,189,10⟩,g0 (twice w false false) env):=by kernel_rfl
theorem UM (w:World) (env:Nat→az) (p:Pos):dP (spec w true) env eB (execs (part 23 19) dC) p (g0 (spec w true) env)=some (.ok .next,⟨208,0,208,29⟩,ni (spec w true) env):=by kernel_rfl
theorem UN (w:World) (env:Nat→az) (p:Pos):dP (spec w false) env eB (execs (part 23 19) dC) p (g0 (spec w false) env)=some (.ok .next,⟨208,0,208,29⟩,ni (spec w false) env):=by kernel_rfl
theorem Jr (w:World) (env:Nat→az) (p:Pos):dP w.params env eB (execs (part 42 53) dC) p (ni w.params env)=some (.ok .next,⟨872,0,909,22⟩,pG w.params env):=by kernel_rfl
theorem Js (w:World) (env:Nat→az) (p:Pos):dP w.params env eB (execs (part 0 3) dC) p (SP w.params env)=some (.ok .next,⟨14,0,14,8⟩,S3 w.params env):=by kernel_rfl
theorem UO (w:World) (env:Nat→az) (p:Pos):dP (spec w true) env eB (execs (part 3 1) dC) p (S3 (spec w true) env)=some (.ok .next,⟨15,0,15,9⟩,S4 (spec w true) env):=by kernel_rfl
theorem UP (w:World) (env:Nat→az) (p:Pos):dP (spec w false) env eB (execs (part 3 1) dC) p (S3 (spec w false) env)=some (.ok .next,⟨15,0,15,9⟩,S4 (spec w false) env):=by kernel_rfl
section
variable {M:Model} {Γ:Ctx} {env:Env}
theorem jZ (Q:Flow→Pos→Shared→Prop) (E:Value→Pos→Shared→Prop) (b:List Stmt):∀ (a:List Stmt) (p:Pos) (s:Shared),
    Sem.wp M Γ (execs a env) (fun f p' s'=>match f with | .next=>Sem.wp M Γ (execs b env) Q E p' s' | f=>Q f p' s') E p s→Sem.wp M Γ (execs (a++b) env) Q E p s
  | [],p,s,h=>h
  | st::a,p,s,h=>by
    rw [List.cons_append,execs_cons,Sem.wp_bind']
    rw [execs_cons,Sem.wp_bind'] at h
    refine Sem.wp_mono _ _ _ (fun f p' s' h'=>?_) (fun ω ω ω h'=>h') p s h
    cases f with
    | next=>exact jZ Q E b a p' s' h'
    | _=>exact h'
end
theorem UQ:je=part 0 3++(part 3 1++(part 4 1++(part 5 10++(part 15 1++(part 16 6++(part 22 1++(part 23 19++part 42 53))))))):=by rfl
theorem pO {w:World} {f:Params→Prop} {row:String} (h:∀ b:Bool,f (w.withFollow row b).params):f w.params:=by
  have:=h (w.params.followText row)
  rwa [World.withFollow_self] at this
noncomputable def Goal (P:Params) (env:Nat→az) (i n:Nat) (q:Pos) (s s':Params→(Nat→az)→ST):Prop:=∀ p,dP P env eB (execs (part i n) dC) p (s P env)=some (.ok .next,q,s' P env)
theorem rh (w:World) (env:Nat→az):Goal w.params env 3 1 ⟨15,0,15,9⟩ S3 S4:=
  pO (f:=fun P=>Goal P env 3 1 ⟨15,0,15,9⟩ S3 S4) (row:="special-get-raises") fun
    | false=>fun p=>UP w env p
    | true=>fun p=>UO w env p
theorem Jt (w:World) (env:Nat→az):Goal w.params env 15 1 ⟨157,0,159,90⟩ nf ng:=
  pO (f:=fun P=>Goal P env 15 1 ⟨157,0,159,90⟩ nf ng) (row:="special-get-raises") fun
    | false=>fun p=>UH w env p
    | true=>fun p=>UG w env p
theorem Ju (w:World) (env:Nat→az):Goal w.params env 22 1 ⟨189,0,189,10⟩ jX g0:=
  pO (f:=fun P=>Goal P env 22 1 ⟨189,0,189,10⟩ jX g0) (row:="special-get-raises") fun b=>
    pO (f:=fun P=>Goal P env 22 1 ⟨189,0,189,10⟩ jX g0) (w:=w.withFollow "special-get-raises" b) (row:="comprehension-iter-twice") fun c=>match b,c with
      | false,false=>fun p=>UL w env p
      | false,true=>fun p=>UK w env p
      | true,false=>fun p=>UJ w env p
      | true,true=>fun p=>UI w env p
theorem xc (w:World) (env:Nat→az):Goal w.params env 23 19 ⟨208,0,208,29⟩ g0 ni:=
  pO (f:=fun P=>Goal P env 23 19 ⟨208,0,208,29⟩ g0 ni) (row:="special-get-raises") fun
    | false=>fun p=>UN w env p
    | true=>fun p=>UM w env p
theorem Jv {prog:Program} {w:World} {env:Nat→az} {Γ:Ctx} {α:Type} {t:Sem α} {p:Pos} {s:ST} {r:Except Value α} {p':Pos} {s':ST}
    (h:dP w.params env Γ t p s=some (r,p',s')):∃ l,s'.log=l++s.log:=by
  unfold dP wC at h
  rw [←Ji] at h
  have q:=CO (M:=model pg w) (env:=env) (cuts:=l6) (Jj pg w) 200
  exact ((rM q.1 q.2 Γ t p s).of h).1
theorem eC {w:World} {env:Nat→az} {Γ:Ctx} {α:Type} {t:Sem α} {p:Pos} {s:ST} {r:Except Value α} {p':Pos} {s':ST}
    (h:dP w.params env Γ t p s=some (r,p',s')) (hl:dE (model pg w) env s'.log) (hi:eX env s):eX env s'∧Reaches (model pg w) Γ t p s.abs r p' s'.abs:=Jk (prog:=pg) h hl hi
theorem UR (w:World):Sem.wp (model pg w) nv (topStub pg).cur (fun fin ω s'=>fin=.done (.ret .none)∧s'=(pG w.params (envX w.params)).abs) (fun ω ω ω=>False) default (S0 w.params (envX w.params)).abs:=by
  generalize US:envX w.params=env
  have xd:dE (model pg w) env (pG w.params env).log:=US▸Ut pg w
  obtain ⟨_,UT⟩:=Jv (prog:=pg) (Jr w env default)
  have sr:dE (model pg w) env (ni w.params env).log:=by rw [UT] at xd; exact xd.tail
  obtain ⟨_,UU⟩:=Jv (prog:=pg) (xc w env default)
  have Jw:dE (model pg w) env (g0 w.params env).log:=by rw [UU] at sr; exact sr.tail
  have Jy:dE (model pg w) env (jX w.params env).log:=trivial
  have Jz:dE (model pg w) env (ng w.params env).log:=trivial
  have JA:dE (model pg w) env (nf w.params env).log:=trivial
  have l5:dE (model pg w) env (S5 w.params env).log:=trivial
  have l4:dE (model pg w) env (S4 w.params env).log:=trivial
  have l3:dE (model pg w) env (S3 w.params env).log:=trivial
  have lP:dE (model pg w) env (SP w.params env).log:=trivial
  obtain ⟨iP,rP⟩:=eC (UD w env) lP (Jl rfl)
  obtain ⟨_,rB⟩:=eC (UE w env) lP iP
  obtain ⟨i3,_⟩:=eC (Js w env default) l3 iP
  obtain ⟨i4,_⟩:=eC (rh w env default) l4 i3
  obtain ⟨i5,_⟩:=eC (Jo w env default) l5 i4
  obtain ⟨JB,_⟩:=eC (Jp w env default) JA i5
  obtain ⟨JC,_⟩:=eC (Jt w env default) Jz JB
  obtain ⟨JD,_⟩:=eC (Jq w env default) Jy JC
  obtain ⟨JE,_⟩:=eC (Ju w env default) Jw JD
  obtain ⟨UW,_⟩:=eC (xc w env default) sr JE
  show Sem.wp (model pg w) nv (moduleCode pg.main >>= fun code=>newBodyFrame code mainNs mainNs >>= fun frame=>run (.body je {scope:=pg.main.scope,locals:=mainNs,globals:=mainNs,cells:=[],code,frame:=some frame}) >>= fun ω=>ret .none) _ _ _ _
  have hp:=rP (fun x p s=>Sem.wp (model pg w) nv (run (.body je {scope:=pg.main.scope,locals:=mainNs,globals:=mainNs,cells:=[],code:=x.1,frame:=some x.2}) >>= fun ω=>ret .none)
    (fun fin ω s'=>fin=.done (.ret .none)∧s'=(pG w.params env).abs) (fun ω ω ω=>False) p s) (fun ω ω ω=>False)
  unfold Jn at hp
  rw [Sem.wp_bind'] at hp ⊢
  refine Sem.wp_mono _ _ _ (fun code p' s' h'=>?_) (fun ω ω ω h'=>h') _ _ (hp ?_)
  · rw [Sem.wp_bind'] at h' ⊢
    exact h'
  · show Sem.wp (model pg w) nv (run (.body je dC) >>= fun ω=>ret .none) _ _ _ _
    rw [Sem.wp_bind',Sem.wp_run,wpCode_iff_wp]
    show Sem.wp (model pg w) eB (blockStart je dC >>= fun ω=>((execs je dC).onRaise (leaving dC)) >>= fun f=>pure (PySem.Fin.done f)) _ _ _ _
    rw [Sem.wp_bind']
    refine rB _ _ ?_
    show Sem.wp (model pg w) eB (((execs je dC).onRaise (leaving dC)) >>= fun f=>pure (PySem.Fin.done f)) _ _ default (SP w.params env).abs
    rw [Sem.wp_bind',Sem.wp_onRaise,UQ]
    refine jZ _ _ _ _ _ _ ((eC (Js w env default) l3 iP).2 _ _ ?_)
    refine jZ _ _ _ _ _ _ ((eC (rh w env ⟨14,0,14,8⟩) l4 i3).2 _ _ ?_)
    refine jZ _ _ _ _ _ _ ((eC (Jo w env ⟨15,0,15,9⟩) l5 i4).2 _ _ ?_)
    refine jZ _ _ _ _ _ _ ((eC (Jp w env ⟨16,0,16,12⟩) JA i5).2 _ _ ?_)
    refine jZ _ _ _ _ _ _ ((eC (Jt w env ⟨155,0,155,8⟩) Jz JB).2 _ _ ?_)
    refine jZ _ _ _ _ _ _ ((eC (Jq w env ⟨157,0,159,90⟩) Jy JC).2 _ _ ?_)
    refine jZ _ _ _ _ _ _ ((eC (Ju w env ⟨188,0,188,13⟩) Jw JD).2 _ _ ?_)
    refine jZ _ _ _ _ _ _ ((eC (xc w env ⟨189,0,189,10⟩) sr JE).2 _ _ ?_)
    refine (eC (Jr w env ⟨208,0,208,29⟩) xd UW).2 _ _ ?_
    exact ⟨rfl,rfl⟩
noncomputable abbrev s0 (w:World):Shared:=(S0 w.params (envX w.params)).abs
noncomputable abbrev bA (w:World):Shared:=(pG w.params (envX w.params)).abs
noncomputable def pp:Program:=view pg []
noncomputable def ny:List Str:=pg.boundNames
theorem su (w:World):((bA w).heap.isNs mainGlobals&&(bA w).heap.isNs builtinsNs)=true:=by kernel_rfl
theorem JF (w:World):(bA w).heap.bltView=bltViewBooted:=by kernel_rfl
theorem UX (w:World):(bA w).heap.accountedOkI (importedModules pg.main.body)=true:=by kernel_rfl
theorem UY (w:World):staticsOk (importedModules pg.main.body) (s0 w).heap (bA w).heap=true:=by kernel_rfl
theorem UZ (w:World):namesBound pg (bA w).heap=true:=by kernel_rfl
theorem U0 (w:World):laidKept (s0 w).heap (bA w).heap=true:=by kernel_rfl
theorem k_keys (w:World):(bA w).heap.keysOk ny ((recsOf pp).map (·.name)) ((litsOf pp).map (·.1)) ((clssOf pp ny).map (·.name))=true:=by kernel_rfl
theorem U1 (w:World):tabsOk pp (bA w)=true:=by kernel_rfl
theorem U2:chainsOk pp=true:=by kernel_rfl
theorem U3 (w:World):seen ((recsOf pp).map (·.name)) (ownsOf pp) [] {bA w with gens:=#[]}=expectedOf pp:=by kernel_rfl
theorem U4 (w:World):((List.range 63).filter (fun b=>!Nat.beq b 3)).map (kU w.params (envX w.params)).get=((List.range 63).filter (fun b=>!Nat.beq b 3)).map (rS w.params (envX w.params)).get:=by kernel_rfl
theorem sv {t:BT} {n:Nat} {life:Life} {a:Nat} (h:a < n):(absHeap t n life).get? a=match t.get a with | some o=>alive o | none=>alive default:=by
  unfold Heap.get?
  rw [absHeap_at,if_pos h]
  cases t.get a with
  | some o=>obtain ⟨c,d,dt,sl⟩:=o; cases dt <;> rfl
  | none=>rfl
theorem old_kept (w:World) (b:Addr) (o:Obj) (h:(s0 w).heap.get? b=some o) (hb:b≠3):(bA w).heap.get? b=some o:=by
  have bq:b < 63:=by
    have:=Heap.lt_size h
    rw [show (s0 w).heap.objs.size=63 from absHeap_size _ _ _] at this
    exact this
  have hm:b∈(List.range 63).filter (fun b=>!Nat.beq b 3):=List.mem_filter.mpr ⟨List.mem_range.mpr bq,by
    cases q:Nat.beq b 3 with
    | false=>rfl
    | true=>exact absurd (Nat.eq_of_beq_eq_true q) hb⟩
  have e:=List.map_inj_left.mp (U4 w) b hm
  have h1:(s0 w).heap.get? b=match (rS w.params (envX w.params)).get b with | some o=>alive o | none=>alive default:=sv bq
  have h2:(bA w).heap.get? b=match (kU w.params (envX w.params)).get b with | some o=>alive o | none=>alive default:=sv (show b < 849 from Nat.lt_trans bq (by decide))
  rw [h2,e,←h1]; exact h
theorem U5:mainNs=3:=rfl
theorem pP (w:World):Top pp ny (ExcName.means (bA w).heap) ((bA w).heap.nsMap mainGlobals) ((bA w).heap.nsMap builtinsNs) (bA w).heap:=
  top_of_seenO (s:={bA w with gens:=#[]}) (U3 w) (JF w) (k_keys w) (Bool.and_eq_true_iff.mp (su w)).2 (U1 w) U2
theorem JG (w:World):(s0 w).asleep:=by
  first | rfl | exact ⟨rfl,rfl⟩ | decide
theorem U6 (w:World):TopRan pg w (s0 w) (bA w):=by
  obtain ⟨hg,hb⟩:=Bool.and_eq_true_iff.mp (su w)
  have T:=pP w
  refine ⟨UC (UR w) (JG w) ?_,rfl,Shared.rest_eq rfl,fun b o h hn=>old_kept w b o h fun e=>hn (.inl (e.trans U5.symm)),Heap.accountedI_of_ok (UX w),statics_of_ok (UY w),Pin.keysAreStrs_of hg,
    fun x hx=>(Pin.builtinOf_eq hb x).trans (Heap.of_bltView hb (JF w) x hx),?_,?_,names_of_bound (UZ w),laid_of_kept (U0 w)⟩
  · intro x hx
    have e:(bA w).gens=#[.finished]:=rfl
    rw [e] at hx
    simp at hx
    subst hx; rfl
  · obtain ⟨bm,ob,a,_,c,d,f,_⟩:=T.bmain
    exact ⟨bm,ob,(Pin.globalOf_eq hg _).trans a,c,d,f⟩
  · intro g gK
    have e:(bA w).gens=#[.finished]:=rfl
    rw [e] at gK
    simp at gK
    subst gK; trivial
noncomputable def kA:List Nat:=[3,1,2,782,781,796,795,803,802,810,809,817,816,824,823,831,830,836,835,843,842,848,847,709,708,375,374,545,544,552,551,559,558,573,572,601,600,608,607,615,614,637,636,658,657,672,671,686,685,700,699,701,702,368,353,354,630,364,363,362,361,360,359,358,357,427,426,463,462,535,534,298,376,377,378,379,380,381,382,383,384,385,386,387,388,389,390,391,392,393,394,395,396,397,398,399,400,401,402,403,404,405,406,407,408,409,410,411,412,413,414,415,416,417,418,419,420,421,422,423,424,425,428,429,430,431,432,433,434,435,436,437,438,439,440,441,442,443,444,445,446,447,448,449,450,451,452,453,454,455,456,457,458,459,460,461,464,465,466,467,468,469,470,471,472,473,474,475,476,477,478,479,480,481,482,483,484,485,486,487,488,489,490,491,492,493,494,495,496,497,498,499,500,501,502,503,504,505,506,507,508,509,510,511,512,513,514,515,516,517,518,519,520,521,522,523,524,525,526,527,528,529,530,531,532,533,536,537,538,539,540,541,542,543,268,269,270,271,272,273,274,275,276,277,278,279,280,281,282,283,284,285,286,287,288,289,290,291,292,293,294,295,296,297,299,300,301,302,303,304,305,306,307,308,309]
noncomputable def kF (w:World) (a:Nat):Option (Addr×Obj):=match (kU w.params (envX w.params)).get a with
  | some o=>match alive o with
    | some o=>some (a,o)
    | none=>none
  | none=>none
noncomputable def kX (w:World):Frag:=kA.filterMap (kF w)
theorem U7 {w:World} {a:Nat} {p:Addr×Obj} (h:kF w a=some p):p.1=a∧∃ o,(kU w.params (envX w.params)).get a=some o∧alive o=some p.2:=by
  unfold kF at h
  split at h
  · rename_i o ho
    split at h
    · rename_i o' bW
      cases h
      exact ⟨rfl,o,ho,bW⟩
    · cases h
  · cases h
theorem U8:kA.all (fun a=>Nat.blt a 849)=true:=by kernel_rfl
theorem mem_of_lookup {α:Type}:∀ {l:List (Nat×α)} {a:Nat} {o:α},l.lookup a=some o→(a,o)∈l
  | (b,x)::l,a,o,h=>by
    rw [List.lookup_cons] at h
    split at h
    · rename_i e
      rw [beq_iff_eq] at e
      cases h; subst e; exact .head _
    · exact .tail _ (mem_of_lookup h)
theorem sx (w:World):(kX w).In (bA w).heap:=by
  intro a o h
  obtain ⟨b,hb,hf⟩:=List.mem_filterMap.mp (mem_of_lookup h)
  obtain ⟨rfl,o',h1,h2⟩:=U7 hf
  have bq:a < 849:=by simpa using List.all_eq_true.mp U8 a hb
  have h3:(bA w).heap.get? a=match (kU w.params (envX w.params)).get a with | some o=>alive o | none=>alive default:=sv bq
  rw [h3,h1]; exact h2
noncomputable def pQ (w:World) (x:Str):Option Value:=findBy (PySem.strKind pg w).is (match (rR w.params).data with | .dict es _=>es | _=>#[]) x
noncomputable def gX (w:World):Gx where
  prog:=pg
  w:=w
  K:=kX w
  pp:=pp
  loose:=ny
  j2:=ExcName.means (bA w).heap
  mg:=(bA w).heap.nsMap mainGlobals
  mb:=(bA w).heap.nsMap builtinsNs
  sets:=[(324,dj gL),(330,dj eo),(339,dj iT),(347,dj oA)]
  eK:=[(353,pQ w)]
theorem U9 (w:World):SF (gX w):=⟨.head _,.tail _ (.head _),.tail _ (.tail _ (.head _)),.tail _ (.tail _ (.tail _ (.head _)))⟩
theorem Va (w:World):(kX w).lookup 782=some (H5 w.params):=by kernel_rfl
theorem Vb (w:World):(kX w).lookup 796=some (H6 w.params):=by kernel_rfl
theorem Vc (w:World):(kX w).lookup 803=some (H7 w.params):=by kernel_rfl
theorem Vd (w:World):(kX w).lookup 810=some (H8 w.params):=by kernel_rfl
theorem Ve (w:World):(kX w).lookup 817=some (H9 w.params):=by kernel_rfl
theorem Vf (w:World):(kX w).lookup 824=some (Ia w.params):=by kernel_rfl
theorem Vg (w:World):(kX w).lookup 831=some (Ib w.params):=by kernel_rfl
theorem Vh (w:World):(kX w).lookup 836=some (Ic w.params):=by kernel_rfl
theorem Vi (w:World):(kX w).lookup 843=some (Ie w.params):=by kernel_rfl
theorem xe (w:World):(kX w).lookup 848=some (Ig w.params):=by kernel_rfl
theorem Vj (w:World):(kX w).lookup 709=some (H4 w.params):=by kernel_rfl
theorem Vk (w:World):(kX w).lookup 375=some (HB w.params):=by kernel_rfl
theorem Vl (w:World):(kX w).lookup 545=some (HP w.params):=by kernel_rfl
theorem Vm (w:World):(kX w).lookup 552=some (HQ w.params):=by kernel_rfl
theorem Vn (w:World):(kX w).lookup 559=some (HR w.params):=by kernel_rfl
theorem Vo (w:World):(kX w).lookup 573=some (HS w.params):=by kernel_rfl
theorem Vq (w:World):(kX w).lookup 601=some (HT w.params):=by kernel_rfl
theorem Vr (w:World):(kX w).lookup 608=some (HU w.params):=by kernel_rfl
theorem Vs (w:World):(kX w).lookup 615=some (HV w.params):=by kernel_rfl
theorem Vt (w:World):(kX w).lookup 637=some (HX w.params):=by kernel_rfl
theorem Vu (w:World):(kX w).lookup 658=some (HY w.params):=by kernel_rfl
theorem Vv (w:World):(kX w).lookup 672=some (HZ w.params):=by kernel_rfl
theorem Vw (w:World):(kX w).lookup 686=some (wB w.params):=by kernel_rfl
theorem Vx (w:World):(kX w).lookup 700=some (H2 w.params):=by kernel_rfl
theorem JH (w:World):KF (gX w) where
  xX:=⟨_,_,_,_,_,_,_,_,Va w,by kernel_rfl⟩
  qc:=by kernel_rfl
  xY:=⟨_,_,_,_,_,_,_,_,Vb w,by kernel_rfl⟩
  s7:=by kernel_rfl
  xZ:=⟨_,_,_,_,_,_,_,_,Vc w,by kernel_rfl⟩
  x4:=by kernel_rfl
  x5:=⟨_,_,_,_,_,_,_,_,Vd w,by kernel_rfl⟩
  x6:=by kernel_rfl
  x7:=⟨_,_,_,_,_,_,_,_,Ve w,by kernel_rfl⟩
  qd:=by kernel_rfl
  x8:=⟨_,_,_,_,_,_,_,_,Vf w,by kernel_rfl⟩
  x9:=by kernel_rfl
  ya:=⟨_,_,_,_,_,_,_,_,Vg w,by kernel_rfl⟩
  yb:=by kernel_rfl
  yc:=⟨_,_,_,_,_,_,_,_,Vh w,by kernel_rfl⟩
  yd:=by kernel_rfl
  ye:=⟨_,_,_,_,_,_,_,_,Vi w,by kernel_rfl⟩
  s8:=by kernel_rfl
  yf:=⟨_,_,_,_,_,_,_,_,xe w,by kernel_rfl⟩
  Lq:=by kernel_rfl
  yg:=⟨_,_,_,_,_,_,_,_,Vj w,by kernel_rfl⟩
  s9:=by kernel_rfl
  yh:=⟨_,_,_,_,_,_,_,_,Vk w,by kernel_rfl⟩
  ta:=by kernel_rfl
  tc:=⟨_,_,_,_,_,_,_,_,Vl w,by kernel_rfl⟩
  ib:=by kernel_rfl
  yi:=⟨_,_,_,_,_,_,_,_,Vm w,by kernel_rfl⟩
  yj:=by kernel_rfl
  te:=⟨_,_,_,_,_,_,_,_,Vn w,by kernel_rfl⟩
  th:=by kernel_rfl
  ti:=⟨_,_,_,_,_,_,_,_,Vo w,by kernel_rfl⟩
  tj:=by kernel_rfl
  yk:=⟨_,_,_,_,_,_,_,_,Vq w,by kernel_rfl⟩
  qe:=by kernel_rfl
  yl:=⟨_,_,_,_,_,_,_,_,Vr w,by kernel_rfl⟩
  tm:=by kernel_rfl
  ym:=⟨_,_,_,_,_,_,_,_,Vs w,by kernel_rfl⟩
  yn:=by kernel_rfl
  yo:=⟨_,_,_,_,_,_,_,_,Vt w,by kernel_rfl⟩
  yp:=by kernel_rfl
  yq:=⟨_,_,_,_,_,_,_,_,Vu w,by kernel_rfl⟩
  yr:=by kernel_rfl
  yt:=⟨_,_,_,_,_,_,_,_,Vv w,by kernel_rfl⟩
  yu:=by kernel_rfl
  Lr:=⟨_,_,_,_,_,_,_,_,Vw w,by kernel_rfl⟩
  yv:=by kernel_rfl
  yw:=⟨_,_,_,_,_,_,_,_,Vx w,by kernel_rfl⟩
  yx:=by kernel_rfl
  yy:=⟨H3 w.params,_,by kernel_rfl,rfl⟩
  yz:=⟨HA w.params,_,_,_,by kernel_rfl,rfl⟩
  yA:=⟨#[],by kernel_rfl⟩
  yB:=⟨HW w.params,_,_,_,by kernel_rfl,rfl⟩
  qf:=by kernel_rfl
  tn:=by kernel_rfl
  tu:=by kernel_rfl
  g_split:=by kernel_rfl
  qg:=by kernel_rfl
  yC:=by kernel_rfl
  yD:=by kernel_rfl
  yE:=by kernel_rfl
  tv:=by kernel_rfl
  Ls:=by kernel_rfl
  tw:=by kernel_rfl
  tA:=by kernel_rfl
  ie:=by kernel_rfl
  yF:=by kernel_rfl
  tB:=by kernel_rfl
  tC:=by kernel_rfl
  qh:=by kernel_rfl
  tD:=by kernel_rfl
  yG:=by kernel_rfl
  yH:=by kernel_rfl
  yI:=by kernel_rfl
  yJ:=by kernel_rfl
  yL:=by kernel_rfl
  yM:=by kernel_rfl
  yN:=by kernel_rfl
  iN:=by kernel_rfl
  nU:=by kernel_rfl
  tF:=by kernel_rfl
  yO:=by kernel_rfl
  Lu:=by kernel_rfl
  yP:=by kernel_rfl
  yQ:=by kernel_rfl
  mA:=by kernel_rfl
  tG:=by kernel_rfl
  yS:=by kernel_rfl
  yU:=by kernel_rfl
  yV:=⟨1536,by kernel_rfl⟩
  qi:=by kernel_rfl
  tH:=by kernel_rfl
  tI:=by kernel_rfl
  nV:=by kernel_rfl
  tJ:=by kernel_rfl
  js:=by kernel_rfl
  yW:=by kernel_rfl
  mB:=by kernel_rfl
  yX:=by kernel_rfl
  yY:=by kernel_rfl
  qj:=by kernel_rfl
  Lv:=by kernel_rfl
  Lw:=by kernel_rfl
  tK:=by kernel_rfl
  yZ:=by kernel_rfl
  y0:=by kernel_rfl
  y1:=by kernel_rfl
  Lx:=by kernel_rfl
theorem nz {w:World} {a:Nat} {o:Obj} (ha:Nat.blt a 849=true) (h:(kU w.params (envX w.params)).get a=some o) (hl:alive o=some o):(bA w).heap.get? a=some o:=by
  have h3:(bA w).heap.get? a=match (kU w.params (envX w.params)).get a with | some o=>alive o | none=>alive default:=sv (Nat.le_of_ble_eq_true ha:a < 849)
  rw [h3,h]; exact hl
theorem Vy (w:World):(bA w).heap.get? 324=some (fz (envX w.params 38)):=nz (by kernel_rfl) (by kernel_rfl) rfl
theorem Vz (w:World):(bA w).heap.get? 330=some (fz (envX w.params 45)):=nz (by kernel_rfl) (by kernel_rfl) rfl
theorem VA (w:World):(bA w).heap.get? 339=some (fz (envX w.params 113)):=nz (by kernel_rfl) (by kernel_rfl) rfl
theorem VB (w:World):(bA w).heap.get? 347=some (fz (envX w.params 117)):=nz (by kernel_rfl) (by kernel_rfl) rfl
theorem VC (w:World):(bA w).heap.get? 353=some (rR w.params):=nz (by kernel_rfl) (by kernel_rfl) (by kernel_rfl)
theorem VD {w:World} {x:Str} {t:Tok} {v:Value}:∃ k,(PySem.strKind pg w).is k (de w.params x t v).key=true∧(de w.params x t v).hash=(PySem.strKind pg w).hash k:=⟨x,by show decide (x=x)=true; simp,rfl⟩
theorem VE (w:World):Heap.MapOf (PySem.strKind pg w) (bA w).heap 353 (pQ w):=by
  refine ⟨_,_,_,VC w,⟨rfl,rfl,rfl⟩,rfl,?_,fun k=>rfl⟩
  intro e he
  simp only [List.mem_toArray,List.mem_cons,List.not_mem_nil,or_false] at he
  rcases he with rfl | rfl | rfl | rfl | rfl | rfl | rfl <;> exact VD
theorem JI (w:World):(gX w).Good (bA w).heap where
  kx:=sx w
  tp:=pP w
  st:=fun p hp=>by
    have gj:p∈[((324:Addr),dj gL),(330,dj eo),(339,dj iT),(347,dj oA)]:=hp
    simp only [List.mem_cons,List.not_mem_nil,or_false] at gj
    rcases gj with rfl | rfl | rfl | rfl
    · exact ⟨_,by decide,sq (Uw w) (by kernel_rfl) (Vy w)⟩
    · exact ⟨_,by decide,sq (Ux w) (by kernel_rfl) (Vz w)⟩
    · exact ⟨_,by decide,sq (Uy w) (by kernel_rfl) (VA w)⟩
    · exact ⟨_,by decide,sq (Uz w) (by kernel_rfl) (VB w)⟩
  mt:=fun p hp=>by
    have gj:p∈[((353:Addr),pQ w)]:=hp
    rw [List.mem_singleton] at gj
    subst gj
    exact VE w
theorem VF (w:World):fG (pQ w):=⟨⟨1918,by kernel_rfl⟩,⟨1920,by kernel_rfl⟩,⟨1912,by kernel_rfl⟩⟩
noncomputable abbrev j0:OpenLaw:=PySem.Challenge.rw_in0144_01
noncomputable abbrev j1:ClaimW:=j0.row.toRowW.claim
theorem JJ:j0.row.toRowW.promised:=⟨[.list []],by decide+kernel,by decide+kernel⟩
theorem VG:opensWell pg=true:=by kernel_rfl
theorem VH:pg.bare:=⟨rfl,rfl,rfl,rfl,rfl,by decide+kernel⟩
theorem JK (w:World):globalOf (bA w).heap "law"=some (.ref 848):=by kernel_rfl
theorem VI (w:World):(bA w).heap.nsMap mainGlobals "law"=some (.ref 848):=(Pin.globalOf_eq (Bool.and_eq_true_iff.mp (su w)).1 _).symm.trans (JK w)
theorem VJ:pg.theDef "law"=some (dr (af 98),bZ (af 98),bz (af 98)):=by kernel_rfl
theorem VK (w:World):isTheDefsW pg (bA w).heap "law":=
  ⟨848,_,_,_,_,_,JK w,sx w _ _ (xe w),rfl,VJ,rfl,rfl,rfl,rfl,rfl,rfl,rfl,rfl,.inl ⟨by kernel_rfl,rfl⟩,[],by kernel_rfl,.inl ⟨rfl,rfl⟩⟩
structure Given (w:World) (aH:Shared) (args:List WData) (vs:List Value) (as:List Addr):Prop where
  pre:j1.pre args=true
  lay:WData.layableAll args=true
  good:(gX w).Good aH.heap
  gens:aH.gens=#[]
  reads:ReadsAllW [] (classAt (bA w).heap) aH.heap vs args as
theorem q1 (w:World):(kX w).lookup 1=some (wy w.params):=by kernel_rfl
theorem VL (w:World):(kX w).lookup 389=some (HC w.params):=by kernel_rfl
theorem VM (w:World):(kX w).lookup 445=some (HG w.params):=by kernel_rfl
theorem VN (w:World):(kX w).lookup 403=some (HD w.params):=by kernel_rfl
theorem VO (w:World):(kX w).lookup 417=some (HE w.params):=by kernel_rfl
theorem VP (w:World):(kX w).lookup 424=some (HF w.params):=by kernel_rfl
theorem VQ (w:World):(kX w).lookup 453=some (HI w.params):=by kernel_rfl
theorem VR (w:World):(kX w).lookup 485=some (HJ w.params):=by kernel_rfl
theorem VS (w:World):(kX w).lookup 281=some (wA w.params):=by kernel_rfl
theorem VT (w:World):KC (gX w) where
  Aa:=by kernel_rfl
  Ab:=by kernel_rfl
  kJ:=by kernel_rfl
  Ac:=by kernel_rfl
  oO:=by kernel_rfl
  Ad:=by kernel_rfl
  fF:=⟨_,_,_,_,_,_,_,_,VL w,by kernel_rfl⟩
  fN:=⟨_,_,_,_,_,_,_,_,VM w,by kernel_rfl⟩
  Ae:=⟨_,_,_,_,_,_,_,_,VN w,by kernel_rfl⟩
  Af:=⟨_,_,_,_,_,_,_,_,VO w,by kernel_rfl⟩
  Ag:=⟨_,_,_,_,_,_,_,_,VP w,by kernel_rfl⟩
  Ah:=⟨_,_,_,_,_,_,_,_,VQ w,by kernel_rfl⟩
  Ai:=⟨_,_,_,_,_,_,_,_,VR w,by kernel_rfl⟩
  Aj:=⟨_,_,_,_,_,_,_,_,VS w,by kernel_rfl⟩
  uJ:=by kernel_rfl
  Ak:=by kernel_rfl
  uK:=by kernel_rfl
  Al:=by kernel_rfl
  lG:=by kernel_rfl
  qM:=by kernel_rfl
  Am:=by kernel_rfl
  An:=by kernel_rfl
  Ao:=by kernel_rfl
  iX:=fun nm=>by kernel_rfl
  qN:=fun nm=>by kernel_rfl
  uL:=by kernel_rfl
  uM:=by kernel_rfl
  uN:=by kernel_rfl
  qO:=by kernel_rfl
  Aq:=by kernel_rfl
  Ar:=by kernel_rfl
  As:=by kernel_rfl
  qP:=by kernel_rfl
  Au:=by kernel_rfl
  Av:=by kernel_rfl
  Aw:=by kernel_rfl
  frozen:=⟨1980,by kernel_rfl⟩
  explicit:=⟨1982,by kernel_rfl⟩
  sys:=⟨_,q1 w⟩
  Ax:=⟨HH w.params,_,_,_,by kernel_rfl,rfl⟩
theorem VU (w:World):(kX w).lookup 535=some (HO w.params):=by kernel_rfl
theorem VV (w:World):(kX w).lookup 527=some (HL w.params):=by kernel_rfl
theorem VW (w:World):(kX w).lookup 530=some (HN w.params):=by kernel_rfl
theorem VX (w:World):(kX w).lookup 526=some (HK w.params):=by kernel_rfl
theorem VY (w:World):(kX w).lookup 529=some (HM w.params):=by kernel_rfl
theorem VZ (w:World):(kX w).lookup 274=some (wz w.params):=by kernel_rfl
theorem V0 (w:World):KO (gX w) where
  cls:=⟨_,_,_,_,VU w,rfl,rfl,rfl,rfl,by kernel_rfl⟩
  call:=by kernel_rfl
  typ:=by kernel_rfl
  rd:=by kernel_rfl
  new:=by kernel_rfl
  sm:=by kernel_rfl
  q0:=by kernel_rfl
  AS:=by kernel_rfl
  AU:=by kernel_rfl
  keep:=by kernel_rfl
  ga:=by kernel_rfl
  gt:=by kernel_rfl
  AW:=by kernel_rfl
  fData:=by kernel_rfl
  fFlags:=by kernel_rfl
  vb:=by kernel_rfl
  mR:=by kernel_rfl
  vc:=by kernel_rfl
  mS:=by kernel_rfl
  vd:=⟨_,_,_,_,VV w,VX w,2196,by kernel_rfl⟩
  mT:=⟨_,_,_,_,VW w,VY w,2206,by kernel_rfl⟩
  AX:=by kernel_rfl
  AY:=by kernel_rfl
  AZ:=by kernel_rfl
  dG:=⟨_,_,VZ w,rfl⟩
  kG:=by kernel_rfl
  A0:=by kernel_rfl
  oO:=by kernel_rfl
  q8:=⟨1982,by kernel_rfl⟩
  A1:=⟨1980,by kernel_rfl⟩
  kF:=by kernel_rfl
  kN:=by kernel_rfl
  q9:=by kernel_rfl
  A2:=by kernel_rfl
  A3:=by kernel_rfl
  A4:=by kernel_rfl
  ra:=by kernel_rfl
theorem V1 (w:World):(kX w).lookup 686=some (wB w.params):=by kernel_rfl
theorem V2 (w:World):(kX w).lookup 685=some (H0 w.params):=by kernel_rfl
theorem JL (w:World):KE (gX w) where
  fS:=⟨_,_,_,_,_,_,_,V1 w⟩
  cS:=by kernel_rfl
  vn:=⟨_,_,_,_,_,_,_,_,_,V2 w,rfl,rfl,rfl,rfl,rfl,rfl,rfl,rfl⟩
  exc:=by kernel_rfl
  Bk:=by kernel_rfl
theorem V3 (w:World):KS (gX w) where
  BE:=by kernel_rfl
  BF:=by kernel_rfl
theorem xf (w:World):(bA w).heap.get? 681=some (tabObj #[]):=nz (by kernel_rfl) (by kernel_rfl) rfl
theorem V4 (w:World):(kX w).lookup 681=none:=by kernel_rfl
theorem JM:recsOf pp=[]:=by kernel_rfl
theorem V5:ownsOf pp=[]:=by kernel_rfl
theorem Ns.aP {h:Heap} {a q:Addr} {m:Str→Option Value} (x:h.Ns a m) (ha:a≠q):(hideAll h [q]).Ns a m:=
  let ⟨o,es,ep,e,r⟩:=x; ⟨o,es,ep,hideAll_get _ e (by rw [List.mem_singleton]; exact ha),r⟩
theorem V6 {j2:ExcName→Option Value} {mg mb:Str→Option Value} {h:Heap} (T:Top pp ny j2 mg mb h) (hq:h.get? 681=some (tabObj #[])):Top pp ny j2 mg mb (hideAll h [681]) where
  g:=Ns.aP T.g (by decide)
  b:=Ns.aP T.b (by decide)
  nolimit:=let ⟨mc,a,b⟩:=T.nolimit; ⟨mc,Ns.aP a (by decide),b⟩
  nodigits:=let ⟨mc,a,b⟩:=T.nodigits; ⟨mc,Ns.aP a (by decide),b⟩
  fn:=fun d hd=>by rw [JM] at hd; cases hd
  own:=fun d hd=>by rw [V5] at hd; cases hd
  const:=T.const
  free:=T.free
  builtins:=T.builtins
  tab:=fun d hd=>by rw [JM] at hd; cases hd
  bmain:=by
    obtain ⟨bm,ob,h1,h2,h3,h4,r⟩:=T.bmain
    refine ⟨bm,ob,h1,h2,hideAll_get _ h3 ?_,h4,r⟩
    rw [List.mem_singleton]
    intro e
    rw [e,hq] at h3
    cases h3
    cases h4
  seer:=fun hi=>by
    have S:=T.seer hi
    refine ⟨let ⟨mc,a,b⟩:=S.statics; ⟨mc,Ns.aP a (by decide),b⟩,let ⟨mc,a,b⟩:=S.mods; ⟨mc,Ns.aP a (by decide),b⟩,let ⟨mc,a,b⟩:=S.imp; ⟨mc,Ns.aP a (by decide),b⟩,?_⟩
    obtain ⟨V7,bm,ob,a,b,c,d,e⟩:=S.main
    refine ⟨V7,bm,ob,Ns.aP a (by decide),b,hideAll_get _ c ?_,d,e⟩
    rw [List.mem_singleton]
    intro z
    rw [z,hq] at c
    cases c
    cases d
theorem V8 (w:World):(gX w).Good (hideAll (bA w).heap [681]) where
  kx:=fun a o h=>hideAll_get _ (sx w a o h) (by
    rw [List.mem_singleton]
    intro e
    subst e
    have:=V4 w
    have h':(kX w).lookup 681=some o:=h
    rw [this] at h'; cases h')
  tp:=V6 (pP w) (xf w)
  st:=fun p hp=>by
    obtain ⟨n,hn,es,ep,t,h1,h2⟩:=(JI w).st p hp
    refine ⟨n,hn,es,ep,t,hideAll_get _ h1 ?_,h2⟩
    have gj:p∈[((324:Addr),dj gL),(330,dj eo),(339,dj iT),(347,dj oA)]:=hp
    simp only [List.mem_cons,List.not_mem_nil,or_false] at gj
    rw [List.mem_singleton]
    rcases gj with rfl | rfl | rfl | rfl <;> decide
  mt:=fun p hp=>by
    obtain ⟨o,es,ep,h1,h2⟩:=(JI w).mt p hp
    refine ⟨o,es,ep,hideAll_get _ h1 ?_,h2⟩
    have gj:p∈[((353:Addr),pQ w)]:=hp
    rw [List.mem_singleton] at gj ⊢
    subst gj
    exact (by decide:¬ ((353:Addr)=681))
structure V9 (w:World) (aH:Shared) (args:List WData) (vs:List Value) (as:List Addr):Prop where
  pre:j1.pre args=true
  keeps:∀ b o,(bA w).heap.get? b=some o→aH.heap.get? b=some o
  fresh:∀ a∈as,(bA w).heap.objs.size≤a
  gens:aH.gens=#[]
  laid:∃ ord s',layAllW [] (classAt (bA w).heap) w.params ord args (bA w)=some (vs,s')∧s'.heap=aH.heap
  reads:ReadsAllW [] (classAt (bA w).heap) aH.heap vs args as
noncomputable def sy (c:ClaimW) (cl:Str→Option Addr) (j2:ExcName→Option Value) (args:List WData) (aH:Shared) (res:Result) (s':Shared):Prop:=
  ((∃ v d as,res=.ok (.ret v)∧(∀ cls,c.raises args cls=false)∧ReadsW c.records cl s'.heap v d as∧c.post args d args=true∧
      (c.unshared=true→as.Nodup∧∀ a∈as,aH.heap.get? a=none))∨
    (∃ e ob cls,res=.error (.ref e)∧s'.heap.get? e=some ob∧j2 cls=some ob.cls∧c.raises args cls=true∧aH.heap.get? e=none))∧
  OldK aH.heap s'.heap∧s'.os=aH.os∧s'.gens=#[]
theorem sy.ends {c:ClaimW} {nA aH s':Shared} {args:List WData} {vs:List Value} {as:List Addr} {r:Result} (Wa:c.same=none) (Wb:c.within=[]) (hi:∀ a b,c.ident a b=true)
    (mi:ReadsAllW c.records (classAt nA.heap) aH.heap vs args as) (hold:∀ a∈as,∃ o,aH.heap.get? a=some o) (Wc:aH.os=nA.os)
    (g:sy c (classAt nA.heap) (ExcName.means nA.heap) args {aH with gens:=#[]} r s'):c.Ends nA args vs aH r s'∧s'.os=nA.os∧s'.gens=#[]:=by
  obtain ⟨Wd,hK,lK,gK⟩:=g
  refine ⟨?_,lK.trans Wc,gK⟩
  rcases Wd with ⟨v,d,bs,rfl,We,Wf,Wg,xg⟩ | ⟨e,ob,cls,rfl,he,ij,Wh,Wi⟩
  · exact .inl ⟨v,rfl,We,⟨d,args,bs,as,Wf,mi.keepsK fun b o e hc=>hK.get_of_cls e hc,Wg,fun hu=>⟨(xg hu).1,(xg hu).2,fun a ha dY=>by
      obtain ⟨o,ho⟩:=hold a dY
      have:=(xg hu).2 a ha
      rw [show aH.heap.get? a=none from this] at ho; cases ho⟩,fun ω ω=>hi _ _⟩,(fun i dD=>by rw [Wa] at dD; cases dD),(fun b o dY ω ω=>hK.old b o dY),fun i dD=>by rw [Wb] at dD; cases dD⟩
  · exact .inr ⟨e,ob,cls,rfl,he,ij,Wh,Wi,fun b o dY=>hK.old b o dY⟩
noncomputable def JN:Prop:=∀ (w:World) (aH:Shared) (args:List WData) (vs:List Value) (as:List Addr),V9 w aH args vs as→
  wpAny (model pg w) callerA (PySem.call (.ref 848) vs) (fun v s'=>sy j1 (classAt (bA w).heap) (ExcName.means (bA w).heap) args aH (.ok (.ret v)) s')
    (fun e s'=>sy j1 (classAt (bA w).heap) (ExcName.means (bA w).heap) args aH (.error e) s') aH
theorem Wj (call:JN) (xh:j0.row.wellSaid=true):j0.row.Holds:=by
  refine ⟨xh,JJ,⟨VH,VG,rfl⟩,JJ.witness,fun w=>⟨(opens w (envX w.params)).1,fun s' bk=>?_⟩⟩
  obtain ⟨hf,XY⟩:=(opens w (envX w.params)).2 s' bk
  obtain ⟨hg,hb⟩:=Bool.and_eq_true_iff.mp (su w)
  have hT:=U6 w
  refine ⟨s0 w,hf,rfl,bA w,hT,?_,fun x hx=>(nomatch hx),fun x hx=>(nomatch hx),?_⟩
  · intro n hn
    have mP:n∈[("law":Str)]:=hn
    rw [List.mem_singleton] at mP
    subst mP
    exact VK w
  have hz:(bA w).asleep:=Shared.asleep_of_life hT.2.1 (JG w)
  have Wk:leftWithCleanup (bA w).gens=false:=by show leftWithCleanup #[.finished]=false; kernel_rfl
  refine ClaimW.callFrom_of_specN (c:=j1) hz Wk fun args JO Wl ord rY=>?_
  obtain ⟨⟨vs,aH⟩,pR⟩:=Option.isSome_iff_exists.mp (layAllW_isSome (R:=[]) (cl:=classAt (bA w).heap) (P:=w.params) (ord:=ord) (fun c hc=>(nomatch hc)) args j0.row.args (bA w) (pre_splitW JO).1)
  have keeps:=layAllW_keeps _ _ _ pR
  have fj:=layAllW_rest _ _ _ pR
  obtain ⟨as,mi,gp,hold⟩:=reads_layAllW rY _ _ _ pR Wl aH.heap (fun ω ω e=>e)
  have h:=call w {aH with gens:=#[]} args vs as ⟨JO,keeps,fun a ha=>(gp.2.2 a ha).1,rfl,⟨ord,aH,pR,rfl⟩,mi⟩
  have hi:=ident_freeW (r:=j0.row.toRowW) rfl rfl rfl
  have cN:({aH with gens:=#[]}:Shared).heap.Ns mainGlobals ((bA w).heap.nsMap mainGlobals):=(pP w).g.keeps keeps
  refine ⟨vs,aH,pR,wpAny_bind (wpAny_nsGet cN ?_)⟩
  rw [show (bA w).heap.nsMap mainGlobals j0.row.name=some (.ref 848) from VI w]
  refine wpAny_bind (wpAny_mono h (fun v s' g=>?_) fun e s' g=>?_)
  · have z:=g.ends (c:=j1) rfl rfl hi mi hold fj.2.2.1
    exact wpAny_pure ⟨_,rfl,z.1,z.2.1,z.2.2,fun q=>nomatch q⟩
  · have z:=g.ends (c:=j1) rfl rfl hi mi hold fj.2.2.1
    exact ⟨z.1,z.2.1,z.2.2,fun q=>nomatch q⟩
noncomputable def JP:Prop:=∀ is:List Int,is.length≤63→∃ bg bc t1 t2 k1 k2,Plain (eI (dB (cA is))) (ey (dB (cA is))) bg bc t1 t2 k1 k2
theorem JQ:∀ {xs:List WData},WShape.hasItems [] xs .int=true→∃ is:List Int,xs=is.map .int
  | [],_=>⟨[],rfl⟩
  | x::xs,h=>by
    have h':WShape.has [] x .int=true∧WShape.hasItems [] xs .int=true:=by rw [←Bool.and_eq_true]; exact h
    obtain ⟨i,rfl⟩:=hasW_int h'.1
    obtain ⟨is,rfl⟩:=JQ h'.2
    exact ⟨i::is,rfl⟩
theorem Wm {args:List WData} (h:j1.pre args=true):∃ is:List Int,args=[.list (is.map .int)]∧is.length≤63:=by
  obtain ⟨h1,h2⟩:=pre_splitW (r:=j0.row.toRowW) h
  obtain ⟨d,r,rfl,h3,h4⟩:=hasAllW_cons (R:=j0.row.toRowW.records) (e:=.list .int) (es:=[]) h1
  have:=hasAllW_nil h4
  subst this
  obtain ⟨xs,rfl,h5⟩:=hasW_list h3
  obtain ⟨is,rfl⟩:=JQ h5
  refine ⟨is,rfl,?_⟩
  have h6:(WTm.and (.not (.lt (.lit (.int 63)) (.len (.arg 0)))) (.lit (.bool true))).holds [] {args:=[.list (is.map .int)]}=true:=h2
  rw [Nat.le_iff_lt_add_one]
  by_cases hc:is.length < 63+1
  · exact hc
  · exfalso
    have h7:(63:Int) < (is.length:Int):=by lia
    have h8:Num.less? (.int 63) (.int (is.length:Int))=some true:=by
      show some (decide ((63:Int) < (is.length:Int)))=some true
      rw [decide_eq_true h7]
    simp [WTm.holds,WTm.value,less?,h8] at h6
theorem JR {h:Heap} {cl:Str→Option Addr}:∀ {vs:List Value} {is:List Int} {as:List Addr},ReadsAllW [] cl h vs (is.map .int) as→as=[]∧∀ ι,aY ι vs (is.map AV.int)
  | _,[],_,h=>by cases h; exact ⟨rfl,fun ω=>.nil⟩
  | _,i::is,_,h=>by
    cases h with | cons h1 h2=>
    cases h1
    obtain ⟨rfl,h3⟩:=JR h2
    exact ⟨rfl,fun ι=>.cons (.int _ _) (h3 ι)⟩
theorem Wn (w:World) (h:Heap) (x:(gX w).K.In h):((h.objs.size:Addr)==sysModules)=false:=by
  have h1:848 < h.objs.size:=Heap.lt_size (x _ _ (xe w))
  rw [beq_eq_false_iff_ne]
  intro e
  rw [e] at h1
  exact absurd h1 (by decide)
theorem Wo (args:List WData):j1.post args (.bool true) args=true:=by
  show (WShape.has [] (.bool true) .bool&&(WTm.eq .res (.lit (.bool true))).holds [] _)=true
  have h9:same (.bool true) (.bool true)=true:=by simp [same]
  rw [Bool.and_eq_true]
  exact ⟨rfl,(holdsW_of_value (X:=same (.bool true) (.bool true)) rfl).trans h9⟩
theorem Wq (plain:JP):JN:=by
  intro w aH args vs as G
  obtain ⟨is,rfl,hlen⟩:=Wm G.pre
  obtain ⟨bg,bc,t1,t2,k1,k2,Wr⟩:=plain is hlen
  have mi:=G.reads
  cases mi with | cons hr Ws=>
  cases Ws
  cases hr with | @list r oS us n _ XZ iU ij Wt jq=>
  obtain ⟨rfl,Wu⟩:=JR jq
  have dz:(bA w).heap.objs.size≤r:=G.fresh r (by simp)
  have xi:aH.heap.get? 681=some (tabObj #[]):=G.keeps _ _ (xf w)
  have xj:(kX w).In aH.heap:=fun a o h=>G.keeps _ _ (sx w a o h)
  have aT:r≠681:=fun e=>by
    have:=Heap.lt_size (xf w)
    rw [e] at dz; exact absurd this (Nat.not_lt.mpr dz)
  have Wv:(gX w).Good (hideAll aH.heap [681,r]):=(V8 w).keeps fun b o e=>by
    have e':=of_hideAll _ e
    refine hideAll_get _ (G.keeps _ _ e') ?_
    intro hm
    rcases List.mem_cons.mp hm with rfl | hm
    · rw [hideAll_none _ (.head _)] at e; cases e
    · rw [List.mem_singleton] at hm
      subst hm
      exact absurd (Heap.lt_size e') (Nat.not_lt.mpr dz)
  obtain ⟨oc,od,ia,doc,pm,an,bb,ct,hl,hc⟩:=(JH w).yf
  refine wpAny_call ?_
  refine codeAny_call_def (fd:=fnOf "law" "law" (dr (af 98)) iF eW .none .none doc pm an bb ct) (body:=iF) (binds:=(["script"]:List Str).zip [.ref r]) (by decide) (xj _ _ hl) rfl ((pP w).nolimit.keeps G.keeps) (codeRec_of xj hc) rfl (BindsTo.of_eq rfl) (show ∀ x∈eW.names,x.2≠.cell by decide+kernel) (fun x hx=>by
    have:x=(("script":Str),Value.ref r):=by simpa using hx
    subst this
    kernel_rfl) (fun ah cN cx=>?_) (show eW.isCoroutine=false by decide+kernel) (show eW.isGenerator=false by decide+kernel) (show eW.kind=.function by decide+kernel)
  have Ww:oS.dict=none:=by
    obtain ⟨ord,s',h1,h2⟩:=G.laid
    obtain ⟨a,q,h3,h4,h5⟩:=layAllW_cons h1
    obtain ⟨q',h6,rfl⟩:=layW_list h3
    simp only [layAllW,Option.some.injEq] at h4
    subst h4
    cases h5
    rw [←h2] at iU
    rw [Heap.get?_push_size _ rfl] at iU
    cases iU
    rfl
  have Wx:dQ oS us.toList:=⟨ij,Ww,n,Wt⟩
  have body:=R7 (σ:=[(681,tabObj #[])]) (JH w) (U9 w) (VT w) (V0 w) (JL w) (V3 w) (Wn w) (.head _) (VF w) (by lia) Wr (.head _) rfl
  have N:∀ p∈[(r,oS),(681,tabObj #[])],ah.get? p.1=some p.2∧p.1≠aH.heap.objs.size∧(hideAll aH.heap [681,r]).get? p.1=none:=fun p hp=>by
    rcases List.mem_cons.mp hp with rfl | hp
    · exact ⟨cx _ _ iU,Nat.ne_of_lt (Heap.lt_size iU),hideAll_none _ (.tail _ (.head _))⟩
    · rw [List.mem_singleton] at hp
      subst hp
      exact ⟨cx _ _ xi,Nat.ne_of_lt (Heap.lt_size xi),hideAll_none _ (.head _)⟩
  have ai:St (gX w) ⟨callerA.deeper (PyProof.Rows.envOf "law" eW aH.heap.objs.size 848 bb),callerA,"law",848,bb,aH.heap.objs.size,[],hideAll aH.heap [681,r],[],none,[]⟩ ([(r,oS)]++[(681,tabObj #[])]) _ ah:=
    ⟨hideAll aH.heap [681,r],⟨cN,fun b o e=>cx b o (of_hideAll _ e),Nat.le_of_eq (hideAll_size _ _)⟩,N,below_caller _,(fun p hp=>nomatch hp)⟩
  have ok:Cx.Ok (gX w) ⟨callerA.deeper (PyProof.Rows.envOf "law" eW aH.heap.objs.size 848 bb),callerA,"law",848,bb,aH.heap.objs.size,[],hideAll aH.heap [681,r],[],none,[]⟩ eW true 39:=
    ⟨Wv,Around.frames_deeper rfl,by decide+kernel,(show 1+claimMargin+1+39 < 900 by decide),(show 4+3+20 * 39 < 9000 by decide),rfl,(fun p hp=>nomatch hp),fun ω=>⟨rfl,rfl⟩,rfl⟩
  have R₀:bF [(r,oS)] (lX is none none none none none none) (fun y=>((["script"]:List Str).zip [Value.ref r]).reverse.lookup y):=
    sL (ps:=["script"]) (rest:=["x","drawn","signs","first","second","sign","texts","keys","path","names","tidy","key","tree","place","due","ends"]) (as:=[.lst (is.map AV.int)]) (by decide+kernel) rfl (.cons (.lst (.head _) Wx (Wu _)) .nil)
  refine body.on _ [(r,oS)] _ _ _ _ ok ai R₀ ⟨fun p hp q hq=>?_,by simp,(fun p hp=>nomatch hp)⟩ (by show 0 < aH.toks+1; lia) fun v fl E' U ae m' h' ao aQ S' R' aX bk hv hP=>?_
  · rw [List.mem_singleton] at hp hq
    subst hp hq
    exact aT
  obtain ⟨rfl,more,pv⟩:=hP
  refine hv.pV fun ω hv=>?_
  cases hv
  obtain ⟨h₀,I⟩:=S'
  have old:∀ b o,aH.heap.get? b=some o→asItWas aH.heap h' b o:=fun b o e=>by
    by_cases hb:b=681
    · subst hb
      rw [xi] at e
      cases e
      obtain ⟨X0,dA,_,_,_,_,_,_,_,c1,c8,c9,c2,_⟩:=(JL w).vn
      refine .inr (.inl ⟨⟨685,_,_,xj _ _ c1,c8,c2,c9⟩,rfl,#[],more,rfl,?_⟩)
      rw [(I.nw _ (List.mem_append_right _ pv)).1]
      simp
    · by_cases hr:b=r
      · subst hr
        rw [iU] at e
        cases e
        exact .inl (I.nw _ (List.mem_append_left _ (bk _ (.head _)))).1
      · exact .inl (I.fr.keep _ _ (I.bl.stays _ _ (hideAll_get _ e (by simp [hb,hr]))))
  refine ⟨.inl ⟨_,.bool true,[],rfl,fun cls=>rfl,.bool true,Wo _,fun ω=>⟨.nil,fun ω h=>nomatch h⟩⟩,⟨old,fun b o e=>?_⟩,rfl,G.gens⟩
  rcases old b o e with x | ⟨_,_,vs,more,_,x⟩ | ⟨_,_,⟨o',_,_,x,_⟩,_⟩
  · exact ⟨_,x⟩
  · exact ⟨_,x⟩
  · exact ⟨_,x⟩
theorem Wy {xs:List (List Nat)} (hs:∀ x∈xs,∀ c∈x,c < 1114112):(tupS xs).length≤10 * ((xs.map List.length).sum+xs.length)+8:=by
  have h1:∀ xs:List (List Nat),(∀ x∈xs,∀ c∈x,c < 1114112)→PyData.leavesShortAll 8 (xs.map fun x=>.str (S x))=true:=by
    intro xs
    induction xs with
    | nil=>intro _; rfl
    | cons x xs ih=>
      intro h
      rw [List.map_cons]
      unfold PyData.leavesShortAll PyData.leavesShort
      rw [ih fun y hy=>h y (List.mem_cons_of_mem _ hy),Bool.and_true,List.all_eq_true]
      intro c hc
      have:=h x (List.mem_cons_self ..) c hc
      exact decide_eq_true (Nat.lt_trans this (by decide))
  have h2:∀ xs:List (List Nat),PyData.bulkAll (xs.map fun x=>.str (S x))=(xs.map List.length).sum+xs.length:=by
    intro xs
    induction xs with
    | nil=>rfl
    | cons x xs ih=>
      rw [List.map_cons]
      unfold PyData.bulkAll PyData.bulk
      rw [ih,List.map_cons,List.sum_cons,List.length_cons]
      have:(S x).cps.size=x.length:=by simp
      lia
  have h3:=PyData.shown_le_bulk 8 (by decide) (eH xs) (by unfold eH PyData.leavesShort; exact h1 xs hs)
  have h4:(eH xs).bulk=(xs.map List.length).sum+xs.length:=by unfold eH PyData.bulk; exact h2 xs
  rw [h4] at h3
  exact h3
theorem JS {p:List Nat} {ns:List (List Nat)} (turn:Nat) (h:bM p ns) (fj:∀ c∈p,c∈ed) (hlen:p.length≤20):Path p turn ns (bG ns) (cT ns turn):=by
  obtain ⟨s1,s2,s3⟩:=h.rI
  have JT:∀ x∈ns,∀ c∈x,c∈ed:=fun x hx c hc=>fj c (s3 x hx c hc)
  have ht:(bG ns).length≤p.length:=by rw [←h.red]; exact (ub p).1
  have hp:=vP (rH ns turn)
  refine ⟨by lia,⟨p.length+1,by lia,by simpa using h.names (p.length+1) [] (by lia)⟩,rfl,h.red,by lia,⟨(bG ns).length+1,by lia,by simpa using h.m5.names ((bG ns).length+1) [] (by lia)⟩,h.ne,by lia,fun x hx=>?_,by lia,fun x hx c hc=>rF c (JT x hx c hc),?_,rfl,?_,?_⟩
  · have:=Co hx; lia
  · refine joinOk_of ?_
    have e1:(((f9 ns turn).map S).map (·.length)).sum=((f9 ns turn).map List.length).sum:=by
      rw [List.map_map]; rfl
    rw [e1,List.length_map,bD]
    simp only [List.length_cons,List.length_nil]
    lia
  · have:=Se ns turn; lia
  · have:=vO (l:=cT ns turn++[93]) (k:=0) (t:=[]) (turn:=turn) h.ne JT rfl
    rwa [Nat.zero_add] at this
theorem pS {l t:List Nat} {k c j:Nat} (h:l.drop k=c::t) (e:j=k):l[j]?=some c:=by subst e; exact gM h
theorem Wz {bg bc:List (List Nat)} (h1:bg≠[]) (h2:bc≠[]) (a1:∀ x∈bg,∀ c∈x,c∈ed) (a2:∀ x∈bc,∀ c∈x,c∈ed) (l1:bg.length≤900) (l2:bc.length≤900) (m1:(cT bg 0).length≤30000) (m2:(cT bc 1).length≤30000):
    Doc (ea (cT bg 0) (cT bc 1)) bg bc ((cT bg 0).length+1) ((cT bg 0).length+4+(cT bc 1).length)∧∀ i,i < (cT bg 0).length+4+(cT bc 1).length→i≠(cT bg 0).length+2→(ea (cT bg 0) (cT bc 1))[i]?≠some 10:=by
  obtain ⟨f1,r1,e1,w1,n1⟩:=B5 0 h1
  obtain ⟨f2,r2,e2,w2,n2⟩:=B5 1 h2
  have JU:=B7 0 a1
  have JV:=B7 1 a2
  have K1:=fun l t=>vO (l:=l) (k:=1) (t:=t) (turn:=0) h1 a1
  have K2:=fun l t k=>vO (l:=l) (k:=k) (t:=t) (turn:=1) h2 a2
  generalize cT bg 0=k1 at *
  generalize cT bc 1=k2 at *
  have d1:(ea k1 k2).drop 1=k1++93::(10::91::(k2++[93])):=by simp [ea]
  have d2:(ea k1 k2).drop (1+k1.length)=93::(10::91::(k2++[93])):=gO d1
  have d3:(ea k1 k2).drop (1+k1.length+1)=10::91::(k2++[93]):=gO (a:=[93]) d2
  have d4:(ea k1 k2).drop (1+k1.length+1+1)=91::(k2++[93]):=gO (a:=[10]) d3
  have d5:(ea k1 k2).drop (1+k1.length+1+1+1)=k2++93::[]:=gO (a:=[91]) d4
  have d6:(ea k1 k2).drop (1+k1.length+1+1+1+k2.length)=93::[]:=gO d5
  have hl:(ea k1 k2).length=k1.length+4+k2.length+1:=by simp [ea]; lia
  refine ⟨⟨by lia,?_,by lia,by lia,by simp [ea],?_,?_,pS d2 (by lia),pS d3 (by lia),pS d4 (by lia),?_,?_,pS d6 (by lia),by lia⟩,?_⟩
  · intro hm
    simp [ea] at hm
    rcases hm with hm | hm
    · exact (JU 13 hm).2 rfl
    · exact (JV 13 hm).2 rfl
  · have:=K1 _ _ d1
    rwa [Nat.add_comm 1] at this
  · exact ⟨f1,gM (t:=r1++93::(10::91::(k2++[93]))) (by rw [d1,e1]; rfl),w1,n1⟩
  · have:=K2 _ _ _ d5
    have q1:1+k1.length+1+1+1=k1.length+1+3:=by lia
    have q2:k1.length+1+3+k2.length=k1.length+4+k2.length:=by lia
    rw [q1,q2] at this
    exact this
  · refine ⟨f2,?_,w2,n2⟩
    exact pS (k:=1+k1.length+1+1+1) (t:=r2++[93]) (by rw [d5,e2]; rfl) (by lia)
  · intro i hi hn he
    have split:ea k1 k2=([91]++k1++[93])++(10::([91]++k2++[93])):=by simp [ea]
    rw [split] at he
    by_cases bq:i < k1.length+2
    · rw [List.getElem?_append_left (by simp; lia)] at he
      have hm:=List.mem_of_getElem? he
      simp at hm
      exact (JU 10 hm).1 rfl
    · rw [List.getElem?_append_right (by simp; lia)] at he
      have e0:i - ([91]++k1++[93]).length=(i - (k1.length+3))+1:=by simp; lia
      rw [e0,List.getElem?_cons_succ] at he
      have hm:=List.mem_of_getElem? he
      simp at hm
      exact (JV 10 hm).1 rfl
theorem JW {p:List Nat} {ns:List (List Nat)} (h:bM p ns) (ha:97∈p):2≤ns.length:=by
  cases h with
  | root k=>exact absurd (List.eq_of_mem_replicate ha) (by decide)
  | first k c1 c2=>simp
  | more r h1 h2 h3=>
    have:=List.length_pos_iff.mpr h1.ne
    simp; lia
theorem xk:∀ k,k < 8→sg k∈ed:=by decide
theorem WA {d:List Nat}:∀ c∈eI d,c∈ed:=by
  intro c hc
  obtain ⟨x,_,rfl⟩:=List.mem_map.mp hc
  exact xk _ (Nat.mod_lt _ (by decide))
theorem WB {d:List Nat} (hd:∀ x∈d,x < 256):∀ c∈ey d,c∈ed:=by
  intro c hc
  obtain ⟨x,hx,hc⟩:=List.mem_flatMap.mp hc
  have h1:=xk (x % 8) (Nat.mod_lt _ (by decide))
  have h2:=xk (x / 32) (by have:=hd x hx; lia)
  unfold mZ at hc
  have h:x / 8 % 4 < 4:=Nat.mod_lt _ (by decide)
  generalize x / 8 % 4=k at h hc
  match k,h with
  | 0,_=>simp at hc; rw [hc]; exact h1
  | 1,_=>
    simp at hc
    rcases hc with rfl | rfl
    · exact h1
    · exact h2
  | 2,_=>simp at hc
  | 3,_=>simp at hc; rw [hc]; exact h2
  | n+4,h=>lia
theorem WC (d:List Nat):1∈dB d:=by unfold dB; split <;> simp
theorem JX (p:List Nat):∀ c∈jA p,c∈p:=by
  have key:∀ (l t:List Nat) (b:Bool),∀ c∈(l.foldl bL (t,b)).1,c∈t∨c∈l:=by
    intro l
    induction l with
    | nil=>intro t b c hc; exact .inl hc
    | cons x l ih=>
      intro t b c hc
      rw [List.foldl_cons] at hc
      rcases ih (bL (t,b) x).1 (bL (t,b) x).2 c hc with h | h
      · unfold bL at h
        dsimp only at h
        split at h
        · rcases List.mem_append.mp h with h | h
          · exact .inl h
          · rw [List.mem_singleton] at h; subst h; exact .inr (List.mem_cons_self ..)
        · exact .inl h
      · exact .inr (List.mem_cons_of_mem _ h)
  intro c hc
  rcases key p [] false c hc with h | h
  · cases h
  · exact h
theorem WD:JP:=by
  intro is hlen
  have RK:(cA is).length≤6:=by unfold cA; simp; lia
  have bq:=BM (BL (is:=is))
  have lq:(dB (cA is)).length≤9:=by unfold dB; split <;> simp <;> lia
  have oX:=WC (cA is)
  generalize dB (cA is)=d at bq lq oX ⊢
  have q1:97∈eI d:=List.mem_map.mpr ⟨1,oX,by decide⟩
  have q2:97∈ey d:=List.mem_flatMap.mpr ⟨1,oX,by decide⟩
  have WE:(eI d).length≤20:=by unfold eI; simp; lia
  have WG:(ey d).length≤20:=by have:=vF d; lia
  have xl:=WA (d:=d)
  have xm:=WB bq
  obtain ⟨bg,h1⟩:=B8 (eI d)
  obtain ⟨bc,h2⟩:=B8 (ey d)
  have t1:=JW h1 q1
  have t2:=JW h2 q2
  have P1:=JS 0 h1 xl WE
  have P2:=JS 1 h2 xm WG
  obtain ⟨s1,s2,s3⟩:=h1.rI
  obtain ⟨u1,u2,u3⟩:=h2.rI
  have WH:∀ x∈bg,∀ c∈x,c∈ed:=fun x hx c hc=>xl c (s3 x hx c hc)
  have JY:∀ x∈bc,∀ c∈x,c∈ed:=fun x hx c hc=>xm c (u3 x hx c hc)
  have rE:=Sr bg bc
  have D:=Wz h1.ne h2.ne WH JY P1.cnt P2.cnt P1.m3 P2.m3
  have JZ:∀ c∈bG bg,c < 1114112:=fun c hc=>by
    obtain ⟨_,_,z⟩:=h1.m5.rI
    have hm:=(JX (eI d)) c (by rw [h1.red]; exact hc)
    exact rF c (xl c hm)
  have J0:∀ c∈bG bc,c < 1114112:=fun c hc=>by
    have hm:=(JX (ey d)) c (by rw [h2.red]; exact hc)
    exact rF c (xm c hm)
  refine ⟨bg,bc,bG bg,bG bc,cT bg 0,cT bc 1,P1,P2,D.1,D.2,?_,⟨fun e=>?_,fun e=>by rw [e]⟩,?_,?_,?_,?_,fun aT=>So h1 h2 t1 t2 aT,?_,?_⟩
  · have:=Wy (xs:=bc) fun x hx c hc=>rF c (JY x hx c hc)
    lia
  · have a:=h1.m5
    rw [e] at a
    exact a.uniq h2.m5
  · have:=Cr bg bc 21 (by lia) (by lia)
    lia
  · rw [←uy (bS bg bc) []]; lia
  · intro w hw
    rcases rE.1 w hw with rfl | rfl
    · exact ⟨h1.ne,by lia⟩
    · exact ⟨h2.ne,by lia⟩
  · lia
  · intro x hx c hc
    obtain ⟨w,hw,rfl⟩:=List.mem_map.mp hx
    rcases rE.1 w hw with rfl | rfl
    · exact JZ c hc
    · exact J0 c hc
  · intro x hx c hc
    simp at hx
    rcases hx with rfl | rfl
    · exact JZ c hc
    · exact J0 c hc
noncomputable abbrev rl:OpenLaw:=PySem.Challenge.rw_in0144_01
theorem w0:decide (rl.foot≤(behindTheImports rl.prog).length)=true:=by kernel_rfl
theorem w1:rl.footing.all footLine=true:=by kernel_rfl
theorem w2:noClassBlock rl.prog rl.footing=true:=by kernel_rfl
theorem w3:Option.all (fun n=>decide (63≤n)) rl.most=true:=by kernel_rfl
theorem w4:Option.all (fun n=>decide (2 ^ 63≤n)) rl.bound=true:=by kernel_rfl
theorem w5:noRoadLSs {strict:=true,foot:=some rl.bound',writes:=rl.writes,may:=rl.may} rl.footing=true:=by kernel_rfl
theorem w6:defStands rl.about rl.above=true:=by kernel_rfl
theorem w7:rl.namesIt=true:=by kernel_rfl
theorem w8:((["type","isinstance","issubclass","getattr","hasattr"]:List Str).all (fun n=>rl.about != [n]))=true:=by kernel_rfl
theorem w9:(rl.bound'.all fun n=>!builtinNamed n||rl.about==[n]||!rl.reads n)=true:=by kernel_rfl
theorem WI:(!rl.writes||(List.flatMap importedNames rl.prog.main.body).all fun n=>!rl.reads n)=true:=by kernel_rfl
theorem WJ:((List.flatMap importedNames rl.prog.main.body).all fun n=>!rl.reads n||(drawsOf n rl.prog.main.body).all fun mn=>mn.2 != Str.ofString "attrgetter"&&mn.2 != Str.ofString "methodcaller")=true:=by kernel_rfl
theorem WK:(namesMeet rl.prog rl.footing fun sc n=>(!(["type","isinstance","issubclass","getattr","hasattr"]:List Str).contains n||sc.names.lookup n==some .globalImplicit)&&(rl.may != some n||sc.kind==.module||sc.names.lookup n==some .globalImplicit))=true:=by kernel_rfl
theorem WL:rl.own.contains rl.name=true:=by kernel_rfl
theorem WM:(rl.own.eraseDups.length==rl.own.length)=true:=by kernel_rfl
theorem WN:(rl.own.all fun n=>!builtinNamed n)=true:=by kernel_rfl
theorem WO:(namesMeet rl.prog rl.above fun ω n=>!rl.own.contains n)=true:=by kernel_rfl
theorem WQ:(namesMeet rl.prog rl.footing fun sc n=>sc.kind==.module||sc.names.lookup n != some .globalExplicit)=true:=by kernel_rfl
theorem WR:rl.row.loose.isEmpty=true:=by kernel_rfl
theorem WS:rl.row.makers.isEmpty=true:=by kernel_rfl
theorem WT:(rl.row.records.isEmpty||rl.row.raises.all fun ct=>ct.1 != .builtin "AttributeError"&&ct.1 != .builtin "TypeError")=true:=by kernel_rfl
theorem WU:(rl.row.raises.all fun ct=>match ct.1 with | .builtin n=>!rl.row.prog.boundNames.contains (Str.ofString n)&&!ofTheWorld.contains n | .own _=>true)=true:=by kernel_rfl
theorem WV:decide (rl.row.records.map (·.1)).Nodup=true:=by kernel_rfl
theorem WW:(rl.row.records.all fun x=>!x.1.opensWith "__"&&!builtinNamed x.1&&rl.row.prog.boundNames.contains x.1&&x.2.all fun f=>!f.1.opensWith "__")=true:=by kernel_rfl
theorem WX:rl.row.toRowW.solid=true:=by kernel_rfl
theorem WY:rl.row.pre.litsOk=true:=by kernel_rfl
theorem WZ:rl.row.post.litsOk=true:=by kernel_rfl
theorem W0:(rl.row.raises.all (·.2.litsOk))=true:=by kernel_rfl
theorem W2:(rl.row.mutates.all (fun i=>match rl.row.args[i]? with | some sh=>!sh.arms.any WShape.isObj | none=>false))=true:=by kernel_rfl
theorem W3:(rl.row.within.all (fun i=>decide (i < rl.row.args.length)))=true:=by kernel_rfl
theorem W4:(rl.row.same.all (fun i=>decide (i < rl.row.args.length)))=true:=by kernel_rfl
theorem W5:rl.row.prog.boundNames.contains rl.row.name=true:=by kernel_rfl
theorem W6:(!startupNames.contains rl.row.name)=true:=by kernel_rfl
theorem o0:sreFenced rl.prog.main=true:=by kernel_rfl
theorem o1:((moduleNames rl.prog.main.body).isEmpty||lookedIntoSs (moduleNames rl.prog.main.body) rl.prog.main.body)=true:=by kernel_rfl
theorem o2:namesResolve rl.prog=true:=by kernel_rfl
theorem o3:rl.prog.boundNames.all (fun n=>!worldNames.contains n)=true:=by kernel_rfl
theorem o5:(namesMeet rl.prog rl.prog.main.body fun ω n=>attrL n)=true:=by kernel_rfl
theorem J1 (lk:Look) (s:Stmt) (r:List Stmt):noRoadLSs lk (s::r)=(noRoadLS lk s&&noRoadLSs lk r):=rfl
theorem J2 (lk:Look):∀ a b:List Stmt,noRoadLSs lk (a++b)=(noRoadLSs lk a&&noRoadLSs lk b)
  | [],b=>by rw [List.nil_append,show noRoadLSs lk []=true from rfl]; rfl
  | s::a,b=>by rw [List.cons_append,J1,J1,J2 lk a b,Bool.and_assoc]
theorem sA (lk:Look) (k:Nat) (l:List Stmt) (h1:noRoadLSs lk (l.take k)=true) (h2:noRoadLSs lk (l.drop k)=true):noRoadLSs lk l=true:=by
  rw [←List.take_append_drop k l,J2,h1,h2]; rfl
noncomputable def nB:Look:={strict:=false,foot:=none,bare:=[]}
theorem W7:readsOut rl.prog rl.prog.main.body "vars"=false:=by kernel_rfl
theorem W8:readsOut rl.prog rl.prog.main.body "dir"=false:=by kernel_rfl
theorem W9:readsOut rl.prog rl.prog.main.body "locals"=false:=by kernel_rfl
theorem Xa:noRoadLSs nB (rl.prog.main.body.take 20)=true:=by kernel_rfl
theorem Xb:noRoadLSs nB ((rl.prog.main.body.drop 20).take 20)=true:=by kernel_rfl
theorem Xc:noRoadLSs nB (((rl.prog.main.body.drop 20).drop 20).take 20)=true:=by kernel_rfl
theorem Xd:noRoadLSs nB ((((rl.prog.main.body.drop 20).drop 20).drop 20).take 20)=true:=by kernel_rfl
theorem Xe:noRoadLSs nB ((((rl.prog.main.body.drop 20).drop 20).drop 20).drop 20)=true:=by kernel_rfl
theorem Xf:(!(importedModules rl.prog.main.body).all cThrough.contains)=false:=by kernel_rfl
theorem o4:noRoadLSs {strict:=!(importedModules rl.prog.main.body).all cThrough.contains,foot:=none,bare:=(["vars","dir","locals"]:List Str).filter (readsOut rl.prog rl.prog.main.body)} rl.prog.main.body=true:=by
  have e:(["vars","dir","locals"]:List Str).filter (readsOut rl.prog rl.prog.main.body)=[]:=by
    rw [List.filter_cons,W7,List.filter_cons,W8,List.filter_cons,W9]; rfl
  rw [e,Xf]
  exact sA nB 20 _ Xa (sA _ 20 _ Xb (sA _ 20 _ Xc (sA _ 20 _ Xd Xe)))
theorem Xg:looksOpen rl.row.prog=true:=by
  show looksOpen rl.prog=true
  delta looksOpen
  exact look_both (look_both (look_both (look_both (look_both o0 o1) o2) o3) o4) o5
theorem Xh:rl.row.wellSaid=true:=by
  delta OpenRow.wellSaid
  refine look_both (look_both ?_ W5) W6
  delta OpenRow.partSaid
  exact look_both (look_both (look_both (look_both (look_both (look_both (look_both (look_both (look_both (look_both (look_both (look_both (look_both Xg WR) WS) WT) WU) WV) WW) WX) WY) WZ) W0) W2) W3) W4
theorem Xi:rl.wellSaid=true:=by
  delta OpenLaw.wellSaid
  exact look_both (look_both (look_both (look_both (look_both (look_both (look_both (look_both (look_both (look_both (look_both (look_both (look_both (look_both (look_both (look_both (look_both (look_both Xh w0) w1) w2) w3) w4) w5) w6) w7) w8) w9) WI) WJ) WK) WL) WM) WN) WO) WQ
end Mine
end
theorem PySem.Challenge.cw_in0144_01_holds : PySem.Challenge.rw_in0144_01.Holds :=
  PySem.W.holds_law Mine.Xi fun xh=>Mine.Wj (Mine.Wq Mine.WD) xh
