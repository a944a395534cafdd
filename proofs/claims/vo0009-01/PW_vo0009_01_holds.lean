import PyProof.Rows.All
import Wide.All
import OpenK.AllK
import Wide.FinOn
import PySem.Challenge.RW_vo0009_01
set_option Elab.async false
section
open PySem PySem.W PyProof.Rows PySem.Calls
set_option maxRecDepth 100000
namespace TL
open TL

/-- what g knows, h has -/
def Le (g h : Heap) : Prop := ∀ b o, g.get? b = some o → h.get? b = some o
theorem Le.refl (g : Heap) : Le g g := fun _ _ e => e
theorem Le.trans {a b c : Heap} (x : Le a b) (y : Le b c) : Le a c := fun b o e => y b o (x b o e)

/-- a state: everything but heap and counter stays -/
abbrev St (c : Shared) (h : Heap) (t : Tok) : Shared := { heap := h, gens := c.gens, drawn := c.drawn, toks := t, os := c.os }

/-- a heap with one entry put -/
def put (h : Heap) (a : Addr) (o : Obj) : Heap :=
  { objs := (h.objs ++ Array.replicate (a + 1 - h.objs.size) ({ cls := .none, data := .freed } : Obj)).setIfInBounds a o, life := h.life }
theorem put_self (h : Heap) (a : Addr) {o : Obj} (ho : o.isFreed = false) : (put h a o).get? a = some o := by
  refine Heap.get?_some_iff.mpr ⟨?_, ho⟩
  unfold put
  rw [Array.getElem?_setIfInBounds]
  simp only [Array.size_append, Array.size_replicate, if_true]
  rw [if_pos (by omega)]
theorem put_ne (h : Heap) {a b : Addr} (o : Obj) (hb : b ≠ a) : (put h a o).get? b = h.get? b := by
  have e : (put h a o).objs[b]? = h.objs[b]? ∨ (h.objs[b]? = none ∧ (put h a o).objs[b]? = some ({ cls := .none, data := .freed } : Obj)) := by
    unfold put
    rw [Array.getElem?_setIfInBounds, if_neg (Ne.symm hb), Array.getElem?_append]
    by_cases q : b < h.objs.size
    · rw [if_pos q]; exact .inl rfl
    · rw [if_neg q]
      have n : h.objs[b]? = none := by simpa using q
      rw [n, Array.getElem?_replicate]
      by_cases r : b - h.objs.size < a + 1 - h.objs.size
      · rw [if_pos r]; exact .inr ⟨rfl, rfl⟩
      · rw [if_neg r]; exact .inl rfl
  unfold Heap.get?
  rcases e with e | ⟨e1, e2⟩
  · rw [e]
  · rw [e1, e2]

/-- from (g₀, h₀) to (g, h): the known grows, nothing old is touched outside S, nothing goes -/
structure Gw (S : List Addr) (g₀ h₀ g h : Heap) : Prop where
  le : Le g₀ g
  sub : Le g h
  ext : ∀ a o, a ∉ S → h₀.get? a = some o → h.get? a = some o
  fr : ∀ a o, g.get? a = some o → g₀.get? a = some o ∨ h₀.get? a = none
  live : ∀ a, h.get? a = none → h₀.get? a = none

theorem Gw.start {S : List Addr} {g h : Heap} (l : Le g h) : Gw S g h g h := ⟨.refl _, l, fun _ _ _ e => e, fun _ _ e => .inl e, fun _ e => e⟩
theorem Gw.trans {S : List Addr} {g₀ h₀ g₁ h₁ g h : Heap} (x : Gw S g₀ h₀ g₁ h₁) (y : Gw S g₁ h₁ g h) : Gw S g₀ h₀ g h :=
  ⟨x.le.trans y.le, y.sub, fun a o n e => y.ext a o n (x.ext a o n e), fun a o e => (y.fr a o e).elim (x.fr a o) fun q => .inr (x.live a q), fun a e => x.live a (y.live a e)⟩
theorem Gw.mono {S S' : List Addr} {g₀ h₀ g h : Heap} (x : Gw S g₀ h₀ g h) (s : ∀ a ∈ S, a ∈ S') : Gw S' g₀ h₀ g h :=
  ⟨x.le, x.sub, fun a o n e => x.ext a o (fun m => n (s a m)) e, x.fr, x.live⟩
/-- all that was there and is not written to is there -/
theorem Gw.all {g₀ h₀ g h : Heap} (x : Gw [] g₀ h₀ g h) : Le h₀ h := fun a o e => x.ext a o (fun m => nomatch m) e
end TL

end
section
open PySem PySem.W PyProof.Rows PySem.Calls
set_option maxRecDepth 100000
namespace TL
open TL
abbrev prg : Program := PySem.Challenge.pw_vo0009_01
def stI (i : Nat) : Stmt := prg.main.body.getD i (.Pass ⟨0, 0, 0, 0⟩)
def bodyOf : Stmt → List Stmt
  | .FunctionDef _ _ b _ _ _ _ _ _ _ => b
  | .ClassDef _ _ _ b _ _ _ _ _ _ _ => b
  | _ => []
def argsOf : Stmt → Arguments
  | .FunctionDef _ a _ _ _ _ _ _ _ _ => a
  | _ => ⟨[], [], none, [], [], none, []⟩
def scopeOf : Stmt → Scope
  | .FunctionDef _ _ _ _ _ _ s _ _ _ => s
  | _ => ⟨.function, [], false, false, []⟩
def meth (i j : Nat) : Stmt := (bodyOf (stI i)).getD j (.Pass ⟨0, 0, 0, 0⟩)

/-- room for n more -/
structure Room (A : Around) (n : Nat) : Prop where
  handled : A.handled = none
  depth : A.depth + 4 * n ≤ 990
  units : A.units + 50 * n ≤ 9800
theorem Room.mono {A : Around} {n m : Nat} (r : Room A n) (h : m ≤ n) : Room A m := ⟨r.1, by have := r.2; omega, by have := r.3; omega⟩
theorem Room.lt {A : Around} {n : Nat} (r : Room A n) : A.depth < recursionLimit := by have := r.2; show A.depth < 1000; omega
theorem Room.deeper {A : Around} {n : Nat} (r : Room A (n + 1)) (env : Env) : Room (A.deeper env) n := ⟨r.1, by have := r.2; show A.depth + 1 + 4 * n ≤ 990; omega, by have := r.3; show A.units + 3 + 50 * n ≤ 9800; omega⟩
theorem Room.in1 {A : Around} {n : Nat} (r : Room A (n + 1)) : Room A.in1 n := ⟨r.1, by have := r.2; show A.depth + 4 * n ≤ 990; omega, by have := r.3; show A.units + 1 + 50 * n ≤ 9800; omega⟩

abbrev Lc := List (Str × Option Value)
abbrev Mu := List (Addr × (Obj → Prop))

/-- a frame: S what may be written, (g₀, h₀) the entry, g what is known, μ what may turn, lc the locals -/
structure Fm (env : Env) (S : List Addr) (g₀ h₀ g : Heap) (μ : Mu) (lc : Lc) (h : Heap) : Prop where
  gw : Gw S g₀ h₀ g h
  ns : ∃ m, h.Ns env.locals m ∧ ∀ p ∈ lc, m p.1 = p.2
  offL : g.get? env.locals = none
  newL : h₀.get? env.locals = none
  mu : ∀ p ∈ μ, (∃ o, h.get? p.1 = some o ∧ p.2 o) ∧ g.get? p.1 = none ∧ p.1 ≠ env.locals ∧ (p.1 ∈ S ∨ h₀.get? p.1 = none)
  nd : (lc.map (·.1)).Nodup
  ndm : (μ.map (·.1)).Nodup
  kd : ∀ p ∈ lc, env.kindOf p.1 = some .local ∧ (p.1 == ("__debug__" : Str)) = false
  kf : env.scope.kind = .function
  gl : env.globals = mainGlobals
  bi : env.builtins = builtinsNs

inductive At : Lc → Str → Value → Prop
  | head {x : Str} {v : Value} {r : Lc} : At ((x, some v) :: r) x v
  | tail {p : Str × Option Value} {x : Str} {v : Value} {r : Lc} : At r x v → At (p :: r) x v
theorem At.mem {lc : Lc} {x : Str} {v : Value} (a : At lc x v) : (x, some v) ∈ lc := by
  induction a with
  | head => exact .head _
  | tail _ ih => exact .tail _ ih
inductive Put : Lc → Str → Value → Lc → Prop
  | head {x : Str} {o : Option Value} {v : Value} {r : Lc} : Put ((x, o) :: r) x v ((x, some v) :: r)
  | tail {p : Str × Option Value} {x : Str} {v : Value} {r r' : Lc} : Put r x v r' → Put (p :: r) x v (p :: r')
theorem Put.keys {lc lc' : Lc} {x : Str} {v : Value} (a : Put lc x v lc') : lc'.map (·.1) = lc.map (·.1) := by
  induction a with
  | head => rfl
  | tail _ ih => simp [ih]
theorem Put.key {lc lc' : Lc} {x : Str} {v : Value} (a : Put lc x v lc') : ∃ o, (x, o) ∈ lc := by
  induction a with
  | head => exact ⟨_, .head _⟩
  | tail _ ih => exact ih.imp fun _ h => .tail _ h
theorem Put.is {lc lc' : Lc} {x : Str} {v : Value} (a : Put lc x v lc') (nd : (lc.map (·.1)).Nodup) : ∀ p ∈ lc', (p.1 = x ∧ p.2 = some v) ∨ (p.1 ≠ x ∧ p ∈ lc) := by
  induction a with
  | head =>
    intro p hp
    rcases List.mem_cons.mp hp with rfl | hp
    · exact .inl ⟨rfl, rfl⟩
    · refine .inr ⟨fun e => ?_, .tail _ hp⟩
      rw [List.map_cons, List.nodup_cons] at nd
      exact nd.1 (e ▸ List.mem_map_of_mem (f := (·.1)) hp)
  | @tail q x v r r' a ih =>
    rw [List.map_cons, List.nodup_cons] at nd
    intro p hp
    rcases List.mem_cons.mp hp with rfl | hp
    · refine .inr ⟨fun e => ?_, .head _⟩
      obtain ⟨o, ho⟩ := a.key
      exact nd.1 (e ▸ List.mem_map_of_mem (f := (·.1)) ho)
    · rcases ih nd.2 p hp with h | h
      · exact .inl h
      · exact .inr ⟨h.1, .tail _ h.2⟩

/-- the tree ends, without a raise, in Q; a structure: nothing looks through it -/
structure Wp (w : World) {α : Type} (A : Around) (t : Sem α) (Q : α → Shared → Prop) (s : Shared) : Prop where
  go : wpAny (model prg w) A t Q (fun _ _ => False) s
section
variable {w : World} {α : Type} {A : Around} {t : Sem α} {Q Q' : α → Shared → Prop} {s : Shared} {E : Value → Shared → Prop}
theorem Wp.to (k : Wp w A t Q s) (hQ : ∀ a s', Q a s' → Q' a s') : wpAny (model prg w) A t Q' E s := wpAny_mono k.go hQ fun _ _ x => x.elim
theorem Wp.any (k : Wp w A t Q s) : wpAny (model prg w) A t Q E s := k.to fun _ _ q => q
theorem Wp.mono (k : Wp w A t Q s) (hQ : ∀ a s', Q a s' → Q' a s') : Wp w A t Q' s := ⟨k.to hQ⟩
end

section
variable {w : World} {A : Around} {env : Env} {S : List Addr} {g₀ h₀ g h : Heap} {μ : Mu} {lc lc' : Lc} {c : Shared} {t : Tok} {x : Str} {v : Value} {pos : Pos}

theorem ldn {Q : Value → Shared → Prop} (F : Fm env S g₀ h₀ g μ lc h) (a : At lc x v) (k : Q v (St c h t)) : Wp w A (loadName env x) Q (St c h t) := by
  obtain ⟨m, hn, hm⟩ := F.ns
  exact ⟨wpAny_loadName_local (s := St c h t) F.kf (F.kd _ a.mem).1 hn (hm _ a.mem) k⟩
theorem ld {Q : Value → Shared → Prop} (F : Fm env S g₀ h₀ g μ lc h) (a : At lc x v) (k : Q v (St c h t)) : Wp w A (eval (.Name x pos) env) Q (St c h t) :=
  ⟨wpAny_Name (ldn F a k).go (F.kd _ a.mem).2⟩

theorem Fm.stored {h' : Heap} (F : Fm env S g₀ h₀ g μ lc h) (p : Put lc x v lc') (hs : Heap.SameBut env.locals h h') {m : Str → Option Value} (hm : ∀ p ∈ lc, m p.1 = p.2)
    (hn : h'.Ns env.locals (fun y => if y = x then some v else m y)) : Fm env S g₀ h₀ g μ lc' h' where
  gw := ⟨F.gw.le, fun b o e => (hs.2 b (fun q => by rw [q, F.offL] at e; cases e)).trans (F.gw.sub b o e), fun a o n e => (hs.2 a (fun q => by rw [q, F.newL] at e; cases e)).trans (F.gw.ext a o n e), F.gw.fr,
    fun a e => by
      by_cases q : a = env.locals
      · rw [q]; exact F.newL
      · exact F.gw.live a ((hs.2 a q) ▸ e)⟩
  ns := ⟨_, hn, fun q hq => by
    rcases p.is F.nd q hq with ⟨e1, e2⟩ | ⟨e1, e2⟩
    · simp only [e1, if_true, e2]
    · simp only [e1, if_false]; exact hm q e2⟩
  offL := F.offL
  newL := F.newL
  mu := fun q hq => let ⟨⟨o, a, a'⟩, b, d, e⟩ := F.mu q hq; ⟨⟨o, (hs.2 _ d).trans a, a'⟩, b, d, e⟩
  nd := by rw [p.keys]; exact F.nd
  ndm := F.ndm
  kd := fun q hq => by
    have : q.1 ∈ lc'.map (·.1) := List.mem_map_of_mem hq
    rw [p.keys] at this
    obtain ⟨r, hr, e⟩ := List.mem_map.mp this
    exact e ▸ F.kd r hr
  kf := F.kf
  gl := F.gl
  bi := F.bi

theorem stL {Q : Unit → Shared → Prop} (F : Fm env S g₀ h₀ g μ lc h) (p : Put lc x v lc') (k : ∀ h' t', Fm env S g₀ h₀ g μ lc' h' → Q () (St c h' t')) : Wp w A (storeName env x v) Q (St c h t) := by
  obtain ⟨m, hn, hm⟩ := F.ns
  obtain ⟨o, ho⟩ := p.key
  exact ⟨wpAny_storeName_local (s := St c h t) (F.kd _ ho).1 hn (fun h' hn' hs => k h' _ (F.stored p hs hm hn')) (by rw [F.kf]; rfl)⟩
end

def isComp : Expr → Bool
  | .ListComp .. => true
  | .SetComp .. => true
  | .DictComp .. => true
  | _ => false
def isStar : Expr → Bool
  | .Starred .. => true
  | _ => false
section
variable {w : World} {A : Around} {env : Env} {s : Shared} {x : Str} {pos p : Pos} {rest : List Stmt}
theorem no_swap {value : Expr} {tgt : Option Expr} {n : Nat} (h : isComp value = false) : swapsWith value tgt n env = pure false := by cases value <;> first | rfl | cases h
theorem no_star {e : Expr} {es : List Expr} (h : isStar e = false) : starEach (e :: es) env = (false, eval e env) :: starEach es env := by cases e <;> first | rfl | cases h
theorem no_stars {pos : Pos} : ∀ {es : List Expr}, es.any isStar = false → (backTo pos (starEach es env)).any (·.1) = false
  | [], _ => rfl
  | e :: es, h => by
    rw [List.any_cons, Bool.or_eq_false_iff] at h
    rw [no_star h.1]
    show (false || (backTo pos (starEach es env)).any (·.1)) = false
    rw [no_stars h.2]; rfl
/-- statements -/
theorem xAsg {value : Expr} {Q : Flow → Shared → Prop} (k : Wp w A (eval value env) (fun v s₁ => Wp w A (storeName env x v) (fun _ s₂ => Wp w A (execs rest env) Q s₂) s₁) s)
    (hs : isComp value = false := by rfl) : Wp w A (execs (.Assign [.Name x p] value pos :: rest) env) Q s :=
  ⟨wpAny_execs_cons (wpAny_Assign_Name (k.to fun _ _ k => k.to fun _ _ k => k.go) (no_swap hs))⟩
/-- behind a statement -/
def thenDo (w : World) (A : Around) (rest : List Stmt) (env : Env) (Q : Flow → Shared → Prop) : Flow → Shared → Prop
  | .next, s => Wp w A (execs rest env) Q s
  | f, s => Q f s
theorem xCons {st : Stmt} {Q : Flow → Shared → Prop} (k : Wp w A (exec st env) (thenDo w A rest env Q) s) : Wp w A (execs (st :: rest) env) Q s :=
  ⟨wpAny_execs_cons (k.to fun f s' q => by cases f <;> first | exact q.go | exact q)⟩
theorem xNil {Q : Flow → Shared → Prop} (k : Q .next s) : Wp w A (execs [] env) Q s := ⟨wpAny_execs_nil k⟩
theorem xRet {e : Expr} {Q : Flow → Shared → Prop} (k : Wp w A (eval e env) (fun v s' => Q (.ret v) s') s) : Wp w A (execs (.Return (some e) pos :: rest) env) Q s :=
  ⟨wpAny_execs_cons (wpAny_Return_some k.go)⟩
/-- behind a test -/
def onTest (w : World) (A : Around) (body orelse : List Stmt) (env : Env) (Q : Flow → Shared → Prop) : Bool → Shared → Prop
  | true, s => Wp w A (execs body env) Q s
  | false, s => Wp w A (execs orelse env) Q s
theorem xIf {test : Expr} {body orelse : List Stmt} {Q : Flow → Shared → Prop} (k : Wp w A (isTrue test env (eval test env)) (onTest w A body orelse env (thenDo w A rest env Q)) s) :
    Wp w A (execs (.If test body orelse pos :: rest) env) Q s :=
  xCons ⟨wpAny_If (k.to fun b s' q => by cases b <;> exact q.go)⟩
theorem eInt {i : Int} {n : Nat} {c : Shared} {h : Heap} {t : Tok} {Q : Value → Shared → Prop} (k : ∀ t', Q (.int i t) (St c h t')) : Wp w A (eval (.Constant (.int i) n pos) env) Q (St c h t) := ⟨wpAny_Constant_int (s := St c h t) (k _)⟩
theorem eStr {i : Str} {n : Nat} {c : Shared} {h : Heap} {t : Tok} {Q : Value → Shared → Prop} (k : ∀ t', Q (.str i t) (St c h t')) : Wp w A (eval (.Constant (.str i) n pos) env) Q (St c h t) := ⟨Constant_str (s := St c h t) (k _)⟩
theorem eStrT {i : Str} {n : Nat} {c : Shared} {h : Heap} {t : Tok} {Q : Value → Shared → Prop} (k : Q (.str i t) (St c h (t + 1))) : Wp w A (eval (.Constant (.str i) n pos) env) Q (St c h t) := ⟨Constant_str (s := St c h t) k⟩
theorem eNone {n : Nat} {Q : Value → Shared → Prop} (k : Q .none s) : Wp w A (eval (.Constant .none n pos) env) Q s := ⟨wpAny_pure k⟩
theorem eBool {b : Bool} {n : Nat} {Q : Value → Shared → Prop} (k : Q (.bool b) s) : Wp w A (eval (.Constant (.bool b) n pos) env) Q s := ⟨wpAny_pure k⟩
theorem eBin {l r : Expr} {op : Operator} {Q : Value → Shared → Prop} (k : Wp w A (eval l env) (fun a s₁ => Wp w A (eval r env) (fun b s₂ => Wp w A (binaryOp op a b) Q s₂) s₁) s) :
    Wp w A (eval (.BinOp l op r pos) env) Q s := ⟨wpAny_BinOp (k.to fun _ _ k => k.to fun _ _ k => k.go)⟩
theorem sNil {Q : List Value → Shared → Prop} (k : Q [] s) : Wp w A (spliced (backTo pos (starEach [] env))) Q s := ⟨spliced_nil k⟩
theorem sCons {e : Expr} {es : List Expr} {Q : List Value → Shared → Prop} (k : Wp w A (eval e env) (fun v s₁ => Wp w A (spliced (backTo pos (starEach es env))) (fun vs s₂ => Q (v :: vs) s₂) s₁) s)
    (he : isStar e = false := by rfl) : Wp w A (spliced (backTo pos (starEach (e :: es) env))) Q s := by
  rw [no_star he]; exact ⟨spliced_cons (k.to fun _ _ k => k.go)⟩
end

/-- the text's own things -/
structure Wg (K : Frag) (mg mb : Str → Option Value) (g : Heap) : Prop where
  k : K.In g
  mgs : g.Ns mainGlobals mg
  mbs : g.Ns builtinsNs mb
  nolimit : g.NoLimit
theorem Wg.mono {K : Frag} {mg mb : Str → Option Value} {g g' : Heap} (W : Wg K mg mb g) (l : Le g g') : Wg K mg mb g' := ⟨W.k.keeps l, W.mgs.keeps l, W.mbs.keeps l, W.nolimit.keeps l⟩

/-- x is a global's name in sc -/
abbrev Gl (sc : Scope) (x : Str) : Prop := sc.names.lookup x = some .globalImplicit ∧ (x == ("__debug__" : Str)) = false
/-- f is the plain def st -/
def Fn (K : Frag) (f : Addr) (st : Stmt) : Prop := ∃ oc od osl name qual doc pm an cdv ct,
  K.lookup f = some ⟨oc, od, .func (fnOf name qual (argsOf st) (bodyOf st) (scopeOf st) .none .none doc pm an cdv ct), osl⟩ ∧ codeIn K cdv qual = true
theorem Fn.keep {K : Frag} {f : Addr} {st : Stmt} (fn : Fn K f st) : keepIn K (.ref f) = true := by
  obtain ⟨oc, od, osl, name, qual, doc, pm, an, cdv, ct, ho, hcd⟩ := fn
  unfold keepIn; simp only [ho]
section
variable {w : World} {A : Around} {env : Env} {S : List Addr} {g₀ h₀ g h : Heap} {μ : Mu} {lc lc' : Lc} {c : Shared} {t : Tok} {x : Str} {v : Value} {pos p : Pos} {K : Frag} {mg mb : Str → Option Value} {Q : Value → Shared → Prop}
theorem ldG (F : Fm env S g₀ h₀ g μ lc h) (W : Wg K mg mb g₀) (hx : Gl env.scope x) (hv : mg x = some v) (k : Q v (St c h t)) : Wp w A (eval (.Name x pos) env) Q (St c h t) :=
  ⟨Name_function_global F.kf hx.1 (loadGlobal_global (by rw [F.gl]; exact W.mgs.keeps (F.gw.le.trans F.gw.sub)) hv k) hx.2⟩
theorem ldB (F : Fm env S g₀ h₀ g μ lc h) (W : Wg K mg mb g₀) (hx : Gl env.scope x) (hv : mg x = none ∧ mb x = some v) (k : Q v (St c h t)) : Wp w A (eval (.Name x pos) env) Q (St c h t) :=
  ⟨Name_function_global F.kf hx.1 (loadGlobal_builtin (by rw [F.gl]; exact W.mgs.keeps (F.gw.le.trans F.gw.sub)) hv.1 (by rw [F.bi]; exact W.mbs.keeps (F.gw.le.trans F.gw.sub)) hv.2 k) hx.2⟩
theorem Fm.kin (F : Fm env S g₀ h₀ g μ lc h) (W : Wg K mg mb g₀) : K.In h := W.k.keeps (F.gw.le.trans F.gw.sub)
theorem eCallF {f : Addr} {st : Stmt} {e : Expr} {args : List Expr} (F : Fm env S g₀ h₀ g μ lc h) (W : Wg K mg mb g₀) (hx : Gl env.scope x) (hv : mg x = some (.ref f) ∧ Fn K f st)
    (k : Wp w A (spliced (backTo pos (starEach (e :: args) env))) (fun vs s₁ => K.In s₁.heap ∧ Wp w A (call (.ref f) vs) Q s₁) (St c h t)) (he : (e :: args).any isStar = false := by rfl) :
    Wp w A (eval (.Call (.Name x p) (e :: args) [] pos) env) Q (St c h t) := by
  have hp := he
  rw [List.any_cons, Bool.or_eq_false_iff] at hp
  refine ⟨wpAny_Call_Name_kw (ldG F W hx hv.1 ?_).go⟩
  exact callWith_K W.k hv.2.keep (k.to fun _ _ k => ⟨k.1, k.2.go⟩) (no_star hp.1) (no_stars hp.2)
theorem eCallB {b : String} {e : Expr} {args : List Expr} (F : Fm env S g₀ h₀ g μ lc h) (W : Wg K mg mb g₀) (hx : Gl env.scope x) (hv : mg x = none ∧ mb x = some (.builtin b))
    (k : Wp w A (spliced (backTo pos (starEach (e :: args) env))) (fun vs s₁ => Wp w A (call (.builtin b) vs) Q s₁) (St c h t)) (he : (e :: args).any isStar = false := by rfl) :
    Wp w A (eval (.Call (.Name x p) (e :: args) [] pos) env) Q (St c h t) := by
  refine ⟨wpAny_Call_Name_kw (ldB F W hx hv ?_).go⟩
  have hp := no_stars (env := env) (pos := pos) he
  rw [List.any_cons, Bool.or_eq_false_iff] at he
  rw [no_star he.1] at k hp ⊢
  exact callWith_builtin hp (evalArgs_plain (k.to fun _ _ k => k.go))
end

def mkLc : List Str → List Value → List Str → Lc
  | p :: ps, v :: vs, os => (p, some v) :: mkLc ps vs os
  | _, _, os => os.map fun o => (o, none)

/-- what is closed of a def: its parameters, its other locals -/
def okFn (st : Stmt) (ps os : List Str) : Bool :=
  ((argsOf st).args.map (·.arg) == ps) && (scopeOf st).kind == .function && !(scopeOf st).isGenerator && !(scopeOf st).isCoroutine && ((scopeOf st).names.all fun x => x.2 != .cell) &&
    decide (ps ++ os).Nodup && (ps ++ os).all fun x => (scopeOf st).names.lookup x == some .local && !(x == ("__debug__" : Str))
theorem mkLc_keys : ∀ (ps : List Str) (vs : List Value) (os : List Str), ps.length = vs.length → (mkLc ps vs os).map (·.1) = ps ++ os
  | [], [], os, _ => by simp [mkLc, Function.comp_def]
  | p :: ps, v :: vs, os, e => by
    simp only [mkLc, List.map_cons, List.cons_append, mkLc_keys ps vs os (Nat.succ.inj e)]
theorem mkLc_is : ∀ (ps : List Str) (vs : List Value) (os : List Str), ps.length = vs.length → (ps ++ os).Nodup → ∀ p ∈ mkLc ps vs os, (ps.zip vs).reverse.lookup p.1 = p.2
  | [], [], os, _, _, p, hp => by
    simp only [mkLc, List.mem_map] at hp
    obtain ⟨o, _, rfl⟩ := hp; rfl
  | q :: ps, v :: vs, os, e, nd, p, hp => by
    rw [List.cons_append, List.nodup_cons] at nd
    simp only [List.zip_cons_cons, List.reverse_cons, List.lookup_append]
    have keys := mkLc_keys ps vs os (Nat.succ.inj e)
    simp only [mkLc, List.mem_cons] at hp
    rcases hp with rfl | hp
    · have : (ps.zip vs).reverse.lookup q = none := by
        rw [List.lookup_eq_none_iff]
        intro a ha
        have : a.1 ∈ ps := (List.of_mem_zip (List.mem_reverse.mp ha)).1
        have : q ≠ a.1 := fun z => nd.1 (List.mem_append_left _ (z ▸ this))
        simpa using this
      simp [this]
    · have ih := mkLc_is ps vs os (Nat.succ.inj e) nd.2 p hp
      have hne : p.1 ≠ q := fun z => nd.1 (by rw [← keys, ← z]; exact List.mem_map_of_mem hp)
      rw [ih]
      have : (p.1 == q) = false := by simpa using hne
      simp [List.lookup_cons, this]

def retOf : Flow → Value
  | .ret v => v
  | _ => .none

section
variable {w : World} {A : Around} {g h : Heap} {c : Shared} {t : Tok} {K : Frag} {mg mb : Str → Option Value}
theorem code_fn {f : Addr} {st : Stmt} {vals : List Value} {n : Nat} {R : Result → Shared → Prop} {S : List Addr} (ps os : List Str) (W : Wg K mg mb g) (fn : Fn K f st) (l : Le g h) (room : Room A (n + 1)) (ok : okFn st ps os = true)
    (hb : ∀ nm q doc pm an cdv ct, bindArgs (fnOf nm q (argsOf st) (bodyOf st) (scopeOf st) .none .none doc pm an cdv ct) ⟨vals, []⟩ = pure (ps.zip vals)) (hl : ps.length = vals.length)
    (k : ∀ env h₁ t₁ A', Room A' n → env.scope = scopeOf st → env.cells = [] → Le h h₁ → (ps.zip vals).length ≤ t₁ → Fm env S g h g [] (mkLc ps vals os) h₁ →
      Wp w A' (execs (bodyOf st) env) (fun fl s' => R (.ok (.ret (retOf fl))) s') (St c h₁ t₁)) :
    codeAny (model prg w) A (.call (.ref f) ⟨vals, []⟩) R (St c h t) := by
  obtain ⟨oc, od, osl, name, qual, doc, pm, an, cdv, ct, ho, hcd⟩ := fn
  simp only [okFn, Bool.and_eq_true, beq_iff_eq, Bool.not_eq_true', List.all_eq_true, decide_eq_true_eq, bne_iff_ne, ne_eq] at ok
  obtain ⟨⟨⟨⟨⟨⟨e1, e2⟩, e3⟩, e4⟩, e5⟩, e6⟩, e7⟩ := ok
  have hloc : ∀ x ∈ ps.zip vals, (scopeOf st).names.lookup x.1 = some .local := fun x hx => (e7 x.1 (List.mem_append_left _ (List.of_mem_zip hx).1)).1
  refine codeAny_call_def (s := St c h t) (fd := fnOf name qual (argsOf st) (bodyOf st) (scopeOf st) .none .none doc pm an cdv ct) (body := bodyOf st) (binds := ps.zip vals) room.lt (l _ _ (W.k _ _ ho)) rfl (W.nolimit.keeps l)
    ((codeRec_of W.k hcd).keeps l) rfl (BindsTo.of_eq (hb ..)) e5 hloc (fun h₁ hn hk => ?_) e4 e3 e2
  refine (k (envOf qual (scopeOf st) h.objs.size f cdv) h₁ _ _ (room.deeper _) rfl rfl hk (Nat.le_add_left _ _) ?_).to (fun fl s' q => ?_)
  · have none_at : ∀ x : Heap, Le x h → x.get? h.objs.size = none := fun x lx => by
      cases q : x.get? h.objs.size with
      | none => rfl
      | some o => exact absurd (Heap.lt_size (lx _ _ q)) (Nat.lt_irrefl _)
    exact {
      gw := ⟨Le.refl g, fun b o e => hk b o (l b o e), fun a o _ e => hk a o e, fun a o e => .inl e, fun a e => by
        cases q : h.get? a with
        | none => rfl
        | some o => rw [hk a o q] at e; cases e⟩
      ns := ⟨_, hn, mkLc_is ps vals os hl e6⟩
      offL := none_at g l
      newL := none_at h (Le.refl h)
      mu := fun p hp => nomatch hp
      nd := by rw [mkLc_keys _ _ _ hl]; exact e6
      ndm := .nil
      kd := fun p hp => by
        have : p.1 ∈ ps ++ os := by rw [← mkLc_keys ps vals os hl]; exact List.mem_map_of_mem hp
        exact ⟨(e7 _ this).1, (e7 _ this).2⟩
      kf := e2
      gl := rfl
      bi := rfl }
  · cases fl <;> exact q
theorem call_fn {f : Addr} {st : Stmt} {vals : List Value} {n : Nat} {Q : Value → Shared → Prop} {S : List Addr} (ps os : List Str) (W : Wg K mg mb g) (fn : Fn K f st) (l : Le g h) (room : Room A (n + 1)) (ok : okFn st ps os = true)
    (hb : ∀ nm q doc pm an cdv ct, bindArgs (fnOf nm q (argsOf st) (bodyOf st) (scopeOf st) .none .none doc pm an cdv ct) ⟨vals, []⟩ = pure (ps.zip vals)) (hl : ps.length = vals.length)
    (k : ∀ env h₁ t₁ A', Room A' n → env.scope = scopeOf st → env.cells = [] → Le h h₁ → (ps.zip vals).length ≤ t₁ → Fm env S g h g [] (mkLc ps vals os) h₁ →
      Wp w A' (execs (bodyOf st) env) (fun fl s' => Q (retOf fl) s') (St c h₁ t₁)) :
    Wp w A (call (.ref f) vals) Q (St c h t) := ⟨wpAny_call (code_fn ps os W fn l room ok hb hl k)⟩
end
end TL

end
section
open PySem PySem.W PyProof.Rows PySem.Calls
set_option maxRecDepth 100000
set_option linter.unusedVariables false
namespace TL
open TL
/-- an object is the list of vs -/
def lst (vs : List Value) (o : Obj) : Prop := ∃ n, o = ({ cls := .type "list", data := .seq vs.toArray n } : Obj)
/-- the same, less of it told -/
def lsx (vs : List Value) (o : Obj) : Prop := o.cls = .type "list" ∧ ∃ n, o.data = .seq vs.toArray n

inductive MPut : Mu → Addr → (Obj → Prop) → Mu → Prop
  | head {a : Addr} {P P' : Obj → Prop} {r : Mu} : MPut ((a, P) :: r) a P' ((a, P') :: r)
  | tail {p : Addr × (Obj → Prop)} {a : Addr} {P' : Obj → Prop} {r r' : Mu} : MPut r a P' r' → MPut (p :: r) a P' (p :: r')
theorem MPut.keys {μ μ' : Mu} {a : Addr} {P : Obj → Prop} (x : MPut μ a P μ') : μ'.map (·.1) = μ.map (·.1) := by
  induction x with
  | head => rfl
  | tail _ ih => simp [ih]
theorem MPut.key {μ μ' : Mu} {a : Addr} {P : Obj → Prop} (x : MPut μ a P μ') : ∃ P₀, (a, P₀) ∈ μ := by
  induction x with
  | head => exact ⟨_, .head _⟩
  | tail _ ih => exact ih.imp fun _ h => .tail _ h
theorem MPut.is {μ μ' : Mu} {a : Addr} {P : Obj → Prop} (x : MPut μ a P μ') (nd : (μ.map (·.1)).Nodup) : ∀ p ∈ μ', (p.1 = a ∧ p.2 = P) ∨ (p.1 ≠ a ∧ p ∈ μ) := by
  induction x with
  | head =>
    intro p hp
    rcases List.mem_cons.mp hp with rfl | hp
    · exact .inl ⟨rfl, rfl⟩
    · refine .inr ⟨fun e => ?_, .tail _ hp⟩
      rw [List.map_cons, List.nodup_cons] at nd
      exact nd.1 (e ▸ List.mem_map_of_mem (f := (·.1)) hp)
  | @tail q a P r r' x ih =>
    rw [List.map_cons, List.nodup_cons] at nd
    intro p hp
    rcases List.mem_cons.mp hp with rfl | hp
    · refine .inr ⟨fun e => ?_, .head _⟩
      obtain ⟨o, ho⟩ := x.key
      exact nd.1 (e ▸ List.mem_map_of_mem (f := (·.1)) ho)
    · rcases ih nd.2 p hp with h | h
      · exact .inl h
      · exact .inr ⟨h.1, .tail _ h.2⟩

section
variable {env : Env} {S : List Addr} {g₀ h₀ g h h' : Heap} {μ μ' : Mu} {lc : Lc} {a : Addr} {P : Obj → Prop} {o o' : Obj}
theorem Fm.ml {vs : List Value} (F : Fm env S g₀ h₀ g μ lc h) (m : (a, lst vs) ∈ μ) : h.IsList a vs.toArray := let ⟨⟨o, x, n, y⟩, _⟩ := F.mu _ m; ⟨o, x, y ▸ rfl, n, y ▸ rfl⟩
theorem Fm.mpl {vs : List Value} (F : Fm env S g₀ h₀ g μ lc h) (m : (a, lst vs) ∈ μ) : h.PlainList a vs.toArray := let ⟨⟨o, x, n, y⟩, _⟩ := F.mu _ m; ⟨n, y ▸ x⟩
theorem Fm.mx {vs : List Value} (F : Fm env S g₀ h₀ g μ lc h) (m : (a, lsx vs) ∈ μ) : h.IsList a vs.toArray := let ⟨⟨o, x, y, z⟩, _⟩ := F.mu _ m; ⟨o, x, y, z⟩
theorem Fm.gl' {vs : Array Value} (F : Fm env S g₀ h₀ g μ lc h) (m : g.IsList a vs) : h.IsList a vs := let ⟨o, x, y⟩ := m; ⟨o, F.gw.sub _ _ x, y⟩
theorem Fm.upd (F : Fm env S g₀ h₀ g μ lc h) (p : MPut μ a P μ') (hs : Heap.SameBut a h h') (ho : h'.get? a = some o') (hp : P o') : Fm env S g₀ h₀ g μ' lc h' := by
  obtain ⟨P₀, hm⟩ := p.key
  obtain ⟨⟨o₀, q1, q2⟩, q3, q4, q5⟩ := F.mu _ hm
  refine { F with gw := ⟨F.gw.le, fun b o e => (hs.2 b fun z => ?_).trans (F.gw.sub b o e), fun b o n e => (hs.2 b fun z => ?_).trans (F.gw.ext b o n e), F.gw.fr, fun b e => ?_⟩, ns := ?_, mu := fun q hq => ?_, ndm := ?_ }
  · rw [z, q3] at e; cases e
  · rw [z] at n e
    rcases q5 with q5 | q5
    · exact n q5
    · rw [q5] at e; cases e
  · by_cases z : b = a
    · rw [z, ho] at e; cases e
    · exact F.gw.live b ((hs.2 b z) ▸ e)
  · obtain ⟨m, hn, hl⟩ := F.ns
    exact ⟨m, hn.sameBut hs (Ne.symm q4), hl⟩
  · rcases p.is F.ndm q hq with ⟨e1, e2⟩ | ⟨e1, e2⟩
    · rw [e1, e2]; exact ⟨⟨o', ho, hp⟩, q3, q4, q5⟩
    · obtain ⟨⟨o₁, x, y⟩, z⟩ := F.mu q e2
      exact ⟨⟨o₁, (hs.2 _ e1).trans x, y⟩, z⟩
  · rw [p.keys]; exact F.ndm

theorem Fm.none_new (F : Fm env S g₀ h₀ g μ lc h) {n : Addr} (e : h.get? n = none) : g.get? n = none ∧ n ≠ env.locals ∧ h₀.get? n = none ∧ ∀ p ∈ μ, p.1 ≠ n := by
  refine ⟨?_, ?_, F.gw.live n e, fun p hp z => ?_⟩
  · cases q : g.get? n with
    | none => rfl
    | some o => rw [F.gw.sub _ _ q] at e; cases e
  · rintro rfl
    obtain ⟨m, ⟨o, es, ep, ho, _⟩, _⟩ := F.ns
    rw [ho] at e; cases e
  · obtain ⟨⟨o, x, _⟩, _⟩ := F.mu p hp
    rw [z, e] at x; cases x
theorem none_size (h : Heap) : h.get? h.objs.size = none := by
  cases q : h.get? h.objs.size with
  | none => rfl
  | some o => exact absurd (Heap.lt_size q) (Nat.lt_irrefl _)
theorem push_live {o : Obj} (ho : o.isFreed = false) {b : Addr} (e : (h.push o).get? b = none) : h.get? b = none := by
  cases q : h.get? b with
  | none => rfl
  | some o' => rw [Heap.get?_push_of_some o q] at e; cases e

/-- the heap grows, nothing old is touched -/
theorem Fm.ext (F : Fm env S g₀ h₀ g μ lc h) (x : Le h h') : Fm env S g₀ h₀ g μ lc h' := by
  refine { F with gw := ⟨F.gw.le, F.gw.sub.trans x, fun b o n e => x _ _ (F.gw.ext b o n e), F.gw.fr, fun b e => F.gw.live b ?_⟩, ns := ?_, mu := fun q hq => ?_ }
  · cases q : h.get? b with
    | none => rfl
    | some o => rw [x _ _ q] at e; cases e
  · obtain ⟨m, hn, hl⟩ := F.ns
    exact ⟨m, hn.keeps x, hl⟩
  · obtain ⟨⟨o, x₁, y⟩, z⟩ := F.mu q hq
    exact ⟨⟨o, x _ _ x₁, y⟩, z⟩

/-- a new object that may turn -/
theorem Fm.push (F : Fm env S g₀ h₀ g μ lc h) (hf : o.isFreed = false) (hp : P o) : Fm env S g₀ h₀ g ((h.objs.size, P) :: μ) lc (h.push o) := by
  obtain ⟨n1, n2, n3, n4⟩ := F.none_new (none_size h)
  have F' := F.ext (h' := h.push o) (fun b o' e => Heap.get?_push_of_some o e)
  refine { F' with mu := fun q hq => ?_, ndm := ?_ }
  · rcases List.mem_cons.mp hq with rfl | hq
    · exact ⟨⟨o, Heap.get?_push_size _ hf, hp⟩, n1, n2, .inr n3⟩
    · exact F'.mu q hq
  · rw [List.map_cons, List.nodup_cons]
    refine ⟨fun z => ?_, F.ndm⟩
    obtain ⟨p, hp, e⟩ := List.mem_map.mp z
    exact n4 p hp e

/-- what is in the heap, new and not to turn, is known -/
theorem Fm.know (F : Fm env S g₀ h₀ g μ lc h) (ho : h.get? a = some o) (h1 : h₀.get? a = none) (h2 : a ≠ env.locals) (h3 : ∀ p ∈ μ, p.1 ≠ a) (h4 : ∀ o', g.get? a = some o' → o' = o) : Fm env S g₀ h₀ (put g a o) μ lc h ∧ Le g (put g a o) ∧ (put g a o).get? a = some o := by
  have hf : o.isFreed = false := (Heap.get?_some_iff.mp ho).2
  have l : Le g (put g a o) := fun b o' e => by
    by_cases q : b = a
    · rw [q] at e ⊢; rw [h4 _ e]; exact put_self g a hf
    · rw [put_ne g o q]; exact e
  refine ⟨{ F with gw := ⟨F.gw.le.trans l, fun b o' e => ?_, F.gw.ext, fun b o' e => ?_, F.gw.live⟩, offL := ?_, mu := fun q hq => ?_ }, l, put_self g a hf⟩
  · by_cases q : b = a
    · rw [q, put_self g a hf] at e; cases e; rw [q]; exact ho
    · rw [put_ne g o q] at e; exact F.gw.sub _ _ e
  · by_cases q : b = a
    · rw [q]; exact .inr h1
    · rw [put_ne g o q] at e; exact F.gw.fr _ _ e
  · rw [put_ne g o (Ne.symm h2)]; exact F.offL
  · obtain ⟨x, y, z⟩ := F.mu q hq
    exact ⟨x, by rw [put_ne g o (h3 q hq)]; exact y, z⟩

/-- a new object, known at once -/
theorem Fm.made (F : Fm env S g₀ h₀ g μ lc h) (hf : o.isFreed = false) : ∃ g', Fm env S g₀ h₀ g' μ lc (h.push o) ∧ Le g g' ∧ g'.get? h.objs.size = some o := by
  obtain ⟨n1, n2, n3, n4⟩ := F.none_new (none_size h)
  have F' := F.ext (h' := h.push o) (fun b o' e => Heap.get?_push_of_some o e)
  obtain ⟨x, y, z⟩ := F'.know (Heap.get?_push_size _ hf) n3 n2 n4 (fun o' e => by rw [n1] at e; cases e)
  exact ⟨_, x, y, z⟩

theorem Fm.drop1 {p : Addr × (Obj → Prop)} (F : Fm env S g₀ h₀ g (p :: μ) lc h) : Fm env S g₀ h₀ g μ lc h :=
  { F with mu := fun q hq => F.mu q (.tail _ hq), ndm := (List.nodup_cons.mp F.ndm).2 }
/-- what may turn is laid to what is known -/
theorem Fm.frz (F : Fm env S g₀ h₀ g ((a, P) :: μ) lc h) (hn : h₀.get? a = none) : ∃ g' o, Fm env S g₀ h₀ g' μ lc h ∧ Le g g' ∧ g'.get? a = some o ∧ P o := by
  obtain ⟨⟨o, x, y⟩, z1, z2, z3⟩ := F.mu _ (.head _)
  have nd := List.nodup_cons.mp F.ndm
  obtain ⟨u, v, w⟩ := F.drop1.know x hn z2 (fun p hp e => nd.1 (List.mem_map.mpr ⟨p, hp, e⟩)) (fun o' e => by rw [z1] at e; cases e)
  exact ⟨_, o, u, v, w, y⟩

/-- behind a call that writes to nothing of ours -/
theorem Fm.call {g' : Heap} (F : Fm env S g₀ h₀ g μ lc h) (G : Gw [] g h g' h') : Fm env S g₀ h₀ g' μ lc h' := by
  have F' := F.ext G.all
  refine { F' with gw := ⟨F.gw.le.trans G.le, G.sub, F'.gw.ext, fun b o e => ?_, F'.gw.live⟩, offL := ?_, mu := fun q hq => ?_ }
  · rcases G.fr b o e with q | q
    · exact F.gw.fr _ _ q
    · exact .inr (F.gw.live b q)
  · cases q : g'.get? env.locals with
    | none => rfl
    | some o =>
      rcases G.fr _ _ q with z | z
      · rw [F.offL] at z; cases z
      · obtain ⟨m, ⟨o, es, ep, ho, _⟩, _⟩ := F.ns
        rw [ho] at z; cases z
  · obtain ⟨⟨o, x, y⟩, z1, z2⟩ := F.mu q hq
    refine ⟨⟨o, G.all _ _ x, y⟩, ?_, z2⟩
    cases w : g'.get? q.1 with
    | none => rfl
    | some o' =>
      rcases G.fr _ _ w with z | z
      · rw [z1] at z; cases z
      · rw [x] at z; cases z
/-- behind a call that writes to one thing of ours -/
theorem Fm.callM {g' : Heap} (F : Fm env S g₀ h₀ g μ lc h) (G : Gw [a] g h g' h') (p : MPut μ a P μ') (ho : h'.get? a = some o') (hp : P o') : Fm env S g₀ h₀ g' μ' lc h' := by
  obtain ⟨P₀, hm⟩ := p.key
  obtain ⟨⟨o₀, q1, q2⟩, q3, q4, q5⟩ := F.mu _ hm
  have old : ∀ b o, b ≠ a → h.get? b = some o → h'.get? b = some o := fun b o n e => G.ext b o (fun m => n (by simpa using m)) e
  have gn : ∀ b, g.get? b = none → (∃ o, h.get? b = some o) → g'.get? b = none := fun b e1 e2 => by
    cases w : g'.get? b with
    | none => rfl
    | some o' =>
      obtain ⟨o, e2⟩ := e2
      rcases G.fr _ _ w with z | z
      · rw [e1] at z; cases z
      · rw [e2] at z; cases z
  obtain ⟨m, ⟨oL, es, ep, hL, hr⟩, hl⟩ := F.ns
  refine { F with gw := ⟨F.gw.le.trans G.le, G.sub, fun b o n e => ?_, fun b o e => ?_, fun b e => F.gw.live b (G.live b e)⟩, ns := ⟨m, ⟨oL, es, ep, old _ _ (Ne.symm q4) hL, hr⟩, hl⟩, offL := gn _ F.offL ⟨_, hL⟩, mu := fun q hq => ?_, ndm := ?_ }
  · by_cases z : b = a
    · rw [z] at n e
      rcases q5 with q5 | q5
      · exact absurd q5 n
      · rw [q5] at e; cases e
    · exact old _ _ z (F.gw.ext b o n e)
  · rcases G.fr b o e with q | q
    · exact F.gw.fr _ _ q
    · exact .inr (F.gw.live b q)
  · rcases p.is F.ndm q hq with ⟨e1, e2⟩ | ⟨e1, e2⟩
    · rw [e1, e2]; exact ⟨⟨o', ho, hp⟩, gn _ q3 ⟨_, q1⟩, q4, q5⟩
    · obtain ⟨⟨o₁, x, y⟩, z1, z2⟩ := F.mu q e2
      exact ⟨⟨o₁, old _ _ e1 x, y⟩, gn _ z1 ⟨_, x⟩, z2⟩
  · rw [p.keys]; exact F.ndm
/-- what S writes to at the entry is a thing of ours -/
theorem Fm.own (F : Fm env S g₀ h₀ g [] lc h) (ho : h.get? a = some o) (hp : P o) (hS : a ∈ S) (hg : g.get? a = none) (hL : a ≠ env.locals) : Fm env S g₀ h₀ g [(a, P)] lc h :=
  { F with mu := fun q hq => by rw [List.mem_singleton.mp hq]; exact ⟨⟨o, ho, hp⟩, hg, hL, .inl hS⟩, ndm := by simp }
end

section
variable {w : World} {A : Around} {env : Env} {S : List Addr} {g₀ h₀ g h : Heap} {μ μ' : Mu} {lc lc' : Lc} {c : Shared} {t i j : Tok} {x : Str} {v : Value} {a b : Int} {pos : Pos} {Q : Value → Shared → Prop}
theorem oAdd (k : ∀ u t', Q (.int (a + b) u) (St c h t')) : Wp w A (binaryOp .Add (.int a i) (.int b j)) Q (St c h t) := ⟨add_int (s := St c h t) (k _ _)⟩
theorem oSub (k : ∀ u t', Q (.int (a - b) u) (St c h t')) : Wp w A (binaryOp .Sub (.int a i) (.int b j)) Q (St c h t) := ⟨sub_int (s := St c h t) (k _ _)⟩
theorem oMul (hm : IntMulOk a b) (k : ∀ u t', Q (.int (a * b) u) (St c h t')) : Wp w A (binaryOp .Mult (.int a i) (.int b j)) Q (St c h t) := ⟨mul_int (s := St c h t) (k _ _) hm⟩
theorem oMod (hb : b ≠ 0) (k : ∀ u t', Q (.int (a.fmod b) u) (St c h t')) : Wp w A (binaryOp .Mod (.int a i) (.int b j)) Q (St c h t) := ⟨mod_int (s := St c h t) hb (k _ _)⟩
theorem oDiv (hb : b ≠ 0) (hs : b.natAbs < 1073741824) (k : ∀ u t', Q (.int (a.fdiv b) u) (St c h t')) : Wp w A (binaryOp .FloorDiv (.int a i) (.int b j)) Q (St c h t) :=
  ⟨floordiv_int (s := St c h t) hb (k _ _) (.inl (PyProof.noPylong_small hs))⟩
theorem oCat {x y : Str} (hz : x.length + y.length ≤ sizeLine) (k : ∀ u t', Q (.str (x ++ y) u) (St c h t')) : Wp w A (binaryOp .Add (.str x i) (.str y j)) Q (St c h t) := ⟨add_str (s := St c h t) (fun u t' => k u t') hz⟩

/-- an item -/
theorem eSub {value slice : Expr} {s : Shared} (k : Wp w A (eval value env) (fun o s₁ => Wp w A (eval slice env) (fun i s₂ => Wp w A (subscriptTail value slice o i) Q s₂) s₁) s) :
    Wp w A (eval (.Subscript value slice pos) env) Q s := ⟨Subscript_ (k.to fun _ _ k => k.to fun _ _ k => k.go)⟩
def noSl : Expr → Bool
  | .Slice .. => false
  | _ => true
theorem sub_noSl {slice : Expr} (hs : noSl slice = true) (o i : Value) : subscripted slice false o i = operate [o, i] (getItem o i) := by cases slice <;> first | rfl | cases hs
theorem tItem {value slice : Expr} {l : Addr} {vs : List Value} {k : Int} {u : Tok} {s : Shared} (hl : s.heap.IsList l vs.toArray) (h0 : 0 ≤ k) (hf : k < 2 ^ 63) (hx : vs[k.toNat]? = some v) (hs : noSl slice = true) (q : Q v s) :
    Wp w A (subscriptTail value slice (.ref l) (.int k u)) Q s :=
  ⟨tail_any (ops := [.ref l, .int k u]) hl.typeIs slot_list_getitem.lookup (wpAny_getItem_list hl h0 hf (by simpa using hx) q) (sub_noSl hs _ _)⟩
theorem xSetItem {o i value : Expr} {rest : List Stmt} {p : Pos} {s : Shared} {Q : Flow → Shared → Prop}
    (k : Wp w A (eval value env) (fun v s₁ => Wp w A (eval o env) (fun ov s₂ => Wp w A (eval i env) (fun iv s₃ => Wp w A (setItem ov iv v) (fun _ s₄ => Wp w A (execs rest env) Q s₄) s₃) s₂) s₁) s)
    (hs : isComp value = false := by rfl) : Wp w A (execs (.Assign [.Subscript o i p] value pos :: rest) env) Q s :=
  ⟨wpAny_execs_cons (wpAny_Assign_Subscript (k.to fun _ _ k => k.to fun _ _ k => k.to fun _ _ k => k.to fun _ _ k => k.go) (no_swap hs))⟩
theorem setM {l : Addr} {vs : List Value} {k : Int} {u : Tok} {Q : Unit → Shared → Prop} (F : Fm env S g₀ h₀ g μ lc h) (m : (l, lsx vs) ∈ μ) (p : MPut μ l (lsx (vs.set k.toNat v)) μ') (h0 : 0 ≤ k) (hf : k < 2 ^ 63) (hn : k < vs.length)
    (q : ∀ h', Fm env S g₀ h₀ g μ' lc h' → Q () (St c h' t)) : Wp w A (setItem (.ref l) (.int k u) v) Q (St c h t) := by
  refine ⟨wpAny_setItem_list (s := St c h t) (F.mx m) h0 hf (by simpa using hn) fun h' hl hs => q h' ?_⟩
  obtain ⟨o, x, y, n, z⟩ := hl
  exact F.upd p hs x ⟨y, n, by rw [z]; simp⟩
theorem cLen {l : Addr} {vs : List Value} (hl : h.IsList l vs.toArray) (hz : (vs.length : Int) < 2 ^ 63) (k : ∀ u t', Q (.int vs.length u) (St c h t')) : Wp w A (call (.builtin "len") [.ref l]) Q (St c h t) :=
  ⟨call_len_list (s := St c h t) hl (by simpa using hz) (by simpa using k _ _)⟩
end
end TL

end
section
open PySem PySem.W PyProof.Rows PySem.Calls
set_option maxRecDepth 100000
set_option linter.unusedVariables false
set_option pp.deepTerms false
set_option pp.deepTerms.threshold 4
set_option pp.maxSteps 2000
namespace TL
open TL
/-- where the text's defs and classes lie -/
structure Ad where
  (child tape take node text built parts read written again agree places put lowest edited : Addr)
  (tree prod nont : Addr)
/-- what the top binds -/
structure Wk (K : Frag) (mg mb : Str → Option Value) (d : Ad) : Prop where
  child : mg "_child_names" = some (.ref d.child) ∧ Fn K d.child (stI 6)
  tape : mg "_law_tape" = some (.ref d.tape) ∧ Fn K d.tape (stI 8)
  take : mg "_law_take" = some (.ref d.take) ∧ Fn K d.take (stI 9)
  node : mg "_law_node" = some (.ref d.node) ∧ Fn K d.node (stI 10)
  text : mg "_law_text" = some (.ref d.text) ∧ Fn K d.text (stI 11)
  built : mg "_law_built" = some (.ref d.built) ∧ Fn K d.built (stI 12)
  parts : mg "_law_parts" = some (.ref d.parts) ∧ Fn K d.parts (stI 13)
  read : mg "_law_read" = some (.ref d.read) ∧ Fn K d.read (stI 14)
  written : mg "_law_written" = some (.ref d.written) ∧ Fn K d.written (stI 15)
  again : mg "_law_again" = some (.ref d.again) ∧ Fn K d.again (stI 16)
  agree : mg "_law_agree" = some (.ref d.agree) ∧ Fn K d.agree (stI 17)
  places : mg "_law_places" = some (.ref d.places) ∧ Fn K d.places (stI 18)
  put : mg "_law_put" = some (.ref d.put) ∧ Fn K d.put (stI 19)
  lowest : mg "_law_lowest" = some (.ref d.lowest) ∧ Fn K d.lowest (stI 20)
  edited : mg "_law_edited" = some (.ref d.edited) ∧ Fn K d.edited (stI 21)
  treeC : mg "Tree" = some (.ref d.tree)
  prodC : mg "Production" = some (.ref d.prod)
  nontC : mg "Nonterminal" = some (.ref d.nont)
  max : mg "max" = none ∧ mb "max" = some (.builtin "max")
  abs : mg "abs" = none ∧ mb "abs" = some (.builtin "abs")
  list : mg "list" = none ∧ mb "list" = some (.type "list")
  int : mg "int" = none ∧ mb "int" = some (.type "int")
  slice : mg "slice" = none ∧ mb "slice" = some (.type "slice")
  tuple : mg "tuple" = none ∧ mb "tuple" = some (.type "tuple")
  len : mg "len" = none ∧ mb "len" = some (.builtin "len")
  range : mg "range" = none ∧ mb "range" = some (.type "range")
  isi : mg "isinstance" = none ∧ mb "isinstance" = some (.builtin "isinstance")
  str : mg "str" = none ∧ mb "str" = some (.type "str")

theorem intsAre_get : ∀ {vs : List Value} {ns : List Int} (_ : IntsAre vs ns) (k : Nat), k < ns.length → ∃ n u, vs[k]? = some (.int n u) ∧ n ∈ ns := by
  intro vs ns h
  induction h with
  | nil => intro k hk; exact absurd hk (Nat.not_lt_zero _)
  | cons =>
    rename_i ih
    intro k hk
    cases k with
    | zero => exact ⟨_, _, rfl, .head _⟩
    | succ k =>
      obtain ⟨n, u, e, m⟩ := ih k (by simpa using hk)
      exact ⟨n, u, by simpa using e, .tail _ m⟩

/-- the tape's list; its cells are known -/
def tapeO (g : Heap) (o : Obj) : Prop := ∃ at_ u cl vs ns, 0 ≤ at_ ∧ lsx [.ref cl, .int at_ u] o ∧ g.IsList cl vs.toArray ∧ IntsAre vs ns ∧ 0 < ns.length ∧ ns.length ≤ 27
theorem tapeO.mono {g g' : Heap} {o : Obj} (x : tapeO g o) (l : Le g g') : tapeO g' o :=
  let ⟨at_, u, cl, vs, ns, a, b, ⟨ol, d1, d2⟩, e⟩ := x
  ⟨at_, u, cl, vs, ns, a, b, ⟨ol, l _ _ d1, d2⟩, e⟩

local macro_rules | `(tactic| walk_at "at") => `(tactic| repeat (first | exact At.head | apply At.tail))
local macro_rules | `(tactic| walk_at "put") => `(tactic| repeat (first | exact Put.head | apply Put.tail))
section
variable {w : World} {A : Around} {g h : Heap} {c : Shared} {t : Tok} {Q : Value → Shared → Prop} {K : Frag} {mg mb : Str → Option Value} {d : Ad}

def psTake : List Str := ["tape", "most"]
def osTake : List Str := ["at", "cells"]
theorem okTake : okFn (stI 9) psTake osTake = true := by decide +kernel
theorem glTake : Gl (scopeOf (stI 9)) (Str.ofString "len") := by decide +kernel
theorem bits31 : Builtin.Int.intBits 31 ≤ 64 := by decide +kernel

theorem take_spec (X : Wk K mg mb d) (W : Wg K mg mb g) {tp : Addr} {most : Int} {u : Tok} {otp : Obj} (hno : g.get? tp = none) (o1 : h.get? tp = some otp) (T : tapeO g otp) (l : Le g h) (hm : 0 < most) (room : Room A 2)
    (k : ∀ h' t' r v o', Gw [tp] g h g h' → h'.get? tp = some o' → tapeO g o' → 0 ≤ r → r < most → Q (.int r v) (St c h' t')) :
    Wp w A (call (.ref d.take) [.ref tp, .int most u]) Q (St c h t) := by
  obtain ⟨at_, ua, cl, vs, ns, hp, htp, hcl, hin, hl0, hl1⟩ := T
  refine call_fn psTake osTake (S := [tp]) W X.take.2 l room okTake (fun _ _ _ _ _ _ _ => rfl) rfl fun env h₁ t₁ A' R esc ecl hk ht F => ?_
  have F := F.own (P := lsx [.ref cl, .int at_ ua]) (hk _ _ o1) htp (.head _) hno (fun q => by rw [q, F.newL] at o1; cases o1)
  dsimp only [psTake, osTake, mkLc, List.map] at F
  have ev : vs.length = ns.length := hin.length
  refine xAsg (eSub (ld F (by walk_at "at") (eInt fun t₂ => ?_)))
  refine tItem (F.mx (.head _)) (by decide) (by decide) rfl rfl ?_
  refine stL F (by walk_at "put") fun h₂ t₃ F => ?_
  refine xSetItem (eBin (ld F (by walk_at "at") (eInt fun t₄ => ?_)))
  refine oAdd fun u₁ t₅ => ?_
  refine ld F (by walk_at "at") (eInt fun t₆ => ?_)
  refine setM F (.head _) .head (by decide) (by decide) (Int.ofNat_lt.mpr (Nat.lt_succ_self 1)) fun h₃ F => ?_
  refine xAsg (eSub (ld F (by walk_at "at") (eInt fun t₂ => ?_)))
  refine tItem (F.mx (.head _)) (by decide) (by decide) rfl rfl ?_
  refine stL F (by walk_at "put") fun h₄ t₇ F => ?_
  refine xRet (eBin (eBin (eSub (ld F (by walk_at "at") (eBin (ld F (by walk_at "at") ?_))))))
  refine eCallB F W (esc ▸ glTake) X.len (sCons (ld F (by walk_at "at") (sNil ?_)))
  refine cLen (F.gl' hcl) (by omega) fun u₂ t₈ => ?_
  have hz : (vs.length : Int) ≠ 0 := by omega
  refine oMod hz fun u₃ t₉ => ?_
  obtain ⟨a0, a1, a2⟩ : 0 ≤ at_.fmod vs.length ∧ at_.fmod vs.length < vs.length ∧ True := ⟨Int.fmod_nonneg_of_pos _ (by omega), Int.fmod_lt_of_pos _ (by omega), trivial⟩
  obtain ⟨n, un, e1, e2⟩ := intsAre_get hin (at_.fmod vs.length).toNat (by omega)
  refine tItem (F.gl' hcl) a0 (by omega) e1 rfl ?_
  refine eBin (eInt fun t₁₀ => eBin (ld F (by walk_at "at") ?_))
  refine eCallB F W (esc ▸ glTake) X.len (sCons (ld F (by walk_at "at") (sNil ?_)))
  refine cLen (F.gl' hcl) (by omega) fun u₂ t₈ => ?_
  refine oDiv hz (by omega) fun u₄ t₁₁ => ?_
  refine oMul (.of_left bits31) fun u₅ t₁₂ => ?_
  refine oAdd fun u₆ t₁₃ => ?_
  refine ld F (by walk_at "at") ?_
  refine oMod (by omega) fun u₇ t₁₄ => ?_
  obtain ⟨⟨o', p1, p2⟩, _⟩ := F.mu _ (.head _)
  exact k _ _ _ _ o' F.gw p1 ⟨_, _, cl, vs, ns, by omega, p2, hcl, hin, hl0, hl1⟩ (Int.fmod_nonneg_of_pos _ hm) (Int.fmod_lt_of_pos _ hm)
end
end TL

end
section
open PySem PySem.W PyProof.Rows PySem.Calls
set_option maxRecDepth 100000
set_option linter.unusedVariables false
namespace TL
open TL
/-- I walks n things of V over what g knows; P i: the walker's object ahead of thing i -/
structure Itr (w : World) (I : Addr) (P : Nat → Obj → Prop) (n : Nat) (V : Nat → Value → Prop) (g : Heap) : Prop where
  item : ∀ (A : Around) (c : Shared) (h : Heap) (t : Tok) (i : Nat) (Q : Option Value → Shared → Prop), A.handled = none → i < n → Le g h → (∃ o, h.get? I = some o ∧ P i o) →
    (∀ v h' t' o', V i v → Heap.SameBut I h h' → h'.get? I = some o' → P (i + 1) o' → Q (some v) (St c h' t')) → Wp w A (pyNext (.ref I)) Q (St c h t)
  done : ∀ (A : Around) (c : Shared) (h : Heap) (t : Tok) (Q : Option Value → Shared → Prop), A.handled = none → Le g h → (∃ o, h.get? I = some o ∧ P n o) →
    (∀ h' t', Heap.ExtBut I h h' → Q none (St c h' t')) → Wp w A (pyNext (.ref I)) Q (St c h t)
theorem Itr.mono {w : World} {I : Addr} {P : Nat → Obj → Prop} {n : Nat} {V : Nat → Value → Prop} {g g' : Heap} (x : Itr w I P n V g) (l : Le g g') : Itr w I P n V g' :=
  ⟨fun A c h t i Q a b d => x.item A c h t i Q a b (l.trans d), fun A c h t Q a d => x.done A c h t Q a (l.trans d)⟩

def litr (l : Addr) (i : Nat) (o : Obj) : Prop := o.cls = .type "list_iterator" ∧ o.data = .fields #[.ref l, .int i 0]
def titr (l : Addr) (i : Nat) (o : Obj) : Prop := o.cls = .type "tuple_iterator" ∧ o.data = .fields #[.ref l, .int i 0]
/-- an object with a list's items: a list, or one of a list's subclass -/
def Sq (h : Heap) (l : Addr) (vs : List Value) : Prop := ∃ o n, h.get? l = some o ∧ o.data = .seq vs.toArray n
theorem Sq.mono {g h : Heap} {l : Addr} {vs : List Value} (x : Sq g l vs) (y : Le g h) : Sq h l vs := let ⟨o, n, a, b⟩ := x; ⟨o, n, y _ _ a, b⟩
theorem Sq.of_list {h : Heap} {l : Addr} {vs : List Value} (x : h.IsList l vs.toArray) : Sq h l vs := let ⟨o, a, _, n, b⟩ := x; ⟨o, n, a, b⟩

theorem itrSq {w : World} {I l : Addr} {vs : List Value} {g : Heap} (hl : Sq g l vs) : Itr w I (litr l) vs.length (fun i v => vs[i]? = some v) g where
  item := by
    intro A c h t i Q hh hi lg ⟨o, ho, hc, hd⟩ k
    obtain ⟨ol, nl, hol, hdl⟩ := hl
    have hol := lg _ _ hol
    have hT : (St c h t).TypeIs (.ref I) "list_iterator" := ⟨o, ho, hc⟩
    refine ⟨?_⟩
    unfold pyNext
    refine wpAny_bind (wpAny_attempt (wpAny_callSpecial?_slot (name := Str.ofString "__next__") hT slot_listiter_next (wpAny_call_entry slot_listiter_next hT entry_listiter_next ?_ (args_listiter_next _))))
    show wpAny _ _ (field (.ref I) 0 >>= _) _ _ _
    refine wpAny_bind (wpAny_field ho hd (x := .ref l) rfl ?_)
    show wpAny _ _ (if (Value.ref l == Value.none) = true then _ else _) _ _ _
    rw [if_neg (show ¬ ((Value.ref l == Value.none) = true) from Bool.false_ne_true)]
    show wpAny _ _ (field (.ref I) 1 >>= _) _ _ _
    refine wpAny_bind (wpAny_field ho hd (x := .int i 0) rfl ?_)
    show wpAny _ _ (seqItems? (.ref l) >>= _) _ _ _
    refine wpAny_bind (wpAny_seqItems hol hdl ?_)
    have hx : vs.toArray[i]? = some vs[i] := by simp [hi]
    simp only [Int.toNat_natCast, hx]
    refine wpAny_bind (wpAny_setField ho hd (by simp) (wpAny_pure ⟨_, rfl, wpAny_pure (k _ _ _ _ (by simp [hi]) (Heap.SameBut.update ..) (Heap.get?_update_self _ ho (Obj.isFreed_of_fields (Obj.data_mapFields hd _))) ?_)⟩))
    exact ⟨(Obj.cls_mapFields ..).trans hc, by rw [Obj.data_mapFields hd]; simp [rawInt]⟩
  done := by
    intro A c h t Q hh lg ⟨o, ho, hc, hd⟩ k
    obtain ⟨ol, nl, hol, hdl⟩ := hl
    have hol := lg _ _ hol
    have hT : (St c h t).TypeIs (.ref I) "list_iterator" := ⟨o, ho, hc⟩
    refine ⟨?_⟩
    unfold pyNext
    refine wpAny_bind (wpAny_attempt (wpAny_callSpecial?_slot (name := Str.ofString "__next__") hT slot_listiter_next (wpAny_call_entry slot_listiter_next hT entry_listiter_next ?_ (args_listiter_next _))))
    show wpAny _ _ (field (.ref I) 0 >>= _) _ _ _
    refine wpAny_bind (wpAny_field ho hd (x := .ref l) rfl ?_)
    show wpAny _ _ (if (Value.ref l == Value.none) = true then _ else _) _ _ _
    rw [if_neg (show ¬ ((Value.ref l == Value.none) = true) from Bool.false_ne_true)]
    show wpAny _ _ (field (.ref I) 1 >>= _) _ _ _
    refine wpAny_bind (wpAny_field ho hd (x := .int vs.length 0) rfl ?_)
    show wpAny _ _ (seqItems? (.ref l) >>= _) _ _ _
    refine wpAny_bind (wpAny_seqItems hol hdl ?_)
    have hx : vs.toArray[vs.length]? = none := by simp
    simp only [Int.toNat_natCast, hx]
    refine wpAny_bind (wpAny_rule (wpAny_bind (wpAny_setField ho hd (by simp) ?_)))
    show wpAny _ _ (newExc (.type "StopIteration") [] >>= _) _ _ _
    refine wpAny_bind ?_
    simp only [newExc, newTuple]
    refine wpAny_bind (wpAny_newObj_type ?_ (by size_fits))
    refine wpAny_bind (m := firstArgMember _ _) (wpAny_of_eq (a := Value.none) (by first | rfl | (simp only [firstArgMember]; rfl)) ?_)
    refine wpAny_newObj_type ?_ (by size_fits)
    simp only [raiseNew]
    refine wpAny_bind (wpAny_handled ?_)
    rw [show A.in1.handled = none from hh]
    refine wpAny_bind (wpAny_pure (wpAny_throw ?_))
    refine wpAny_bind (wpAny_isInstance (T := "StopIteration") (b := true) ⟨_, Heap.get?_push_size _ rfl, rfl⟩ isSubtype_stop ?_)
    exact wpAny_pure (k _ _ (((Heap.SameBut.update ..).extBut.push _).push _))

theorem itrTup {w : World} {I l : Addr} {vs : List Value} {g : Heap} (hl : g.IsTuple l vs.toArray) : Itr w I (titr l) vs.length (fun i v => vs[i]? = some v) g where
  item := by
    intro A c h t i Q hh hi lg ⟨o, ho, hc, hd⟩ k
    obtain ⟨ol, hol, hcl, nl, hdl⟩ := hl
    refine ⟨wpAny_pyNext_tuple_item (s := St c h t) ⟨o, ho, hc, hd⟩ ⟨ol, lg _ _ hol, hcl, nl, hdl⟩ (x := vs[i]) (by simp [hi]) fun h' hit hs => ?_⟩
    obtain ⟨o', ho', hc', hd'⟩ := hit
    exact k _ _ _ _ (by simp [hi]) hs ho' ⟨hc', hd'⟩
  done := by
    intro A c h t Q hh lg ⟨o, ho, hc, hd⟩ k
    obtain ⟨ol, hol, hcl, nl, hdl⟩ := hl
    exact ⟨wpAny_pyNext_tuple_end (s := St c h t) hh ⟨o, ho, hc, hd⟩ ⟨ol, lg _ _ hol, hcl, nl, hdl⟩ (by simp) fun h' hs => k _ _ hs⟩

/-- a range's walker: from a by s, n things -/
def ritr (a s : Int) (n i : Nat) (o : Obj) : Prop := o = { cls := .type "range_iterator", dict := none, data := .fields #[rawInt (a + s * i), rawInt ((n : Int) - i), rawInt s], slots := #[] }
theorem itrRange {w : World} {I : Addr} {a s : Int} {n : Nat} {g : Heap} : Itr w I (ritr a s n) n (fun i v => ∃ u, v = .int (a + s * i) u) g where
  item := by
    intro A c h t i Q hh hi lg ⟨o, ho, hd⟩ k
    subst hd
    refine ⟨wpAny_pyNext_range_item (s := St c h t) ho (by omega) fun h' hit hs => ?_⟩
    refine k _ _ _ _ ⟨_, rfl⟩ hs hit ?_
    show _ = _
    have e1 : a + s * ((i + 1 : Nat) : Int) = a + s * i + s := by rw [Int.natCast_add, Int.mul_add]; omega
    have e2 : (n : Int) - ((i + 1 : Nat) : Int) = n - i - 1 := by omega
    rw [e1, e2]
  done := by
    intro A c h t Q hh lg ⟨o, ho, hd⟩ k
    subst hd
    exact ⟨wpAny_pyNext_range_end (s := St c h t) hh ho (by omega) fun h' hs => k _ _ hs⟩

section
variable {env : Env} {S : List Addr} {g₀ h₀ g h h' : Heap} {μ : Mu} {lc : Lc} {I : Addr} {P : Obj → Prop}
theorem Fm.walked (F : Fm env S g₀ h₀ g ((I, P) :: μ) lc h) (hI : h₀.get? I = none) (x : Heap.ExtBut I h h') : Fm env S g₀ h₀ g μ lc h' := by
  obtain ⟨⟨o, q1, q2⟩, q3, q4, _⟩ := F.mu _ (.head _)
  have nd := List.nodup_cons.mp F.ndm
  have D := F.drop1
  refine { D with gw := ⟨F.gw.le, fun b o e => x b o (fun z => ?_) (F.gw.sub b o e), fun b o n e => x b o (fun z => ?_) (F.gw.ext b o n e), F.gw.fr, fun b e => ?_⟩, ns := ?_, mu := fun q hq => ?_ }
  · rw [z, q3] at e; cases e
  · rw [z, hI] at e; cases e
  · by_cases z : b = I
    · rw [z]; exact hI
    · cases q : h.get? b with
      | none => exact F.gw.live b q
      | some o => rw [x b o z q] at e; cases e
  · obtain ⟨m, hn, hl⟩ := F.ns
    exact ⟨m, hn.extBut x (Ne.symm q4), hl⟩
  · obtain ⟨⟨o₁, x₁, y⟩, z⟩ := D.mu q hq
    exact ⟨⟨o₁, x _ _ (fun e => nd.1 (List.mem_map.mpr ⟨q, hq, e⟩)) x₁, y⟩, z⟩
end

/-- a for loop's turns to come -/
structure FLoop (w : World) (A : Around) (target : Expr) (it : Value) (body : List Stmt) (env : Env) (Q : Flow → Shared → Prop) (s : Shared) : Prop where
  go : ∀ E : Value → Shared → Prop, codeAny (model prg w) A (.forLoop target it body [] env) (fun r s' => match r with | .ok f => Q f s' | .error e => E e s') s
def isSetD : Expr → Bool
  | .Set .. => true
  | _ => false
theorem no_set {e : Expr} {env : Env} (hs : isSetD e = false) (x : Value) : foldedSetIterable e env x = pure x := by cases e <;> first | rfl | cases hs
section
variable {w : World} {A : Around} {env : Env} {S : List Addr} {g₀ h₀ g h : Heap} {μ : Mu} {lc : Lc} {c : Shared} {t : Tok} {x : Str} {pos p : Pos} {rest body : List Stmt} {Q : Flow → Shared → Prop} {s : Shared}
theorem xFor {target iter : Expr} (k : Wp w A (eval iter env) (fun x s₁ => Wp w A (pyIter x) (fun it s₂ => FLoop w A target it body env (thenDo w A rest env Q) s₂) s₁) s) (hs : isSetD iter = false := by rfl) :
    Wp w A (execs (.For target iter body [] pos :: rest) env) Q s :=
  xCons ⟨wpAny_For (k.to fun _ _ k => k.to fun _ _ k => k.go _) (no_set hs)⟩

/-- behind a turn -/
def Turn {σ : Type} (env : Env) (S : List Addr) (g₀ h₀ : Heap) (c : Shared) (I : Addr) (P : Obj → Prop) (μI : σ → Mu) (lcI : σ → Option Value → Lc) (gB : Heap) (Inv : σ → Heap → Prop) (Q : Flow → Shared → Prop) : Flow → Shared → Prop
  | .next, s' | .cont, s' => ∃ a g' h' t' o, s' = St c h' t' ∧ Le gB g' ∧ Fm env S g₀ h₀ g' ((I, P) :: μI a) (lcI a o) h' ∧ Inv a g'
  | .brk, s' => Q .next s'
  | .ret v, s' => Q (.ret v) s'
theorem Turn.next {σ : Type} {I : Addr} {P : Obj → Prop} {μI : σ → Mu} {lcI : σ → Option Value → Lc} {gB g' h' : Heap} {Inv : σ → Heap → Prop} (a : σ) (o : Option Value) {t' : Tok} (l : Le gB g') (F : Fm env S g₀ h₀ g' ((I, P) :: μI a) (lcI a o) h') (i : Inv a g') :
    Turn env S g₀ h₀ c I P μI lcI gB Inv Q .next (St c h' t') := ⟨a, g', h', t', o, rfl, l, F, i⟩

theorem floop {σ : Type} {I : Addr} {P : Nat → Obj → Prop} {n : Nat} {V : Nat → Value → Prop} {μI : σ → Mu} {lcI : σ → Option Value → Lc} (a₀ : σ) (o₀ : Option Value) (Inv : Nat → σ → Heap → Prop)
    (hh : A.handled = none) (F : Fm env S g₀ h₀ g ((I, P 0) :: μI a₀) (lcI a₀ o₀) h) (hI : h₀.get? I = none) (it : Itr w I P n V g) (h0 : Inv 0 a₀ g)
    (hput : ∀ a o v, Put (lcI a o) x v (lcI a (some v)))
    (step : ∀ i v a g' h' t', i < n → V i v → Le g g' → Inv i a g' → Fm env S g₀ h₀ g' ((I, P (i + 1)) :: μI a) (lcI a (some v)) h' →
      Wp w A (execs body env) (Turn env S g₀ h₀ c I (P (i + 1)) μI lcI g' (Inv (i + 1)) Q) (St c h' t'))
    (fin : ∀ a o g' h' t', Le g g' → Inv n a g' → Fm env S g₀ h₀ g' (μI a) (lcI a o) h' → Q .next (St c h' t')) :
    FLoop w A (.Name x p) (.ref I) body env Q (St c h t) := by
  refine ⟨fun E => codeAny_forLoop_any (fun m s' => ∃ i a o g' h' t', m = n + 1 - i ∧ i ≤ n ∧ s' = St c h' t' ∧ Le g g' ∧ Inv i a g' ∧ Fm env S g₀ h₀ g' ((I, P i) :: μI a) (lcI a o) h') ?_ (n + 1) ⟨0, a₀, o₀, g, h, t, rfl, Nat.zero_le _, rfl, Le.refl _, h0, F⟩⟩
  rintro m s' ⟨i, a, o, g', h', t', rfl, hi, rfl, l, inv, F'⟩
  obtain ⟨⟨oi, hoi, hPi⟩, z1, z2, _⟩ := F'.mu _ (.head _)
  have it' := it.mono l
  by_cases hlt : i < n
  · refine (it'.item A c h' t' i _ hh hlt F'.gw.sub ⟨oi, hoi, hPi⟩ fun v h₁ t₁ o' hv hs ho' hP => ?_).any
    have F₁ := F'.upd MPut.head hs ho' hP
    refine wpAny_of_eq (a := ()) rfl ?_
    refine wpAny_assign_Name ?_
    refine (stL (w := w) (A := A) F₁ (hput a o v) fun h₂ t₂ F₂ => (step i v a g' h₂ t₂ hlt hv l inv F₂).to (E := _) fun f s₃ q => ?_).any
    have nx : (∃ a' g'' h'' t'' o'', s₃ = St c h'' t'' ∧ Le g' g'' ∧ Fm env S g₀ h₀ g'' ((I, P (i + 1)) :: μI a') (lcI a' o'') h'' ∧ Inv (i + 1) a' g'') → ∃ m', m' < n + 1 - i ∧ ∃ j a o g' h' t', m' = n + 1 - j ∧ j ≤ n ∧ s₃ = St c h' t' ∧ Le g g' ∧ Inv j a g' ∧ Fm env S g₀ h₀ g' ((I, P j) :: μI a) (lcI a o) h' := by
      rintro ⟨a', g'', h'', t'', o'', e, l', F'', inv'⟩
      exact ⟨n + 1 - (i + 1), by omega, i + 1, a', o'', g'', h'', t'', rfl, hlt, e, l.trans l', inv', F''⟩
    cases f with
    | next => exact nx q
    | cont => exact nx q
    | brk => exact q
    | ret v => exact q
  · have : i = n := by omega
    subst this
    refine (it'.done A c h' t' _ hh F'.gw.sub ⟨oi, hoi, hPi⟩ fun h₁ t₁ hx => ?_).any
    exact wpAny_execs_nil (fin a o g' h₁ t₁ l inv (F'.walked hI hx))
end
end TL

end
section
open PySem PySem.W PyProof.Rows PySem.Calls
set_option maxRecDepth 100000
set_option linter.unusedVariables false
namespace TL
open TL
section
variable {env : Env} {S : List Addr} {g₀ h₀ g h h' : Heap} {μ : Mu} {lc : Lc} {w : World} {A : Around} {c : Shared} {t : Tok} {x : Str} {v : Value} {pos p : Pos} {Q : Value → Shared → Prop} {K : Frag} {mg mb : Str → Option Value}
theorem eCallT {T : String} {e : Expr} {args : List Expr} (F : Fm env S g₀ h₀ g μ lc h) (W : Wg K mg mb g₀) (hx : Gl env.scope x) (hv : mg x = none ∧ mb x = some (.type T))
    (k : Wp w A (spliced (backTo pos (starEach (e :: args) env))) (fun vs s₁ => Wp w A (call (.type T) vs) Q s₁) (St c h t)) (he : (e :: args).any isStar = false := by rfl) :
    Wp w A (eval (.Call (.Name x p) (e :: args) [] pos) env) Q (St c h t) := by
  refine ⟨wpAny_Call_Name_kw (ldB F W hx hv ?_).go⟩
  have hp := no_stars (env := env) (pos := pos) he
  rw [List.any_cons, Bool.or_eq_false_iff] at he
  rw [no_star he.1] at k hp ⊢
  exact PyProof.Rows.callWith_type hp (evalArgs_plain (k.to fun _ _ k => k.go))

/-- a new walker -/
theorem Fm.walker {P : Obj → Prop} {o o' : Obj} (F : Fm env S g₀ h₀ g μ lc h) (hf : o'.isFreed = false) (hp : P o') : h₀.get? (h.push o).objs.size = none ∧ Fm env S g₀ h₀ g (((h.push o).objs.size, P) :: μ) lc ((h.push o).push o') :=
  have F' := F.ext (h' := h.push o) (fun b o' e => Heap.get?_push_of_some o e)
  ⟨(F'.none_new (none_size _)).2.2.1, F'.push hf hp⟩
theorem Fm.walker0 {P : Obj → Prop} {o' : Obj} (F : Fm env S g₀ h₀ g μ lc h) (hf : o'.isFreed = false) (hp : P o') : h₀.get? h.objs.size = none ∧ Fm env S g₀ h₀ g ((h.objs.size, P) :: μ) lc (h.push o') :=
  ⟨(F.none_new (none_size _)).2.2.1, F.push hf hp⟩

theorem rng1 {n : Int} {u : Tok} (F : Fm env S g₀ h₀ g μ lc h) (h1 : -(2 ^ 62) ≤ n) (h2 : n < 2 ^ 62)
    (k : ∀ I h' t', h₀.get? I = none → Fm env S g₀ h₀ g ((I, ritr 0 1 n.toNat 0) :: μ) lc h' → Q (.ref I) (St c h' t')) :
    Wp w A (call (.type "range") [.int n u]) (fun x s₁ => Wp w A (pyIter x) Q s₁) (St c h t) := by
  refine ⟨call_range_1 (s := St c h t) ⟨wpAny_pyIter_range (IsRange.new ..) (small_one (by decide) (by decide) h1 h2) ?_⟩⟩
  obtain ⟨a, b⟩ := F.walker (o := { cls := .type "range", data := .fields #[.int 0 t, .int n u, .int 1 (t + 1)] }) (P := ritr 0 1 n.toNat 0) (o' := { cls := .type "range_iterator", data := .fields #[rawInt 0, rawInt (Builtin.Range.rangeSize 0 n 1), rawInt 1] }) rfl (by
    show _ = _
    have : Builtin.Range.rangeSize 0 n 1 = (n.toNat : Int) - ((0 : Nat) : Int) := by rw [rangeSize_one]; split <;> omega
    rw [this]; simp)
  exact k _ _ _ a b
theorem rng2 {a b : Int} {u u' : Tok} (F : Fm env S g₀ h₀ g μ lc h) (h1 : -(2 ^ 62) ≤ a) (h2 : a < 2 ^ 62) (h3 : -(2 ^ 62) ≤ b) (h4 : b < 2 ^ 62)
    (k : ∀ I h' t', h₀.get? I = none → Fm env S g₀ h₀ g ((I, ritr a 1 (b - a).toNat 0) :: μ) lc h' → Q (.ref I) (St c h' t')) :
    Wp w A (call (.type "range") [.int a u, .int b u']) (fun x s₁ => Wp w A (pyIter x) Q s₁) (St c h t) := by
  refine ⟨call_range_2 (s := St c h t) ⟨wpAny_pyIter_range (IsRange.new ..) (small_one h1 h2 h3 h4) ?_⟩⟩
  obtain ⟨x, y⟩ := F.walker (o := { cls := .type "range", data := .fields #[.int a u, .int b u', .int 1 t] }) (P := ritr a 1 (b - a).toNat 0) (o' := { cls := .type "range_iterator", data := .fields #[rawInt a, rawInt (Builtin.Range.rangeSize a b 1), rawInt 1] }) rfl (by
    show _ = _
    have : Builtin.Range.rangeSize a b 1 = ((b - a).toNat : Int) - ((0 : Nat) : Int) := by rw [rangeSize_one]; split <;> omega
    rw [this]; simp)
  exact k _ _ _ x y
theorem small_back {n : Nat} (hn : n < 2 ^ 62) : Builtin.Range.rangeSize ((n : Int) - 1) (-1) (-1) = n ∧ Builtin.Range.small ((n : Int) - 1) (-1) (-1) = true := by
  have e : Builtin.Range.rangeSize ((n : Int) - 1) (-1) (-1) = n := by
    unfold Builtin.Range.rangeSize
    rw [if_neg (by decide)]
    by_cases q : n = 0
    · subst q; rw [if_neg (by decide)]; rfl
    · rw [if_pos (by omega)]
      simp only [Int.neg_neg, Int.ediv_one]; omega
  refine ⟨e, ?_⟩
  unfold Builtin.Range.small
  rw [e]
  simp only [Builtin.Range.rangeFitsLong, Bool.and_eq_true, Bool.or_eq_true, decide_eq_true_eq, beq_iff_eq, show ¬ ((-1 : Int) > 0) by decide, if_false]
  omega
theorem rng3 {n : Nat} {u u' u'' : Tok} (F : Fm env S g₀ h₀ g μ lc h) (hn : n < 2 ^ 62)
    (k : ∀ I h' t', h₀.get? I = none → Fm env S g₀ h₀ g ((I, ritr ((n : Int) - 1) (-1) n 0) :: μ) lc h' → Q (.ref I) (St c h' t')) :
    Wp w A (call (.type "range") [.int ((n : Int) - 1) u, .int (-1) u', .int (-1) u'']) (fun x s₁ => Wp w A (pyIter x) Q s₁) (St c h t) := by
  refine ⟨call_range_3 (s := St c h t) (by decide) ⟨wpAny_pyIter_range (IsRange.new ..) (small_back hn).2 ?_⟩ (.inl (PyProof.noPylong_small (by decide)))⟩
  obtain ⟨x, y⟩ := F.walker (o := { cls := .type "range", data := .fields #[.int ((n : Int) - 1) u, .int (-1) u', .int (-1) u''] }) (P := ritr ((n : Int) - 1) (-1) n 0) (o' := { cls := .type "range_iterator", data := .fields #[rawInt ((n : Int) - 1), rawInt (Builtin.Range.rangeSize ((n : Int) - 1) (-1) (-1)), rawInt (-1)] }) rfl (by
    show _ = _
    rw [(small_back hn).1]; simp)
  exact k _ _ _ x y
theorem iLst {l : Addr} {vs : List Value} (F : Fm env S g₀ h₀ g μ lc h) (hl : h.IsList l vs.toArray)
    (k : ∀ I h' t', h₀.get? I = none → Fm env S g₀ h₀ g ((I, litr l 0) :: μ) lc h' → Q (.ref I) (St c h' t')) : Wp w A (pyIter (.ref l)) Q (St c h t) := by
  obtain ⟨x, y⟩ := F.walker0 (P := litr l 0) (o' := { cls := .type "list_iterator", data := .fields #[.ref l, .int 0 0] }) rfl ⟨rfl, rfl⟩
  exact ⟨wpAny_pyIter_list (s := St c h t) hl (k _ _ _ x y)⟩
theorem iTup {l : Addr} {vs : List Value} (F : Fm env S g₀ h₀ g μ lc h) (hl : h.IsTuple l vs.toArray)
    (k : ∀ I h' t', h₀.get? I = none → Fm env S g₀ h₀ g ((I, titr l 0) :: μ) lc h' → Q (.ref I) (St c h' t')) : Wp w A (pyIter (.ref l)) Q (St c h t) := by
  obtain ⟨x, y⟩ := F.walker0 (P := titr l 0) (o' := { cls := .type "tuple_iterator", data := .fields #[.ref l, .int 0 0] }) rfl ⟨rfl, rfl⟩
  exact ⟨wpAny_pyIter_tuple (s := St c h t) hl (k _ _ _ x y)⟩

/-- displays -/
theorem eList {es : List Expr} {s : Shared} (k : Wp w A (spliced (backTo pos (starEach es env))) (fun vs s₁ => Wp w A (newList vs) Q s₁) s) : Wp w A (eval (.List es pos) env) Q s := ⟨List_ (k.to fun _ _ k => k.go)⟩
theorem eTuple {es : List Expr} {n : Nat} {s : Shared} (k : Wp w A (spliced (backTo pos (starEach es env))) (fun vs s₁ => Wp w A (newTuple vs) Q s₁) s) : Wp w A (eval (.Tuple es n pos) env) Q s := ⟨Tuple_ (k.to fun _ _ k => k.go)⟩
/-- a new list that may turn -/
theorem nLstM {vs : List Value} (F : Fm env S g₀ h₀ g μ lc h) (hz : vs.length ≤ sizeLine) (k : ∀ l h', h₀.get? l = none → Fm env S g₀ h₀ g ((l, lst vs) :: μ) lc h' → Q (.ref l) (St c h' t)) : Wp w A (newList vs) Q (St c h t) := by
  obtain ⟨x, y⟩ := F.walker0 (P := lst vs) (o' := { cls := .type "list", data := .seq vs.toArray }) rfl ⟨_, rfl⟩
  exact ⟨wpAny_newObj_type (s := St c h t) (k _ _ x y) (by show vs.toArray.size ≤ sizeLine; rw [List.size_toArray]; exact hz)⟩
/-- a new list, known -/
theorem nLst {vs : List Value} (F : Fm env S g₀ h₀ g μ lc h) (hz : vs.length ≤ sizeLine) (k : ∀ l g' h', Fm env S g₀ h₀ g' μ lc h' → Le g g' → g'.IsList l vs.toArray → Q (.ref l) (St c h' t)) : Wp w A (newList vs) Q (St c h t) := by
  obtain ⟨g', x, y, z⟩ := F.made (o := { cls := .type "list", data := .seq vs.toArray }) rfl
  exact ⟨wpAny_newObj_type (s := St c h t) (k _ _ _ x y ⟨_, z, rfl, _, rfl⟩) (by show vs.toArray.size ≤ sizeLine; rw [List.size_toArray]; exact hz)⟩
theorem nTup {vs : List Value} (F : Fm env S g₀ h₀ g μ lc h) (hz : vs.length ≤ sizeLine) (k : ∀ l g' h', Fm env S g₀ h₀ g' μ lc h' → Le g g' → g'.IsTuple l vs.toArray → Q (.ref l) (St c h' t)) : Wp w A (newTuple vs) Q (St c h t) := by
  obtain ⟨g', x, y, z⟩ := F.made (o := { cls := .type "tuple", data := .seq vs.toArray }) rfl
  exact ⟨wpAny_newObj_type (s := St c h t) (k _ _ _ x y ⟨_, z, rfl, _, rfl⟩) (by show vs.toArray.size ≤ sizeLine; rw [List.size_toArray]; exact hz)⟩
end

/-! comprehensions -/
/-- what is closed of a comprehension's scope, its one variable -/
def okComp (sc : Scope) (x : Str) : Bool :=
  sc.kind == .function && (sc.names.all fun y => y.2 != .cell) && (sc.names.all fun y => y.2 != .local || sc.names.lookup y.1 == some .local) && sc.names.lookup x == some .local && !(x == ("__debug__" : Str))
section
variable {env : Env} {S : List Addr} {g₀ h₀ g h h' : Heap} {μ : Mu} {lc lc' : Lc} {oL : Obj} {C : Addr} {sc : Scope} {cl : List (Str × Addr)} {x : Str}
theorem Fm.enter {o : Obj} (F : Fm env S g₀ h₀ g μ lc h) (ok : okComp sc x = true) (ho : h.get? env.locals = some oL) (hn : h'.Ns h.objs.size fun _ => none) (hs : Heap.SameBut h.objs.size (h.push o) h') :
    Fm (compEnvC sc cl h.objs.size env) S g₀ h₀ g ((env.locals, fun o => o = oL) :: μ) [(x, none)] h' := by
  simp only [okComp, Bool.and_eq_true, beq_iff_eq, List.all_eq_true, Bool.not_eq_true'] at ok
  obtain ⟨⟨⟨⟨e1, e2⟩, e3⟩, e4⟩, e5⟩ := ok
  obtain ⟨n1, n2, n3, n4⟩ := F.none_new (none_size h)
  have up : Le h h' := fun b o' e => hs.extBut b o' (fun z => by rw [z, none_size] at e; cases e) (Heap.get?_push_of_some _ e)
  have F' := F.ext up
  exact {
    gw := F'.gw
    ns := ⟨_, hn, fun p hp => by rw [List.mem_singleton.mp hp]⟩
    offL := n1
    newL := n3
    mu := fun q hq => by
      rcases List.mem_cons.mp hq with rfl | hq
      · exact ⟨⟨oL, up _ _ ho, rfl⟩, F.offL, fun z => n2 z.symm, .inr F.newL⟩
      · obtain ⟨a, b, _, d⟩ := F'.mu q hq
        exact ⟨a, b, n4 q hq, d⟩
    nd := by simp
    ndm := by
      rw [List.map_cons, List.nodup_cons]
      refine ⟨fun z => ?_, F.ndm⟩
      obtain ⟨q, hq, e⟩ := List.mem_map.mp z
      exact (F.mu q hq).2.2.1 e
    kd := fun p hp => by rw [List.mem_singleton.mp hp]; exact ⟨lookup_relabel_local e4, e5⟩
    kf := e1
    gl := F.gl
    bi := F.bi }
theorem Fm.perm {μ' : Mu} (F : Fm env S g₀ h₀ g μ lc h) (p : μ.Perm μ') : Fm env S g₀ h₀ g μ' lc h :=
  { F with mu := fun q hq => F.mu q (p.mem_iff.mpr hq), ndm := (p.map _).nodup_iff.mp F.ndm }
theorem rot3 {α : Type} {a b c : α} {r : List α} : (a :: b :: c :: r).Perm (b :: c :: a :: r) := (List.Perm.swap b a (c :: r)).trans ((List.Perm.swap c a r).cons b)
theorem Fm.leave {gB hB : Heap} {μB : Mu} (B : Fm env S g₀ h₀ gB μB lc hB) (ho : hB.get? env.locals = some oL) (F : Fm (compEnvC sc cl C env) S g₀ h₀ g ((env.locals, fun o => o = oL) :: μ) lc' h) : Fm env S g₀ h₀ g μ lc h := by
  obtain ⟨⟨o, q1, rfl⟩, q2, q3, q4⟩ := F.mu _ (.head _)
  have nd := List.nodup_cons.mp F.ndm
  obtain ⟨m, ⟨o', es, ep, hL, hr⟩, hl⟩ := B.ns
  rw [ho] at hL
  have := Option.some.inj hL
  subst this
  exact {
    gw := F.gw
    ns := ⟨m, ⟨_, es, ep, q1, hr⟩, hl⟩
    offL := q2
    newL := B.newL
    mu := fun q hq => let ⟨a, b, d, e⟩ := F.mu q (.tail _ hq); ⟨a, b, fun z => nd.1 (List.mem_map.mpr ⟨q, hq, z⟩), e⟩
    nd := B.nd
    ndm := nd.2
    kd := B.kd
    kf := B.kf
    gl := B.gl
    bi := B.bi }
/-- a thing that is not ours turns -/
theorem Fm.other {a : Addr} (F : Fm env S g₀ h₀ g μ lc h) (hs : Heap.SameBut a h h') (h1 : g.get? a = none) (h2 : h₀.get? a = none) (h3 : a ≠ env.locals) (h4 : ∀ p ∈ μ, p.1 ≠ a) : Fm env S g₀ h₀ g μ lc h' := by
  refine { F with gw := ⟨F.gw.le, fun b o e => (hs.2 b fun z => by rw [z, h1] at e; cases e).trans (F.gw.sub b o e), fun b o n e => (hs.2 b fun z => by rw [z, h2] at e; cases e).trans (F.gw.ext b o n e), F.gw.fr, fun b e => ?_⟩, ns := ?_, mu := fun q hq => ?_ }
  · by_cases z : b = a
    · rw [z]; exact h2
    · exact F.gw.live b ((hs.2 b z) ▸ e)
  · obtain ⟨m, hn, hl⟩ := F.ns
    exact ⟨m, hn.sameBut hs (Ne.symm h3), hl⟩
  · obtain ⟨⟨o₁, x₁, y⟩, z⟩ := F.mu q hq
    exact ⟨⟨o₁, (hs.2 _ (h4 q hq)).trans x₁, y⟩, z⟩
end

/-- a comprehension's turns to come, its list and block new -/
structure CLoop (w : World) (A : Around) (elt iter : Expr) (x : Str) (px : Pos) (ifs : List Expr) (scope : Scope) (pos : Pos) (cl : List (Str × Addr)) (env : Env) (it : Value) (RR : (Value → Shared → Prop) → Value → Addr → Result → Shared → Prop) (s : Shared) : Prop where
  go : ∀ E : Value → Shared → Prop, wpAny (model prg w) A (newList []) (fun acc s₃ => wpAny (model prg w) A (newFunctionEnv scope env.globals cl [] env.qual none .none (some env)) (fun cenv s₄ =>
      codeAny (model prg w) A (.compStart (.ListComp elt [⟨.Name x px, iter, ifs, 0⟩] scope pos) 0 it acc { cenv with scope := relabel scope env }) (RR E acc cenv.locals) s₄) E s₃) E s

section
variable {w : World} {A : Around} {env : Env} {S : List Addr} {g₀ h₀ g h : Heap} {μ : Mu} {lc lc' : Lc} {c : Shared} {t : Tok} {x : Str} {pos px : Pos} {elt iter : Expr} {ifs : List Expr} {scope : Scope} {cl : List (Str × Addr)}
theorem eComp {Q : Value → Shared → Prop} {s : Shared} (hcl : closureFor scope env = pure cl) (ok : okComp scope x = true)
    (k : Wp w A (eval iter env) (fun xv s₁ => Wp w A (pyIter xv) (fun it s₂ => CLoop w A elt iter x px ifs scope pos cl env it (fun E acc C => compPost (model prg w) A E none Q acc C) s₂) s₁) s) (hs : isSetD iter = false := by rfl) :
    Wp w A (eval (.ListComp elt [⟨.Name x px, iter, ifs, 0⟩] scope pos) env) Q s := by
  simp only [okComp, Bool.and_eq_true, beq_iff_eq, List.all_eq_true, Bool.not_eq_true', Bool.or_eq_true, bne_iff_ne] at ok
  refine ⟨?_⟩
  rw [eval_ListComp]
  exact wpAny_comprehension_free (use := none) rfl (no_set hs) hcl ok.1.1.1.1 (fun y hy e => (ok.1.1.2 y hy).resolve_left (fun z => z e)) (k.to fun _ _ k => k.to fun _ _ k => k.go _)

theorem cloop {σ : Type} {I : Addr} {P : Nat → Obj → Prop} {n : Nat} {V : Nat → Value → Prop} {μI : σ → Mu} {RR : (Value → Shared → Prop) → Value → Addr → Result → Shared → Prop} (a₀ : σ) (Inv : Nat → List Value → σ → Heap → Prop)
    (hh : A.handled = none) (ok : okComp scope x = true) (hz : n ≤ sizeLine) (F : Fm env S g₀ h₀ g ((I, P 0) :: μI a₀) lc h) (hI : h₀.get? I = none) (hself : ∀ (c : Shared) (h : Heap) (t : Tok) (Q : Value → Shared → Prop), (∃ o, h.get? I = some o ∧ P 0 o) → Q (.ref I) (St c h t) → Wp w A (pyIter (.ref I)) Q (St c h t))
    (it : Itr w I P n V g) (h0 : Inv 0 [] a₀ g)
    (step : ∀ i v outs a g' h' t' D C Lo, i < n → V i v → Le g g' → Inv i outs a g' → outs.length ≤ i → Fm (compEnvC scope cl C env) S g₀ h₀ g' ((D, lst outs) :: (I, P (i + 1)) :: (env.locals, Lo) :: μI a) [(x, some v)] h' →
      Wp w A (forIn ifs true fun c r => if r = true then do let ok ← isTrue c (compEnvC scope cl C env) (eval c (compEnvC scope cl C env)); pure (ForInStep.yield ok) else pure (ForInStep.yield r)) (fun b s' =>
        ∃ a' g'' h'' t'', s' = St c h'' t'' ∧ Le g' g'' ∧ Fm (compEnvC scope cl C env) S g₀ h₀ g'' ((D, lst outs) :: (I, P (i + 1)) :: (env.locals, Lo) :: μI a') [(x, some v)] h'' ∧
          if b = true then Wp w A (eval elt (compEnvC scope cl C env)) (fun y s'' => ∃ a' g'' h'' t'', s'' = St c h'' t'' ∧ Le g' g'' ∧ Fm (compEnvC scope cl C env) S g₀ h₀ g'' ((D, lst outs) :: (I, P (i + 1)) :: (env.locals, Lo) :: μI a') [(x, some v)] h'' ∧ Inv (i + 1) (outs ++ [y]) a' g'') s'
          else Inv (i + 1) outs a' g'') (St c h' t'))
    (fin : ∀ E outs a g' h' t' D C m, Le g g' → Inv n outs a g' → Fm env S g₀ h₀ g' ((D, lst outs) :: μI a) lc h' → h₀.get? D = none → h'.Ns C m → g'.get? C = none → h₀.get? C = none → C ≠ env.locals → (∀ p ∈ (D, lst outs) :: μI a, p.1 ≠ C) → RR E (.ref D) C (.ok .next) (St c h' t')) :
    CLoop w A elt iter x px ifs scope pos cl env (.ref I) RR (St c h t) := by
  have ok' := ok
  simp only [okComp, Bool.and_eq_true, beq_iff_eq, List.all_eq_true, Bool.not_eq_true', Bool.or_eq_true, bne_iff_ne] at ok
  refine ⟨fun E => ?_⟩
  refine (nLstM (w := w) (A := A) F (vs := []) (Nat.zero_le _) fun D h₁ hD F₁ => ?_).to (Q' := _) (fun _ _ q => q) |> fun z => z
  refine wpAny_newFunctionEnv (s := St c h₁ t) ok.1.1.1.2 (by intro y hy; cases hy) (fun h₂ hn₂ hs₂ => ?_) ok.1.1.1.1
  obtain ⟨m₀, ⟨oL, es, ep, hL, hr⟩, hl⟩ := F₁.ns
  have F₂ := F₁.enter (cl := cl) ok' hL (by simpa using hn₂) hs₂
  obtain ⟨cn1, cn2, cn3, cn4⟩ := F₁.none_new (none_size h₁)
  have loop : ∀ t, codeAny (model prg w) A (.compLoop (.ListComp elt [⟨.Name x px, iter, ifs, 0⟩] scope pos) 0 (.ref I) (.ref D) (compEnvC scope cl h₁.objs.size env)) (RR E (.ref D) h₁.objs.size) (St c h₂ t) := by
    intro t
    have perm : ∀ {outs : List Value} {j : Nat} {a : σ} {g' h' : Heap} {o : Option Value}, Fm (compEnvC scope cl h₁.objs.size env) S g₀ h₀ g' ((env.locals, fun o => o = oL) :: (D, lst outs) :: (I, P j) :: μI a) [(x, o)] h' →
        Fm (compEnvC scope cl h₁.objs.size env) S g₀ h₀ g' ((D, lst outs) :: (I, P j) :: (env.locals, fun o => o = oL) :: μI a) [(x, o)] h' := fun F => F.perm rot3
    have mrep : ∀ {outs : List Value} {j : Nat} {a : σ} {g' h' : Heap} {o : Option Value}, Fm (compEnvC scope cl h₁.objs.size env) S g₀ h₀ g' ((D, lst outs) :: (I, P j) :: (env.locals, fun o => o = oL) :: μI a) [(x, o)] h' →
        Fm (compEnvC scope cl h₁.objs.size env) S g₀ h₀ g' ((I, P j) :: (env.locals, fun o => o = oL) :: (D, lst outs) :: μI a) [(x, o)] h' := fun F => F.perm rot3
    refine codeAny_compLoop_tests (fun k s' => ∃ i outs a g' h' t' o, k = n + 1 - i ∧ i ≤ n ∧ outs.length ≤ i ∧ s' = St c h' t' ∧ Le g g' ∧ Inv i outs a g' ∧ Fm (compEnvC scope cl h₁.objs.size env) S g₀ h₀ g' ((D, lst outs) :: (I, P i) :: (env.locals, fun o => o = oL) :: μI a) [(x, o)] h') ?_ (n + 1)
      ⟨0, [], a₀, g, h₂, t, none, rfl, Nat.zero_le _, Nat.le_refl _, rfl, Le.refl _, h0, perm F₂⟩
    rintro k s' ⟨i, outs, a, g', h', t', o, rfl, hi, ho, rfl, l, inv, F'⟩
    obtain ⟨⟨oi, hoi, hPi⟩, z1, z2, _⟩ := F'.mu (I, P i) (.tail _ (.head _))
    have it' := it.mono l
    by_cases hlt : i < n
    · refine (it'.item A c h' t' i _ hh hlt F'.gw.sub ⟨oi, hoi, hPi⟩ fun v h₁ t₁ o' hv hs ho' hP => ?_).any
      have F₁ := F'.upd (MPut.tail MPut.head) hs ho' hP
      refine wpAny_assign_Name ?_
      refine (stL (w := w) (A := A) F₁ (Put.head (v := v)) fun h₂ t₂ F₂ => (step i v outs a g' h₂ t₂ D _ _ hlt hv l inv ho F₂).to (E := _) fun b s₃ q => ?_).any
      obtain ⟨a', g'', h'', t'', rfl, l', F'', q⟩ := q
      cases b with
      | false =>
        simp only [Bool.false_eq_true, if_false] at q ⊢
        exact ⟨n + 1 - (i + 1), by omega, i + 1, outs, a', g'', h'', t'', _, rfl, hlt, Nat.le_succ_of_le ho, rfl, l.trans l', q, F''⟩
      | true =>
        simp only [if_true] at q ⊢
        refine q.to fun y s₄ q => ?_
        obtain ⟨a', g'', h'', t'', rfl, l', F'', q⟩ := q
        refine wpAny_list_append_plain (F''.mpl (.head _)) (fun h₅ hl₅ hs₅ => ?_) (by rw [List.size_toArray]; omega)
        obtain ⟨n₅, x₅⟩ := hl₅
        exact ⟨n + 1 - (i + 1), by omega, i + 1, outs ++ [y], a', g'', h₅, t'', _, rfl, hlt, by simp; omega, rfl, l.trans l', q, F''.upd MPut.head hs₅ x₅ ⟨n₅, by simp⟩⟩
    · have : i = n := by omega
      subst this
      refine (it'.done A c h' t' _ hh F'.gw.sub ⟨oi, hoi, hPi⟩ fun h₃ t₃ hx => ?_).any
      have F₃ := (mrep F').walked hI hx
      have G := F₁.leave hL F₃
      obtain ⟨m, hn, _⟩ := F₃.ns
      refine fin E outs a g' h₃ t₃ D h₁.objs.size m l inv G hD hn F₃.offL cn3 cn2 (fun p hp => ?_)
      exact (F₃.mu p (.tail _ hp)).2.2.1
  refine codeAny_compStart_list (loop _) ?_
  obtain ⟨⟨oi, hoi, hPi⟩, _⟩ := F₂.mu (I, P 0) (.tail _ (.tail _ (.head _)))
  exact (hself c h₂ _ _ ⟨oi, hoi, hPi⟩ (loop _)).to (fun _ _ q => q)
end
end TL

end
section
open PySem PySem.W PyProof.Rows PySem.Calls
set_option maxRecDepth 100000
set_option linter.unusedVariables false
namespace TL
open TL
section
variable {w : World} {A : Around} {c : Shared} {h : Heap} {t : Tok} {I : Addr} {Q : Value → Shared → Prop}
theorem selfL {l : Addr} (x : ∃ o, h.get? I = some o ∧ litr l 0 o) (k : Q (.ref I) (St c h t)) : Wp w A (pyIter (.ref I)) Q (St c h t) :=
  let ⟨o, a, b, d⟩ := x; ⟨wpAny_pyIter_listiter (s := St c h t) (i := 0) ⟨o, a, b, d⟩ k⟩
theorem selfR {a s : Int} {n : Nat} (x : ∃ o, h.get? I = some o ∧ ritr a s n 0 o) (k : Q (.ref I) (St c h t)) : Wp w A (pyIter (.ref I)) Q (St c h t) :=
  let ⟨o, a, b⟩ := x; ⟨wpAny_pyIter_rangeiter (s := St c h t) (b ▸ a) k⟩
end

section
variable {w : World} {A : Around} {env : Env} {S : List Addr} {g₀ h₀ g h : Heap} {μ : Mu} {lc lc' : Lc} {c : Shared} {t : Tok} {x : Str} {pos px : Pos} {elt iter : Expr} {ifs : List Expr} {scope : Scope} {cl : List (Str × Addr)}
theorem compEnd {μ : Mu} {lc : Lc} {h' : Heap} {t' : Tok} {D C : Addr} {m : Str → Option Value} {E : Value → Shared → Prop} {Q : Value → Shared → Prop} (F : Fm env S g₀ h₀ g μ lc h') (hn : h'.Ns C m) (h1 : g.get? C = none) (h2 : h₀.get? C = none) (h3 : C ≠ env.locals) (h4 : ∀ p ∈ μ, p.1 ≠ C)
    (k : ∀ h', Fm env S g₀ h₀ g μ lc h' → Q (.ref D) (St c h' t')) : compPost (model prg w) A E none Q (.ref D) C (.ok .next) (St c h' t') :=
  ⟨m, hn, fun h'' hs => k h'' (F.other hs h1 h2 h3 h4)⟩
theorem test0 {cenv : Env} {Q : Bool → Shared → Prop} {s : Shared} (k : Q true s) : Wp w A (forIn ([] : List Expr) true fun c r => if r = true then do let ok ← isTrue c cenv (eval c cenv); pure (ForInStep.yield ok) else pure (ForInStep.yield r)) Q s := ⟨wpAny_tests_nil k⟩
theorem test1 {cenv : Env} {Q : Bool → Shared → Prop} {s : Shared} {e : Expr} (k : Wp w A (isTrue e cenv (eval e cenv)) Q s) : Wp w A (forIn [e] true fun c r => if r = true then do let ok ← isTrue c cenv (eval c cenv); pure (ForInStep.yield ok) else pure (ForInStep.yield r)) Q s := ⟨wpAny_tests_one k.go⟩

/-- behind an element -/
def Elt {σ : Type} (cenv : Env) (S : List Addr) (g₀ h₀ : Heap) (c : Shared) (μO : σ → Mu) (lc : Lc) (gB : Heap) (Inv : Value → σ → Heap → Prop) (y : Value) (s' : Shared) : Prop :=
  ∃ a g' h' t', s' = St c h' t' ∧ Le gB g' ∧ Fm cenv S g₀ h₀ g' (μO a) lc h' ∧ Inv y a g'
theorem Elt.mk' {σ : Type} {cenv : Env} {μO : σ → Mu} {lc : Lc} {gB g' h' : Heap} {Inv : Value → σ → Heap → Prop} {y : Value} (a : σ) {t' : Tok} (l : Le gB g') (F : Fm cenv S g₀ h₀ g' (μO a) lc h') (i : Inv y a g') : Elt cenv S g₀ h₀ c μO lc gB Inv y (St c h' t') := ⟨a, g', h', t', rfl, l, F, i⟩

/-- a comprehension without a test, its value used -/
theorem cloop0 {σ : Type} {I : Addr} {P : Nat → Obj → Prop} {n : Nat} {V : Nat → Value → Prop} {μI : σ → Mu} {Q : Value → Shared → Prop} (a₀ : σ) (Inv : Nat → List Value → σ → Heap → Prop)
    (hh : A.handled = none) (ok : okComp scope x = true) (hz : n ≤ sizeLine) (F : Fm env S g₀ h₀ g ((I, P 0) :: μI a₀) lc h) (hI : h₀.get? I = none) (hself : ∀ (c : Shared) (h : Heap) (t : Tok) (Q : Value → Shared → Prop), (∃ o, h.get? I = some o ∧ P 0 o) → Q (.ref I) (St c h t) → Wp w A (pyIter (.ref I)) Q (St c h t))
    (it : Itr w I P n V g) (h0 : Inv 0 [] a₀ g)
    (step : ∀ i v outs a g' h' t' D C Lo, i < n → V i v → Le g g' → Inv i outs a g' → Fm (compEnvC scope cl C env) S g₀ h₀ g' ((D, lst outs) :: (I, P (i + 1)) :: (env.locals, Lo) :: μI a) [(x, some v)] h' →
      Wp w A (eval elt (compEnvC scope cl C env)) (Elt (compEnvC scope cl C env) S g₀ h₀ c (fun a => (D, lst outs) :: (I, P (i + 1)) :: (env.locals, Lo) :: μI a) [(x, some v)] g' (fun y a g => Inv (i + 1) (outs ++ [y]) a g)) (St c h' t'))
    (fin : ∀ outs a g' h' t' D, Le g g' → Inv n outs a g' → Fm env S g₀ h₀ g' ((D, lst outs) :: μI a) lc h' → h₀.get? D = none → Q (.ref D) (St c h' t')) :
    CLoop w A elt iter x px [] scope pos cl env (.ref I) (fun E acc C => compPost (model prg w) A E none Q acc C) (St c h t) := by
  refine cloop a₀ Inv hh ok hz F hI hself it h0 ?_ fun E outs a g' h' t' D C m l inv F hD hn c1 c2 c3 c4 => compEnd F hn c1 c2 c3 c4 fun h'' F => fin outs a g' h'' t' D l inv F hD
  intro i v outs a g' h' t' D C Lo hi hv l inv ho F
  refine test0 ⟨a, g', h', t', rfl, Le.refl _, F, ?_⟩
  rw [if_pos rfl]
  exact (step i v outs a g' h' t' D C Lo hi hv l inv F).mono fun y s' q => q
/-- a comprehension with a test, its value used -/
theorem cloop1 {σ : Type} {I : Addr} {P : Nat → Obj → Prop} {n : Nat} {V : Nat → Value → Prop} {μI : σ → Mu} {Q : Value → Shared → Prop} {e : Expr} (a₀ : σ) (Inv : Nat → List Value → σ → Heap → Prop)
    (hh : A.handled = none) (ok : okComp scope x = true) (hz : n ≤ sizeLine) (F : Fm env S g₀ h₀ g ((I, P 0) :: μI a₀) lc h) (hI : h₀.get? I = none) (hself : ∀ (c : Shared) (h : Heap) (t : Tok) (Q : Value → Shared → Prop), (∃ o, h.get? I = some o ∧ P 0 o) → Q (.ref I) (St c h t) → Wp w A (pyIter (.ref I)) Q (St c h t))
    (it : Itr w I P n V g) (h0 : Inv 0 [] a₀ g)
    (step : ∀ i v outs a g' h' t' D C Lo, i < n → V i v → Le g g' → Inv i outs a g' → outs.length ≤ i → Fm (compEnvC scope cl C env) S g₀ h₀ g' ((D, lst outs) :: (I, P (i + 1)) :: (env.locals, Lo) :: μI a) [(x, some v)] h' →
      Wp w A (isTrue e (compEnvC scope cl C env) (eval e (compEnvC scope cl C env))) (fun b s' =>
        ∃ a' g'' h'' t'', s' = St c h'' t'' ∧ Le g' g'' ∧ Fm (compEnvC scope cl C env) S g₀ h₀ g'' ((D, lst outs) :: (I, P (i + 1)) :: (env.locals, Lo) :: μI a') [(x, some v)] h'' ∧
          if b = true then Wp w A (eval elt (compEnvC scope cl C env)) (Elt (compEnvC scope cl C env) S g₀ h₀ c (fun a => (D, lst outs) :: (I, P (i + 1)) :: (env.locals, Lo) :: μI a) [(x, some v)] g'' (fun y a g => Inv (i + 1) (outs ++ [y]) a g)) s'
          else Inv (i + 1) outs a' g'') (St c h' t'))
    (fin : ∀ outs a g' h' t' D, Le g g' → Inv n outs a g' → Fm env S g₀ h₀ g' ((D, lst outs) :: μI a) lc h' → h₀.get? D = none → Q (.ref D) (St c h' t')) :
    CLoop w A elt iter x px [e] scope pos cl env (.ref I) (fun E acc C => compPost (model prg w) A E none Q acc C) (St c h t) := by
  refine cloop a₀ Inv hh ok hz F hI hself it h0 ?_ fun E outs a g' h' t' D C m l inv F hD hn c1 c2 c3 c4 => compEnd F hn c1 c2 c3 c4 fun h'' F => fin outs a g' h'' t' D l inv F hD
  intro i v outs a g' h' t' D C Lo hi hv l inv ho F
  refine test1 ((step i v outs a g' h' t' D C Lo hi hv l inv ho F).mono fun b s' q => ?_)
  obtain ⟨a', g'', h'', t'', e1, e2, e3, e4⟩ := q
  refine ⟨a', g'', h'', t'', e1, e2, e3, ?_⟩
  cases b with
  | false => exact e4
  | true => exact e4.mono fun y s' q => let ⟨a, g3, h3, t3, x1, x2, x3, x4⟩ := q; ⟨a, g3, h3, t3, x1, e2.trans x2, x3, x4⟩
/-- a name is given a comprehension's value -/
theorem xAsgComp {y : Str} {py spos : Pos} {rest : List Stmt} {Q : Flow → Shared → Prop} {s : Shared} (hcl : closureFor scope env = pure cl) (ok : okComp scope x = true)
    (hsw : swapsWith (.ListComp elt [⟨.Name x px, iter, ifs, 0⟩] scope pos) (some (.Name y py)) spos.line env = pure true)
    (k : Wp w A (eval iter env) (fun xv s₁ => Wp w A (pyIter xv) (fun it s₂ => CLoop w A elt iter x px ifs scope pos cl env it (fun E acc C => compPost (model prg w) A E (some (assign (.Name y py) env)) (fun _ s' => thenDo w A rest env Q .next s') acc C) s₂) s₁) s) (hs : isSetD iter = false := by rfl) :
    Wp w A (execs (.Assign [.Name y py] (.ListComp elt [⟨.Name x px, iter, ifs, 0⟩] scope pos) spos :: rest) env) Q s := by
  simp only [okComp, Bool.and_eq_true, beq_iff_eq, List.all_eq_true, Bool.not_eq_true', Bool.or_eq_true, bne_iff_ne] at ok
  refine xCons ⟨?_⟩
  rw [exec_Assign_Name_used _ _ _ _ hsw]
  refine wpAny_bind (wpAny_standAt (wpAny_bind ?_))
  show wpAny _ A (do let _ ← comprehension (.ListComp elt [⟨.Name x px, iter, ifs, 0⟩] scope pos) scope env _ (newList []) false (eval iter env) (some (assign (.Name y py) env))) _ _ s
  refine wpAny_bind (wpAny_mono (wpAny_comprehension_free (use := some (assign (.Name y py) env)) (Q := fun _ s' => thenDo w A rest env Q .next s') rfl (no_set hs) hcl ok.1.1.1.1 (fun y hy e => (ok.1.1.2 y hy).resolve_left (fun z => z e))
    (k.to fun _ _ k => k.to fun _ _ k => k.go _)) (fun _ s' q => wpAny_pure (wpAny_pure q)) fun _ _ e => e)
/-- the comprehension's end where a name is given its value -/
theorem compEndA {y : Str} {py : Pos} {Q : Flow → Shared → Prop} {rest : List Stmt} {μ : Mu} {lc lc' : Lc} {h' : Heap} {t' : Tok} {D C : Addr} {m : Str → Option Value} {E : Value → Shared → Prop} (F : Fm env S g₀ h₀ g μ lc h') (p : Put lc y (.ref D) lc') (hn : h'.Ns C m) (h1 : g.get? C = none) (h2 : h₀.get? C = none) (h3 : C ≠ env.locals) (h4 : ∀ p ∈ μ, p.1 ≠ C)
    (k : ∀ h' t', Fm env S g₀ h₀ g μ lc' h' → Wp w A (execs rest env) Q (St c h' t')) :
    compPost (model prg w) A E (some (assign (.Name y py) env)) (fun _ s' => thenDo w A rest env Q .next s') (.ref D) C (.ok .next) (St c h' t') := by
  show wpAny _ A (assign (.Name y py) env (.ref D)) _ _ _
  refine wpAny_assign_Name ?_
  obtain ⟨m₁, hn₁, hm₁⟩ := F.ns
  obtain ⟨o, ho⟩ := p.key
  refine wpAny_storeName_local (s := St c h' t') (F.kd _ ho).1 hn₁ (fun h₁ hn' hs => ?_) (by rw [F.kf]; rfl)
  exact ⟨m, hn.sameBut hs h3, fun h₂ hs₂ => k h₂ _ ((F.stored p hs hm₁ hn').other hs₂ h1 h2 h3 h4)⟩
theorem cloop1A {σ : Type} {I : Addr} {P : Nat → Obj → Prop} {n : Nat} {V : Nat → Value → Prop} {μI : σ → Mu} {Q : Flow → Shared → Prop} {rest : List Stmt} {y : Str} {py : Pos} {e : Expr} (a₀ : σ) (Inv : Nat → List Value → σ → Heap → Prop)
    (hh : A.handled = none) (ok : okComp scope x = true) (hz : n ≤ sizeLine) (F : Fm env S g₀ h₀ g ((I, P 0) :: μI a₀) lc h) (hI : h₀.get? I = none) (hself : ∀ (c : Shared) (h : Heap) (t : Tok) (Q : Value → Shared → Prop), (∃ o, h.get? I = some o ∧ P 0 o) → Q (.ref I) (St c h t) → Wp w A (pyIter (.ref I)) Q (St c h t))
    (it : Itr w I P n V g) (h0 : Inv 0 [] a₀ g) (lx : Value → Lc) (hput : ∀ v, Put lc y v (lx v))
    (step : ∀ i v outs a g' h' t' D C Lo, i < n → V i v → Le g g' → Inv i outs a g' → outs.length ≤ i → Fm (compEnvC scope cl C env) S g₀ h₀ g' ((D, lst outs) :: (I, P (i + 1)) :: (env.locals, Lo) :: μI a) [(x, some v)] h' →
      Wp w A (isTrue e (compEnvC scope cl C env) (eval e (compEnvC scope cl C env))) (fun b s' =>
        ∃ a' g'' h'' t'', s' = St c h'' t'' ∧ Le g' g'' ∧ Fm (compEnvC scope cl C env) S g₀ h₀ g'' ((D, lst outs) :: (I, P (i + 1)) :: (env.locals, Lo) :: μI a') [(x, some v)] h'' ∧
          if b = true then Wp w A (eval elt (compEnvC scope cl C env)) (Elt (compEnvC scope cl C env) S g₀ h₀ c (fun a => (D, lst outs) :: (I, P (i + 1)) :: (env.locals, Lo) :: μI a) [(x, some v)] g'' (fun y a g => Inv (i + 1) (outs ++ [y]) a g)) s'
          else Inv (i + 1) outs a' g'') (St c h' t'))
    (fin : ∀ outs a g' h' t' D, Le g g' → Inv n outs a g' → Fm env S g₀ h₀ g' ((D, lst outs) :: μI a) (lx (.ref D)) h' → h₀.get? D = none → Wp w A (execs rest env) Q (St c h' t')) :
    CLoop w A elt iter x px [e] scope pos cl env (.ref I) (fun E acc C => compPost (model prg w) A E (some (assign (.Name y py) env)) (fun _ s' => thenDo w A rest env Q .next s') acc C) (St c h t) := by
  refine cloop a₀ Inv hh ok hz F hI hself it h0 ?_ fun E outs a g' h' t' D C m l inv F hD hn c1 c2 c3 c4 => compEndA F (hput _) hn c1 c2 c3 c4 fun h'' t'' F => fin outs a g' h'' t'' D l inv F hD
  intro i v outs a g' h' t' D C Lo hi hv l inv ho F
  refine test1 ((step i v outs a g' h' t' D C Lo hi hv l inv ho F).mono fun b s' q => ?_)
  obtain ⟨a', g'', h'', t'', e1, e2, e3, e4⟩ := q
  refine ⟨a', g'', h'', t'', e1, e2, e3, ?_⟩
  cases b with
  | false => exact e4
  | true => exact e4.mono fun y s' q => let ⟨a, g3, h3, t3, x1, x2, x3, x4⟩ := q; ⟨a, g3, h3, t3, x1, e2.trans x2, x3, x4⟩
end
end TL

end
section
open PySem PySem.W PyProof.Rows PySem.Calls Builtin Builtin.ObjectAttr
set_option maxRecDepth 100000
set_option linter.unusedVariables false
set_option linter.unusedSimpArgs false
namespace TL
open TL
/-- C is the class of trees: a list's subclass with a dict -/
structure TreeK (K : Frag) (C : Addr) : Prop where
  cd : ∃ cd, clsIn K C = some cd ∧ cd.mro = [.ref C, .type "list", .type "object"] ∧ cd.hasDict = true ∧ cd.hasDel = false ∧ cd.abstract = false
  ga : findIn K (.ref C) "__getattribute__" = some (some (.builtin "list.__getattribute__"))
  gm : findIn K (.ref C) "__getattr__" = some none
  cls : findIn K (.ref C) "__class__" = some (some (.builtin "object.__class__"))
  lbl : findIn K (.ref C) "_label" = some none
  sa : findIn K (.ref C) "__setattr__" = some (some (.builtin "object.__setattr__"))
  it : findIn K (.ref C) "__iter__" = some (some (.builtin "list.__iter__"))
  ln : findIn K (.ref C) "__len__" = some (some (.builtin "list.__len__"))
  slot : ∃ oc od cd sl, K.lookup C = some ⟨oc, od, .cls cd, sl⟩ ∧ sl.toList[4]? = some (some (.builtin "list.__new__"))
  call : specialIn K (.ref C) "__call__" = some (some (.builtin "type.__call__"))
  typ : instIn K (.ref C) (.type "type") = some true
theorem subs {K : Frag} {C : Addr} (T : TreeK K C) (b : Value) : subIn K (.ref C) b = some ([Value.ref C, .type "list", .type "object"].contains b) := by
  obtain ⟨cd, h1, h2, _⟩ := T.cd
  show mroIn K C b = _
  unfold mroIn
  rw [h1, Option.bind_some, h2]; rfl

/-- x is a tree: its items, where its dict is -/
def treeO (C dx : Addr) (vs : List Value) (o : Obj) : Prop := ∃ n, o = ({ cls := .ref C, dict := some dx, data := .seq vs.toArray n } : Obj)
/-- a dict that binds the label alone -/
def lblO (l : Str) (o : Obj) : Prop := ∃ hsh k u n, o = dictOf [⟨hsh, .str "_label" k, .str l u⟩] n
theorem treeO.inst {C dx x : Addr} {vs : List Value} {o od : Obj} {h : Heap} (t : treeO C dx vs o) (h1 : h.get? x = some o) (h2 : h.get? dx = some od) : InstAt h x o C (some od) := by
  obtain ⟨n, rfl⟩ := t; exact ⟨h1, rfl, rfl, h2⟩
theorem lblO.look {l : Str} {od : Obj} (L : lblO l od) (name : Str) : lookIn name od = some (if ("_label" : Str) = name then some (.str l (L.choose_spec.choose_spec.choose)) else none) := by
  obtain ⟨n, e⟩ := L.choose_spec.choose_spec.choose_spec
  generalize L.choose_spec.choose_spec.choose = u at *
  generalize L.choose_spec.choose = k at *
  generalize L.choose = hs at *
  subst e
  unfold lookIn
  by_cases q : ("_label" : Str) = name
  · simp [Value.isStr, q, DictEntry.refKey]
  · simp [Value.isStr, q, DictEntry.refKey]

theorem canon_lga : (Manifest.canonical "list.__getattribute__" != "object.__getattribute__") = false := by decide +kernel
theorem not_oga : (Value.builtin "list.__getattribute__" == Value.builtin "object.__getattribute__") = false := by decide +kernel

section
variable {w : World} {A : Around} {E : Value → Shared → Prop} {K : Frag} {x C : Addr} {ox od : Obj} {h : Heap} {c : Shared} {t : Tok} {name : Str}
/-- list's own road of reading an attribute, on a tree -/
theorem lga_call {R : Result → Shared → Prop} {tk : Tok} (X : K.In h) (T : TreeK K C) (I : InstAt h x ox C (some od))
    (k : wpAny (model prg w) A.in1 (Builtin.«object.__getattribute__» ⟨[.ref x, .str name tk], []⟩) (fun fin s' => match fin with | .done f => R (.ok f) s' | .again c' => c'.quiet = true ∧ codeAny (model prg w) A c' R s') (fun e s' => R (.error e) s') (St c h t)) :
    codeAny (model prg w) A (.call (.builtin "list.__getattribute__") ⟨[.ref x, .str name tk], []⟩) R (St c h t) := by
  have sub : Looks (model prg w) h (isInstance (.ref x) (.type "list")) true := I.type.andThen (looks_subIn X (subs T _))
  exact codeAny_call_builtin F.slot_list_getattribute.plain F.entry_list_ga (@check_slot (model prg w) _ _ (St c h t) "list.__getattribute__" "list" "__getattribute__" (.ref x) [.str name tk] [] _ (by decide +kernel) (by decide +kernel) sub (F.args_list_getattribute_2 _ _) k)

theorem getBy {Q : Value → Shared → Prop} {tk : Tok} {fill expr : Bool} (X : K.In h) (T : TreeK K C) (I : InstAt h x ox C (some od)) 
    (k : codeAny (model prg w) A (.call (.builtin "list.__getattribute__") ⟨[.ref x, .str name tk], []⟩) (fun r s' => match r with | .ok (.ret v) => wpAny (model prg w) A (handedOut v) Q E s' | _ => False) (St c h t)) :
    wpAny (model prg w) A (getAttrBy (.ref x) (.str name tk) fill expr) Q E (St c h t) := by
  have L0 := I.type (M := model prg w)
  have L1 := looks_findIn (M := model prg w) X T.ga
  have L2 := looks_findIn (M := model prg w) X T.gm
  unfold getAttrBy
  refine wpAny_holding (wpAny_bind (L0.at (wpAny_bind (L1.at ?_))))
  dsimp only
  rw [if_neg (by rw [not_oga, Bool.and_false]; decide)]
  unfold getAttrByItsOwn hookBefore
  refine wpAny_bind ?_
  rw [if_pos (show onTheHeap (.ref C) = true from rfl)]
  refine L2.at (wpAny_bind (wpAny_attempt (wpAny_holding ?_)))
  unfold callGetattribute
  rw [if_neg (by rw [show onTheHeap (.builtin "list.__getattribute__") = false from rfl, Bool.and_false]; decide)]
  unfold boundAndCalled
  rw [F.slot_list_getattribute.bind]
  refine wpAny_bind (wpAny_pure (wpAny_call (codeAny_mono k fun r s' z => ?_)))
  rcases r with e | (v | _ | _ | _) <;> first | exact z.elim | exact z

theorem lga_value {R : Result → Shared → Prop} {tk : Tok} {v : Value} (X : K.In h) (T : TreeK K C) (I : InstAt h x ox C (some od)) (hf : findObj K C (some od) name = some (.value v)) (k : R (.ok (.ret v)) (St c h t)) :
    codeAny (model prg w) A (.call (.builtin "list.__getattribute__") ⟨[.ref x, .str name tk], []⟩) R (St c h t) := by
  refine lga_call X T I ?_
  have L0 := I.type (M := model prg w)
  have L1 := looks_find (M := model prg w) X I hf
  unfold Builtin.«object.__getattribute__»
  refine wpAny_bind (m := slotArgs _ _ _) (wpAny_of_eq (a := (.ref x, [.str name tk])) (by rfl) ?_)
  dsimp only
  refine wpAny_bind (wpAny_pure (wpAny_bind (L0.at (wpAny_bind (L1.at ?_)))))
  exact wpAny_pure k

theorem find_lbl {l : Str} (T : TreeK K C) (L : lblO l od) : ∃ u, findObj K C (some od) "_label" = some (.value (.str l u)) := by
  obtain ⟨cd, h1, h2, h3, _⟩ := T.cd
  refine ⟨L.choose_spec.choose_spec.choose, ?_⟩
  unfold findObj
  rw [h1, Option.bind_some, T.lbl]
  simp only [Option.bind_some]
  unfold PySem.W.ownOf
  rw [h3, if_pos rfl]
  dsimp only
  rw [L.look, if_pos rfl]
  rfl
/-- x._label -/
theorem get_lbl {Q : Value → Shared → Prop} {l : Str} {expr : Bool} (X : K.In h) (T : TreeK K C) (I : InstAt h x ox C (some od)) (L : lblO l od) (k : ∀ u t', Q (.str l u) (St c h t')) : Wp w A (getAttr (.ref x) "_label" expr) Q (St c h t) := by
  obtain ⟨u, hf⟩ := find_lbl T L
  refine ⟨wpAny_bind (wpAny_mkText (s := St c h t) (getBy X T I (lga_value X T I hf ?_)))⟩
  show wpAny _ _ (handedOut (.str l u)) _ _ _
  rw [handedOut_of rfl]; exact wpAny_pure (k _ _)

theorem class_is {R : Result → Shared → Prop} {tk : Tok} (X : K.In h) (T : TreeK K C) (I : InstAt h x ox C (some od)) (k : R (.ok (.ret (.ref C))) (St c h t)) :
    codeAny (model prg w) A (.call (.builtin "list.__getattribute__") ⟨[.ref x, .str "__class__" tk], []⟩) R (St c h t) := by
  refine lga_call X T I ?_
  have L0 := I.type (M := model prg w)
  have hf : findObj K C (some od) "__class__" = some (.bind (.builtin "getset_descriptor.__get__") (.builtin "object.__class__")) := by
    obtain ⟨cd, h1, h2, h3, _⟩ := T.cd
    refine findObj_data (by rw [h1]; rfl) T.cls ?_ ?_
    · unfold specialIn typeIn; kernel_rfl
    · unfold takesIn specialIn typeIn; kernel_rfl
  have L1 := looks_find (M := model prg w) X I hf
  unfold Builtin.«object.__getattribute__»
  refine wpAny_bind (m := slotArgs _ _ _) (wpAny_of_eq (a := (.ref x, [.str "__class__" tk])) (by rfl) ?_)
  dsimp only
  refine wpAny_bind (wpAny_pure (wpAny_bind (L0.at (wpAny_bind (L1.at ?_)))))
  show wpAny _ _ (bindTo (.builtin "getset_descriptor.__get__") (.builtin "object.__class__") (.ref x) (.ref C)) _ _ _
  unfold bindTo
  dsimp only
  refine wpAny_bind (wpAny_holding (wpAny_call (class_get (s := St c h t) X I (subs T _) ?_)))
  exact wpAny_pure k
/-- x.__class__ -/
theorem get_cls {Q : Value → Shared → Prop} {expr : Bool} (X : K.In h) (T : TreeK K C) (I : InstAt h x ox C (some od)) (k : ∀ t', Q (.ref C) (St c h t')) : Wp w A (getAttr (.ref x) "__class__" expr) Q (St c h t) := by
  refine ⟨wpAny_bind (wpAny_mkText (s := St c h t) (getBy X T I (class_is X T I ?_)))⟩
  show wpAny _ _ (handedOut (.ref C)) _ _ _
  exact wpAny_pure (k _)
/-- a method of the class, met on a tree -/
theorem get_meth {Q : Value × List Value → Shared → Prop} {f : Addr} {pl : Sem Bool} {l : Str} (X : K.In h) (T : TreeK K C) (I : InstAt h x ox C (some od)) (L : lblO l od) (hn : ("_label" : Str) ≠ name) (hf : findIn K (.ref C) name = some (some (.ref f))) (ht : isFn K (.ref f) = true)
    (hd : ∃ dx, ox.dict = some dx ∧ h.get? dx = some od) (k : Q (.ref f, [.ref x]) (St c h t)) : Wp w A (getMethod (.ref x) name pl) Q (St c h t) := by
  have L0 := I.type (M := model prg w)
  have L1 := looks_findIn (M := model prg w) X T.ga
  have L2 := looks_findIn (M := model prg w) X T.gm
  have L3 := looks_findIn (M := model prg w) X hf
  have L4 := looks_typeIn (M := model prg w) X (beq_iff_eq.mp ht)
  obtain ⟨dx, e1, e2⟩ := hd
  refine ⟨?_⟩
  unfold getMethod specialOf
  refine wpAny_bind (wpAny_bind (L0.at (L1.at ?_)))
  try dsimp only
  rw [canon_lga, if_neg (by decide)]
  refine wpAny_bind (wpAny_bind (L0.at (L2.at ?_)))
  try dsimp only
  rw [if_neg (by decide)]
  refine wpAny_bind (wpAny_bind (L0.at (L3.at ?_)))
  try dsimp only
  refine wpAny_bind (L4.at ?_)
  rw [if_neg (by decide)]
  refine wpAny_bind (wpAny_loadPart I.at_ ?_)
  rw [e1]
  have LK := L.look name
  rw [if_neg hn] at LK
  refine wpAny_bind (wpAny_bind (wpAny_loadPart e2 ?_))
  rw [nsLook_of LK]
  refine wpAny_pure ?_
  simp only [Option.isSome_none, Bool.false_eq_true, if_false]
  exact wpAny_bind (wpAny_rule (wpAny_pure k))
end
end TL

end
section
open PySem PySem.W PyProof.Rows PySem.Calls Builtin Builtin.ObjectAttr
set_option maxRecDepth 100000
set_option linter.unusedVariables false
namespace TL
open TL
section
variable {w : World} {A : Around} {E : Value → Shared → Prop} {K : Frag} {x C f : Addr} {ox od : Obj} {h : Heap} {c : Shared} {t : Tok} {name : Str} {vs : List Value}
theorem tree_sub {M : Model} (X : K.In h) (T : TreeK K C) (I : InstAt h x ox C (some od)) : Looks M h (isInstance (.ref x) (.type "list")) true := I.type.andThen (looks_subIn X (subs T _))

theorem kind_iter : builtinKind "list.__iter__" = some .slot := by decide +kernel
theorem split_iter : splitId "list.__iter__" = some ("list", "__iter__") := by decide +kernel
theorem kind_llen : builtinKind "list.__len__" = some .slot := by decide +kernel
theorem split_llen : splitId "list.__len__" = some ("list", "__len__") := by decide +kernel

/-- iter(x), x a tree -/
theorem iTreeW {Q : Value → Shared → Prop} (X : K.In h) (T : TreeK K C) (I : InstAt h x ox C (some od)) (k : Q (.ref h.objs.size) (St c (h.push { cls := .type "list_iterator", data := .fields #[.ref x, .int 0 0] }) t)) : Wp w A (pyIter (.ref x)) Q (St c h t) := by
  have L0 := I.type (M := model prg w)
  have L1 := looks_findIn (M := model prg w) X T.it
  refine ⟨?_⟩
  unfold pyIter specialOf
  refine wpAny_bind (wpAny_bind (L0.at (L1.at ?_)))
  have body : ∀ Q', (∀ it s', Q' (some it) s' → Q' (some it) s') → Q' (some (.ref h.objs.size)) (St c (h.push { cls := .type "list_iterator", data := .fields #[.ref x, .int 0 0] }) t) →
      wpAny (model prg w) A (callSpecialIfBoundUnlessNone? (.ref x) "__iter__" (do rule "iter.none"; raiseError "TypeError" s!"'{← typeNameOf (.ref x)}' object is not iterable")) Q' (fun _ _ => False) (St c h t) := by
    intro Q' _ q
    unfold callSpecialIfBoundUnlessNone? bindSpecialIfBound? specialOf
    refine wpAny_holding (wpAny_bind (wpAny_bind (wpAny_bind (L0.at (L1.at ?_)))))
    have fin : wpAny (model prg w) A (call (.builtin "list.__iter__") [.ref x]) (fun v s' => Q' (some v) s') (fun _ _ => False) (St c h t) := by
      refine wpAny_call (codeAny_call_builtin slot_list_iter.plain entry_list_iter (@check_slot (model prg w) _ _ (St c h t) "list.__iter__" "list" "__iter__" (.ref x) [] [] _ kind_iter split_iter (tree_sub X T I) (args_list_iter _) ?_))
      show wpAny _ _ (do ret (← newFields "list_iterator" [.ref x, rawInt 0])) _ _ _
      exact wpAny_bind (wpAny_newObj_type (wpAny_pure q))
    have bnd : bindSpecial (.builtin "list.__iter__") (.ref x) = pure (.builtin "list.__iter__", [.ref x]) := slot_list_iter.bind _
    try dsimp only
    refine wpAny_bind (wpAny_askSetting ?_)
    have tail : wpAny (model prg w) A (do
        let g ← bindSpecial (.builtin "list.__iter__") (.ref x)
        pure (some g)) (fun r s' => wpAny (model prg w) A (do
          let some (g, first) := r | return none
          if g == .none then return some (← (do rule "iter.none"; raiseError "TypeError" s!"'{← typeNameOf (.ref x)}' object is not iterable"))
          return some (← call g first)) Q' (fun _ _ => False) s') (fun _ _ => False) (St c h t) := by
      rw [bnd]
      refine wpAny_bind (wpAny_pure (wpAny_pure ?_))
      dsimp only
      rw [if_neg (by decide)]
      exact wpAny_bind (wpAny_mono fin (fun v s' q => wpAny_pure q) fun _ _ z => z)
    refine wpAny_ite ?_
    split
    · exact tail
    · exact wpAny_tryCatch (wpAny_mono tail (fun _ _ q => q) fun _ _ z => z.elim)
  refine wpAny_bind (body _ (fun _ _ q => q) ?_)
  have hI : ((h.push { cls := .type "list_iterator", data := .fields #[.ref x, .int 0 0] }).get? h.objs.size) = some { cls := .type "list_iterator", data := .fields #[.ref x, .int 0 0] } := Heap.get?_push_size _ rfl
  refine wpAny_bind (wpAny_specialOf (T := "list_iterator") ⟨_, hI, rfl⟩ slot_listiter_next.lookup (wpAny_pure k))

/-- len(x), x a tree -/
theorem cLenT {Q : Value → Shared → Prop} {dx : Addr} (X : K.In h) (T : TreeK K C) (I : InstAt h x ox C (some od)) (ho : treeO C dx vs ox) (hz : (vs.length : Int) < 2 ^ 63) (k : ∀ u t', Q (.int vs.length u) (St c h t')) :
    Wp w A (call (.builtin "len") [.ref x]) Q (St c h t) := by
  have L0 := I.type (M := model prg w)
  have L1 := looks_findIn (M := model prg w) X T.ln
  obtain ⟨n, rfl⟩ := ho
  refine ⟨call_function_entry kind_len plain_len entry_len (args_len1 _) ?_⟩
  unfold Builtin.«len»
  refine wpAny_bind (m := oneArg "len" _) (wpAny_pure ?_)
  refine wpAny_bind (m := callSpecial? (.ref x) (Str.ofString "__len__")) ?_
  unfold callSpecial? specialOf
  refine wpAny_bind (wpAny_bind (L0.at (L1.at ?_)))
  try dsimp only
  refine wpAny_holding (wpAny_bind ?_)
  rw [show bindSpecial (.builtin "list.__len__") (.ref x) = pure (.builtin "list.__len__", [.ref x]) from slot_list_len.bind _]
  refine wpAny_pure (wpAny_bind (wpAny_call (codeAny_call_builtin slot_list_len.plain entry_list_len (@check_slot (model prg w) _ _ (St c h t) "list.__len__" "list" "__len__" (.ref x) [] [] _ kind_llen split_llen (tree_sub X T I) (args_list_len _) ?_))))
  show wpAny _ _ (do retInt (← seqSize x)) _ _ _
  unfold seqSize
  refine wpAny_bind (wpAny_bind (wpAny_load I.at_ ?_))
  refine wpAny_pure (wpAny_bind (wpAny_mkInt (wpAny_pure (wpAny_pure ?_))))
  refine wpAny_bind (wpAny_holding (wpAny_pure ?_))
  refine wpAny_bind (wpAny_letGo ?_)
  have e : ((vs.toArray.size : Nat) : Int) = vs.length := by simp
  show wpAny _ _ (if ((vs.toArray.size : Nat) : Int) < 0 then _ else _) _ _ _
  rw [if_neg (by omega)]
  show wpAny _ _ (if ((vs.toArray.size : Nat) : Int) ≥ 2 ^ 63 then _ else _) _ _ _
  rw [if_neg (by omega)]
  refine wpAny_bind (wpAny_mkInt (wpAny_pure ⟨_, rfl, ?_⟩))
  have := k (t + 1) (t + 1 + 1)
  rw [← e] at this
  exact this

/-- a special method of the class that is a def -/
theorem specT {Q : Option Value → Shared → Prop} {args : List Value} (X : K.In h) (I : InstAt h x ox C (some od)) (hs : findIn K (.ref C) name = some (some (.ref f))) (hf : typeIn K (.ref f) = some (.type "function"))
    (k : Wp w A (call (.ref f) (.ref x :: args)) (fun v s' => Q (some v) s') (St c h t)) : Wp w A (callSpecial? (.ref x) name args) Q (St c h t) :=
  ⟨special_fn (s := St c h t) X I hs hf k.go⟩
theorem seqKeyT {M : Model} {A : Around} {E : Value → Shared → Prop} {Q : Value → Shared → Prop} {v : Value} {nm : Str} (X : K.In h) (T : TreeK K C) (I : InstAt h x ox C (some od)) (k : Q v (St c h t)) : wpAny M A (sequenceKey (.ref x) v nm) Q E (St c h t) := by
  have L0 := I.type (M := M)
  have L1 := looks_subIn (M := M) X (subs T (.type "collections.deque"))
  unfold sequenceKey
  refine wpAny_bind (L0.at ?_)
  try dsimp only
  refine wpAny_bind ?_
  unfold seqItemTypes
  rw [List.anyM_cons]
  refine wpAny_bind (L1.at ?_)
  rw [show [Value.ref C, .type "list", .type "object"].contains (.type "collections.deque") = false from rfl]
  try dsimp only
  refine wpAny_pure ?_
  rw [if_pos (show (!false) = true from rfl)]
  exact wpAny_pure k
/-- x[v], x a tree, by the class's own def -/
theorem getItemT {Q : Value → Shared → Prop} {v : Value} (X : K.In h) (T : TreeK K C) (I : InstAt h x ox C (some od)) (hs : findIn K (.ref C) "__getitem__" = some (some (.ref f))) (hf : typeIn K (.ref f) = some (.type "function"))
    (k : Wp w A (call (.ref f) [.ref x, v]) Q (St c h t)) : Wp w A (getItem (.ref x) v) Q (St c h t) := by
  refine ⟨?_⟩
  unfold getItem
  exact wpAny_holding (wpAny_bind (seqKeyT X T I (wpAny_bind (specT X I hs hf (k.mono fun v s' q => wpAny_pure q)).go)))
theorem setItemT {Q : Unit → Shared → Prop} {v u : Value} (X : K.In h) (T : TreeK K C) (I : InstAt h x ox C (some od)) (hs : findIn K (.ref C) "__setitem__" = some (some (.ref f))) (hf : typeIn K (.ref f) = some (.type "function"))
    (k : Wp w A (call (.ref f) [.ref x, v, u]) (fun _ s' => Q () s') (St c h t)) : Wp w A (setItem (.ref x) v u) Q (St c h t) := by
  refine ⟨?_⟩
  unfold setItem
  exact wpAny_holding (wpAny_bind (seqKeyT X T I (wpAny_bind (specT X I hs hf (k.mono fun v s' q => wpAny_pure q)).go)))
/-- x[i] as an expression, x a tree, i no slice -/
theorem tItemT {Q : Value → Shared → Prop} {value slice : Expr} {i : Value} (X : K.In h) (I : InstAt h x ox C (some od)) (hs : findIn K (.ref C) "__getitem__" = some (some (.ref f))) (hf : typeIn K (.ref f) = some (.type "function")) (hn : fnIn K f = true) (hsl : noSl slice = true)
    (k : Wp w A.in1 (call (.ref f) [.ref x, i]) Q (St c h t)) : Wp w A (subscriptTail value slice (.ref x) i) Q (St c h t) := by
  unfold fnIn at hn
  split at hn
  · rename_i e
    refine ⟨?_⟩
    have L0 := I.type (M := model prg w)
    have L1 := looks_findIn (M := model prg w) X hs
    unfold subscriptTail getitemInPython specialOf
    refine wpAny_bind (wpAny_bind (wpAny_bind (L0.at (L1.at ?_))))
    try dsimp only
    refine wpAny_bind (wpAny_load (X _ _ e) (wpAny_pure ?_))
    try dsimp only
    rw [show subscripted slice true (.ref x) i = runValue (.builtin "lifetime.subscript" ⟨[.ref x, i], []⟩) from by cases slice <;> first | rfl | cases hsl]
    refine wpAny_bind (wpAny_runValue (codeAny_builtin entry_sub ?_))
    unfold Builtin.«lifetime.subscript»
    refine wpAny_bind (special_fn (s := St c h t) X I hs hf (k.to fun v s' z => ?_))
    refine wpAny_pure ?_
    show wpAny (model prg w) A (letTemporaryGo value (.ref x) v >>= fun _ => pure v) Q _ s'
    exact wpAny_bind (wpAny_letTemporaryGo (wpAny_pure z))
  · cases hn
end
end TL

end
section
open PySem PySem.W PyProof.Rows PySem.Calls Builtin Builtin.ObjectAttr
set_option maxRecDepth 100000
set_option linter.unusedVariables false
namespace TL
open TL
theorem nw_kind : builtinKind "list.__new__" = some .builtinFn := by decide +kernel
theorem nw_split : splitId "list.__new__" = some ("list", "__new__") := by decide +kernel
abbrev nwSig : Manifest.Signature := ⟨.any, "list", "list", .cls, [{ name := "args", kind := .varPos, required := false }, { name := "kwargs", kind := .varKw, required := false }]⟩
theorem nw_row : Manifest.signature? "list.__new__" = some nwSig := by kernel_rfl
theorem nw_args (C : Addr) (a b : Value) : Bind.checkArgs "list.__new__" nwSig ⟨[.ref C, a, b], []⟩ = pure () := by kernel_rfl
theorem nw_quiet : "list.__new__".startsWith "lifetime." = false := by decide +kernel

/-- a new tree, empty, its dict empty -/
abbrev bareT (C dx : Addr) : Obj := { cls := .ref C, dict := some dx, data := .seq #[] }
section
variable {w : World} {A : Around} {K : Frag} {C : Addr} {h : Heap} {c : Shared} {t : Tok} {a b : Value}
theorem newT {R : Result → Shared → Prop} (X : K.In h) (T : TreeK K C) (k : R (.ok (.ret (.ref (h.objs.size + 1)))) (St c ((h.push emptyDict).push (bareT C h.objs.size)) t)) :
    codeAny (model prg w) A (.call (.builtin "list.__new__") ⟨[.ref C, a, b], []⟩) R (St c h t) := by
  obtain ⟨oc, od, cd, sl, hl, hs⟩ := T.slot
  obtain ⟨cd', h1, h2, h3, h4, h5⟩ := T.cd
  have hcd : cd' = cd := by unfold clsIn at h1; rw [hl] at h1; exact (Option.some.inj h1).symm
  subst hcd
  have hC := X _ _ hl
  have hm : Looks (model prg w) h (mroOf (.ref C)) [.ref C, .type "list", .type "object"] := h2 ▸ (looks_clsIn X h1).andThen .now
  have made : Looks (model prg w) h (Bind.madeBy (.ref C)) (some "list.__new__") := by
    intro A Q E s k q
    unfold Bind.madeBy
    refine wpAny_bind (hm A _ E s k ?_)
    rw [List.forIn_cons]
    refine wpAny_bind (wpAny_bind (wpAny_bind (wpAny_bind (wpAny_loadPart (k _ _ hC) (wpAny_pure ?_)))))
    dsimp only
    rw [← Array.getElem?_toList, hs]
    exact wpAny_pure (wpAny_pure (wpAny_pure q))
  have base : Looks (model prg w) h (Bind.staticBase (.ref C)) (.ref C) := by
    intro A Q E s k q
    unfold Bind.staticBase
    refine wpAny_bind (hm A _ E s k ?_)
    rw [List.forIn_cons]
    exact wpAny_bind (wpAny_bind (wpAny_bind (made A _ E s k (wpAny_pure (wpAny_pure (wpAny_pure q))))))
  have sub : Looks (model prg w) h (isSubtype (.ref C) (.type "list")) true := looks_subIn X (subs T _)
  have isT : Looks (model prg w) h (isType (.ref C)) true := (Looks.ld hC).andThen .now
  refine codeAny_call_builtin_code (Code.quiet_builtin _ nw_quiet) ?_
  simp only [checkBuiltinCall, nw_kind, nw_split, nw_row]
  rw [nw_args C a b]
  repeat (first | simp only [bne_self_eq_false, Bool.false_eq_true, if_false] | lk)
  refine codeAny_builtin_stack F.entry_list_new rfl fun p st => ?_
  have hown := owner_list_new
  simp only [hown]
  refine wpAny_bind (isT.at ?_)
  try dsimp only
  refine wpAny_bind (sub.at ?_)
  rw [if_neg (by decide)]
  refine wpAny_bind (wpAny_pure ?_)
  rw [if_neg (show ¬ ((!typeHasDict (.ref C)) = true) from Bool.false_ne_true)]
  refine wpAny_bind ?_
  unfold newDict
  refine wpAny_newObj_type ?_
  try dsimp only
  refine wpAny_bind ?_
  show wpAny _ _ (newObjAsIs (.ref C) (.seq #[]) (some h.objs.size)) _ _ _
  unfold newObjAsIs classHasDel
  refine wpAny_bind (wpAny_alloc ?_)
  try dsimp only
  refine wpAny_bind (wpAny_bind (wpAny_load (Heap.get?_push_of_some _ (Heap.get?_push_of_some _ hC)) (wpAny_pure ?_)))
  rw [h4]
  refine wpAny_pure (wpAny_pure ?_)
  show R _ _
  rw [Heap.size_push]
  exact k

/-- C(a, b): the new tree goes to the class's own __init__ -/
theorem makeT {Q : Value → Shared → Prop} {f : Addr} (X : K.In h) (T : TreeK K C) (hi : findIn K (.ref C) "__init__" = some (some (.ref f))) (hf : typeIn K (.ref f) = some (.type "function")) {n : Nat} (room : Room A (n + 1))
    (k : ∀ A', Room A' n → codeAny (model prg w) A' (.call (.ref f) ⟨[.ref (h.objs.size + 1), a, b], []⟩) (fun r s' => r = .ok (.ret .none) ∧ Q (.ref (h.objs.size + 1)) s') (St c ((h.push emptyDict).push (bareT C h.objs.size)) t)) :
    Wp w A (call (.ref C) [a, b]) Q (St c h t) := by
  obtain ⟨oc, od, cd, sl, hl, hs⟩ := T.slot
  obtain ⟨cd', h1, h2, h3, h4, h5⟩ := T.cd
  have hcd : cd' = cd := by unfold clsIn at h1; rw [hl] at h1; exact (Option.some.inj h1).symm
  subst hcd
  have hC := X _ _ hl
  have hm : Looks (model prg w) h (mroOf (.ref C)) [.ref C, .type "list", .type "object"] := h2 ▸ (looks_clsIn X h1).andThen .now
  have made : Looks (model prg w) h (Bind.madeBy (.ref C)) (some "list.__new__") := by
    intro A Q E s k q
    unfold Bind.madeBy
    refine wpAny_bind (hm A _ E s k ?_)
    rw [List.forIn_cons]
    refine wpAny_bind (wpAny_bind (wpAny_bind (wpAny_bind (wpAny_loadPart (k _ _ hC) (wpAny_pure ?_)))))
    dsimp only
    rw [← Array.getElem?_toList, hs]
    exact wpAny_pure (wpAny_pure (wpAny_pure q))
  have call : Looks (model prg w) h (specialOf (.ref C) "__call__") (some (.builtin "type.__call__")) := looks_specialIn X T.call
  have typ : Looks (model prg w) h (isInstance (.ref C) (.type "type")) true := looks_instIn X T.typ
  have self : Looks (model prg w) h (isSubtype (.ref C) (.ref C)) true := by
    have := looks_subIn (M := model prg w) X (subs T (.ref C))
    rwa [show [Value.ref C, .type "list", .type "object"].contains (.ref C) = true from by simp] at this
  refine ⟨wpAny_call (codeAny_of_tree ?_)⟩
  show wpAny _ _ (callAny (.ref C) _) _ _ _
  refine nd_load hC ?_
  show wpAny _ _ (callAny.viaDunder (.ref C) _) _ _ _
  unfold callAny.viaDunder
  refine wpAny_bind (call.at ?_)
  try dsimp only
  rw [tc_bind]
  refine wpAny_bind (wpAny_pure (wpAny_bind (wpAny_pure ?_)))
  refine wpAny_pure (a := Fin.again (.call (.builtin "type.__call__") ⟨.ref C :: [a, b], []⟩)) (And.intro rfl ?_)
  refine codeAny_call_builtin_at (Code.quiet_builtin _ (by decide +kernel)) entry_typeCall (check_slot tc_kind tc_split typ (tc_args _ _ _) ?_)
  unfold Builtin.«type.__call__»
  repeat (first | simp only [Bool.false_eq_true, if_false] | with_reducible refine wpAny_call ?_ | lk)
  refine newT X T ?_
  have kp : Le h ((h.push emptyDict).push (bareT C h.objs.size)) := fun b o e => Heap.get?_push_of_some _ (Heap.get?_push_of_some _ e)
  have hx : ((h.push emptyDict).push (bareT C h.objs.size)).get? (h.objs.size + 1) = some (bareT C h.objs.size) := by heap_get
  have t1 : Looks (model prg w) ((h.push emptyDict).push (bareT C h.objs.size)) (typeOf (.ref (h.objs.size + 1))) (.ref C) := (Looks.ld hx).andThen .now
  have s1 := self.keeps kp
  have i1 := (looks_findIn (M := model prg w) X hi).keeps kp
  have b1 := (bind_fn (M := model prg w) X (.ref (h.objs.size + 1)) hf).keeps kp
  unfold isInstance callSpecial? specialOf
  repeat (first | with_reducible refine wpAny_call ?_ | lk)
  refine codeAny_mono (k _ ⟨room.1, ?_, ?_⟩) fun r s' z => ?_
  · have := room.2; show A.depth + 1 + 4 * n ≤ 990; omega
  · have := room.3; show A.units + 1 + 50 * n ≤ 9800; omega
  obtain ⟨rfl, z⟩ := z
  exact wpAny_pure (wpAny_pure z)
end
end TL

end
section
open PySem PySem.W PyProof.Rows PySem.Calls Builtin Builtin.ObjectAttr
set_option maxRecDepth 100000
set_option linter.unusedVariables false
set_option linter.unusedSimpArgs false
namespace TL
open TL
/-! tests -/
def plainTest : Expr → Bool
  | .UnaryOp .Not _ _ => false
  | .BoolOp .. => false
  | .IfExp .. => false
  | .Compare .. => false
  | _ => true
section
variable {w : World} {A : Around} {env : Env} {s : Shared} {pos : Pos} {whole : Sem Value} {Q : Bool → Shared → Prop}
theorem tVal {e : Expr} (k : Wp w A (eval e env) (fun v s₁ => Wp w A (truthy v) Q s₁) s) (he : plainTest e = true := by rfl) : Wp w A (isTrue e env (eval e env)) Q s := by
  refine ⟨wpAny_isTrue_value (k.to fun _ _ k => k.go) ?_⟩
  cases e with
  | UnaryOp op x p => cases op <;> first | rfl | cases he
  | _ => first | rfl | cases he
theorem tBool {b : Bool} (k : Q b s) : Wp w A (truthy (.bool b)) Q s := ⟨wpAny_truthy_bool k⟩
theorem tNot {x : Expr} (k : Wp w A (isTrue x env (eval x env)) (fun b s₁ => Q (!b) s₁) s) : Wp w A (isTrue (.UnaryOp .Not x pos) env whole) Q s := ⟨wpAny_isTrue_Not k.go⟩
theorem tBoolOp {op : BoolOp} {es : List Expr} (k : Wp w A (allTrue op es env) Q s) : Wp w A (isTrue (.BoolOp op es pos) env whole) Q s := ⟨wpAny_isTrue_BoolOp k.go⟩
def andK (w : World) (A : Around) (rest : List Expr) (env : Env) (Q : Bool → Shared → Prop) : Bool → Shared → Prop
  | true, s => Wp w A (allTrue .And rest env) Q s
  | false, s => Q false s
def orK (w : World) (A : Around) (rest : List Expr) (env : Env) (Q : Bool → Shared → Prop) : Bool → Shared → Prop
  | true, s => Q true s
  | false, s => Wp w A (allTrue .Or rest env) Q s
theorem andB {b : Bool} {rest : List Expr} (t : b = true → Wp w A (allTrue .And rest env) Q s) (f : b = false → Q false s) : andK w A rest env Q b s := by cases b <;> first | exact t rfl | exact f rfl
theorem orB {b : Bool} {rest : List Expr} (t : b = true → Q true s) (f : b = false → Wp w A (allTrue .Or rest env) Q s) : orK w A rest env Q b s := by cases b <;> first | exact t rfl | exact f rfl
theorem ifB {b : Bool} {body orelse : List Stmt} {Q : Flow → Shared → Prop} (t : b = true → Wp w A (execs body env) Q s) (f : b = false → Wp w A (execs orelse env) Q s) : onTest w A body orelse env Q b s := by cases b <;> first | exact t rfl | exact f rfl
theorem tAnd {x : Expr} {rest : List Expr} (k : Wp w A (isTrue x env (eval x env)) (andK w A rest env Q) s) : Wp w A (allTrue .And (x :: rest) env) Q s :=
  ⟨wpAny_allTrue_And_cons (k.to fun b _ k => by cases b <;> first | exact k.go | exact k)⟩
theorem tOr {x : Expr} {rest : List Expr} (k : Wp w A (isTrue x env (eval x env)) (orK w A rest env Q) s) : Wp w A (allTrue .Or (x :: rest) env) Q s :=
  ⟨wpAny_allTrue_Or_cons (k.to fun b _ k => by cases b <;> first | exact k.go | exact k)⟩
theorem tAnd0 (k : Q true s) : Wp w A (allTrue .And [] env) Q s := ⟨wpAny_allTrue_And_nil k⟩
theorem tOr0 (k : Q false s) : Wp w A (allTrue .Or [] env) Q s := ⟨wpAny_allTrue_Or_nil k⟩
def isIn2 : CmpOp → Bool
  | .In => true
  | .NotIn => true
  | _ => false
theorem noIn {op : CmpOp} {r : Expr} (ho : isIn2 op = false) : behindInMarks op r = false := by
  have e : (op == CmpOp.In || op == CmpOp.NotIn) = false := by cases op <;> first | rfl | cases ho
  unfold behindInMarks
  split
  · rw [e, Bool.and_false, Bool.false_and]
  · rfl
theorem tCmp {l r : Expr} {op : CmpOp} (k : Wp w A (eval l env) (fun a s₁ => Wp w A (eval r env) (fun b s₂ => Wp w A (compareOp op a b) (fun v s₃ => Wp w A (truthy v) Q s₃) s₂) s₁) s) (ho : isIn2 op = false := by rfl) :
    Wp w A (isTrue (.Compare l [op] [r] pos) env whole) Q s :=
  ⟨wpAny_isTrue_Compare1 (k.to fun _ _ k => k.to fun _ _ k => k.to fun _ _ k => k.go) (noIn ho)⟩
theorem eCmp {l r : Expr} {op : CmpOp} {Q : Value → Shared → Prop} (k : Wp w A (eval l env) (fun a s₁ => Wp w A (eval r env) (fun b s₂ => Wp w A (compareOp op a b) Q s₂) s₁) s) (ho : isIn2 op = false := by rfl) :
    Wp w A (eval (.Compare l [op] [r] pos) env) Q s :=
  ⟨wpAny_Compare1 (k.to fun _ _ k => k.to fun _ _ k => k.go) (noIn ho)⟩
theorem eNot {x : Expr} {Q : Value → Shared → Prop} (k : Wp w A (eval x env) (fun v s₁ => Wp w A (truthy v) (fun b s₂ => Q (.bool (!b)) s₂) s₁) s) : Wp w A (eval (.UnaryOp .Not x pos) env) Q s := by
  refine ⟨?_⟩
  show wpAny _ _ (do let v ← eval x env; standAt pos; holding [v] (unaryOp .Not v)) _ _ _
  exact wpAny_bind (k.to fun _ _ k => wpAny_bind (wpAny_standAt (wpAny_holding (not_of k.go))))
end

/-! method calls, attributes, expression statements -/
def noSup : Expr → Bool
  | .Call (.Name _ _) [] [] _ => false
  | _ => true
theorem noSup_eq {o : Expr} {attr : Str} {env : Env} {whole : Sem Value} (h : noSup o = true) : attributeBase o attr env whole = whole := by
  unfold attributeBase
  split
  · cases h
  · rfl
section
variable {w : World} {A : Around} {env : Env} {s : Shared} {pos apos : Pos}
theorem eAttr {o : Expr} {attr : Str} {Q : Value → Shared → Prop} (k : Wp w A (eval o env) (fun ov s₁ => Wp w A (getAttr ov attr true) Q s₁) s) (hb : noSup o = true := by rfl) : Wp w A (eval (.Attribute o attr pos) env) Q s :=
  ⟨Attribute_any_ (k.to fun _ _ k => k.go) (by rw [arm_eval_Attribute, noSup_eq hb])⟩
theorem eMeth {o : Expr} {name : Str} {args : List Expr} {Q : Value → Shared → Prop} (hl : (apos.endLine == pos.line) = true) (hs : args.any isStar = false) (hn : args.length < 30)
    (k : Wp w A (eval o env) (fun ov s₁ => Wp w A (getMethod ov name (do return (← importBound o env).getD true)) (fun fx s₂ => Wp w A (callWith pos fx.1 fx.2 (backTo pos (starEach args env)) []) Q s₂) s₁) s) (hb : noSup o = true := by rfl) :
    Wp w A (eval (.Call (.Attribute o name apos) args [] pos) env) Q s := by
  refine ⟨?_⟩
  rw [arm_eval_Call, noSup_eq hb]
  refine wpAny_bind (k.to fun ov s₁ k => wpAny_bind (wpAny_standAt ?_))
  have hform : methodCallForm (args.length + ([] : List Keyword).length) (backTo pos (starEach args env)) (backToKw pos (keywordEach [] env)) = true := by
    have h1 := no_stars (env := env) (pos := pos) hs
    unfold methodCallForm
    rw [Bool.and_eq_true, Bool.and_eq_true]
    refine ⟨⟨?_, rfl⟩, ?_⟩
    · rw [List.all_eq_not_any_not]
      simp only [Bool.not_not]
      rw [h1]; rfl
    · show decide (args.length + 0 + 0 < 30) = true
      exact decide_eq_true (by omega)
  have hpos : methodCallPos true o env apos pos = pure pos := by unfold methodCallPos; simp [hl]
  unfold methodCall
  rw [hform]
  refine wpAny_bind (wpAny_holding (k.to fun fx s₂ k => ?_))
  obtain ⟨f, first⟩ := fx
  exact wpAny_bind (wpAny_of_eq hpos k.go)
theorem xExpr {e : Expr} {rest : List Stmt} {Q : Flow → Shared → Prop} (hk : env.scope.kind = .function) (k : Wp w A (eval e env) (fun _ s₁ => Wp w A (execs rest env) Q s₁) s) (hs : isComp e = false := by rfl) : Wp w A (execs (.Expr e pos :: rest) env) Q s :=
  ⟨wpAny_execs_cons (wpAny_Expr_any (k.to fun _ _ k => k.go) (by unfold interactive; rw [hk]; rfl) (no_swap hs))⟩
theorem cwB {id : String} {first : List Value} {e : Expr} {es : List Expr} {Q : Value → Shared → Prop} (k : Wp w A (spliced (backTo pos (starEach (e :: es) env))) (fun vs s₁ => Wp w A (call (.builtin id) (first ++ vs)) Q s₁) s) (he : (e :: es).any isStar = false := by rfl) :
    Wp w A (callWith pos (.builtin id) first (backTo pos (starEach (e :: es) env)) []) Q s := by
  have hp := no_stars (env := env) (pos := pos) he
  rw [List.any_cons, Bool.or_eq_false_iff] at he
  rw [no_star he.1] at k hp ⊢
  exact ⟨callWith_builtin hp (evalArgs_plain (k.to fun _ _ k => k.go))⟩
theorem cwB0 {id : String} {first : List Value} {Q : Value → Shared → Prop} (k : Wp w A (call (.builtin id) (first ++ [])) Q s) : Wp w A (callWith pos (.builtin id) first (backTo pos (starEach [] env)) []) Q s :=
  ⟨callWith_builtin rfl (PySem.evalArgs_none k.go)⟩
theorem cwF {K : Frag} {f : Addr} {st : Stmt} {first : List Value} {e : Expr} {es : List Expr} {h₀ : Heap} {Q : Value → Shared → Prop} (X : K.In h₀) (hk : keepIn K (.ref f) = true) (k : Wp w A (spliced (backTo pos (starEach (e :: es) env))) (fun vs s₁ => K.In s₁.heap ∧ Wp w A (call (.ref f) (first ++ vs)) Q s₁) s) (he : (e :: es).any isStar = false := by rfl) :
    Wp w A (callWith pos (.ref f) first (backTo pos (starEach (e :: es) env)) []) Q s := by
  rw [List.any_cons, Bool.or_eq_false_iff] at he
  exact ⟨callWith_K X hk (k.to fun _ _ k => ⟨k.1, k.2.go⟩) (no_star he.1) (no_stars he.2)⟩
theorem cwF0 {K : Frag} {f : Addr} {first : List Value} {Q : Value → Shared → Prop} (X : K.In s.heap) (hk : keepIn K (.ref f) = true) (k : Wp w A (call (.ref f) (first ++ [])) Q s) :
    Wp w A (callWith pos (.ref f) first (backTo pos (starEach [] env)) []) Q s := ⟨callWith_K0 X hk k.go⟩
end

/-! is, isinstance -/
section
variable {w : World} {A : Around} {h : Heap} {c : Shared} {t : Tok} {Q : Value → Shared → Prop} {v cls ty : Value} {s : Shared} {K : Frag} {C x : Addr} {ox od : Obj}
theorem oIsNoneF {a : Addr} (k : Q (.bool false) s) : Wp w A (compareOp .Is (.ref a) .none) Q s := ⟨wpAny_is_other rfl (by intro e; cases e) k⟩
theorem oIsNoneT (k : Q (.bool true) s) : Wp w A (compareOp .Is .none .none) Q s := ⟨wpAny_is_self rfl k⟩
theorem oIsSelf {a : Addr} (k : Q (.bool true) s) : Wp w A (compareOp .Is (.ref a) (.ref a)) Q s := ⟨wpAny_is_ref_self k⟩

/-- the inner question says b -/
def Says (w : World) (c : Shared) (h : Heap) (v cls : Value) (b : Bool) : Prop :=
  ∀ (A : Around) (E : Value → Shared → Prop) (t : Tok) (dep : Int) (tk : Tok) (Q : Fin → Shared → Prop), (∀ t', Q (.done (.ret (.bool b))) (St c h t')) → wpAny (model prg w) A (Builtin.«isinstance.nested» ⟨[v, cls, .int dep tk], []⟩) Q E (St c h t)
/-- the same at the outer question's depth -/
def Says0 (w : World) (c : Shared) (h : Heap) (v cls : Value) (b : Bool) : Prop :=
  ∀ (A : Around) (E : Value → Shared → Prop) (t : Tok) (tk : Tok) (Q : Fin → Shared → Prop), (∀ t', Q (.done (.ret (.bool b))) (St c h t')) → wpAny (model prg w) A (Builtin.«isinstance.nested» ⟨[v, cls, .int 0 tk], []⟩) Q E (St c h t)
theorem Says.at0 {b : Bool} (S : Says w c h v cls b) : Says0 w c h v cls b := fun A E t tk Q k => S A E t 0 tk Q k
theorem isiGo {b : Bool} (S : Says0 w c h v cls b) (q : ∀ t', Q (.bool b) (St c h t')) (hx : v ≠ .builtin "__main__.__loader__#opaque" := by intro e; cases e) : Wp w A (call (.builtin "isinstance") [v, cls]) Q (St c h t) := by
  refine ⟨wpAny_call (codeAny_call_builtin PySem.F.plain_isinstance PySem.F.entry_isinstance ?_)⟩
  simp only [checkBuiltinCall, PySem.F.kind_isinstance]
  have hfin := isinstance_outer (prog := prg) (w := w) (A := A) (s := St c h t) (x := v) (c := cls) (R := wants Q fun _ _ => False) (S A.in1 _ t 0 _ fun t' => q t') hx
  have ok := PySem.F.args_isinstance_2 v cls
  cases hsig : Manifest.signature? "isinstance" with
  | none => exact wpAny_pure hfin
  | some sig =>
    simp only [argsOk, hsig] at ok
    have h2 : Bind.checkArgs "isinstance" sig ⟨[v, cls], []⟩ = pure () := ok
    show wpAny _ _ (Bind.checkArgs "isinstance" sig ⟨[v, cls], []⟩) _ _ _
    rw [h2]; exact wpAny_pure hfin

theorem says_no (L0 : Looks (model prg w) h (typeOf v) ty) (ne : (ty == cls) = false) (L1 : Looks (model prg w) h (typeOf cls) (.type "type")) (L2 : Looks (model prg w) h (isType cls) true) (L3 : Looks (model prg w) h (isSubtype ty cls) false) (L4 : Looks (model prg w) h (isType ty) true)
    (LG : ∀ (A : Around) (E : Value → Shared → Prop) (t : Tok) (Q : Option Value → Shared → Prop), (∀ t', Q (some ty) (St c h t')) → wpAny (model prg w) A (getAttr? v "__class__") Q E (St c h t)) : Says w c h v cls false := by
  intro A E t dep tk Q k
  have L5 : Looks (model prg w) h (isInstance v cls) false := L0.andThen L3
  unfold Builtin.«isinstance.nested»
  refine wpAny_bind (L0.at ?_)
  rw [if_neg (by rw [ne]; decide)]
  refine wpAny_bind (L1.at ?_)
  rw [if_pos (by decide)]
  k_delta "plainIsInstance"
  refine wpAny_bind (wpAny_bind (L2.at ?_))
  rw [if_neg (by decide)]
  refine wpAny_bind (L5.at ?_)
  rw [if_neg (by decide)]
  refine wpAny_bind (LG _ _ _ _ fun t' => ?_)
  refine wpAny_bind (L4.at ?_)
  rw [if_neg (by decide)]
  exact wpAny_bind (wpAny_rule (L3.at (wpAny_pure (k _))))
end
end TL

end
section
open PySem PySem.W PyProof.Rows PySem.Calls Builtin Builtin.ObjectAttr
set_option maxRecDepth 100000
set_option linter.unusedVariables false
set_option linter.unusedSimpArgs false
namespace TL
open TL
theorem ty_str : typeOf (.type "str") = pure (.type "type") := by kernel_rfl
theorem ty_int : typeOf (.type "int") = pure (.type "type") := by kernel_rfl
theorem isT_of {n : String} (h : isType (.type n) = pure true) {M : Model} {hh : Heap} : Looks M hh (isType (.type n)) true := Looks.of_pure h
theorem isT_ref {K : Frag} {C : Addr} {cd : ClassData} {M : Model} {h : Heap} (X : K.In h) (hc : clsIn K C = some cd) : Looks M h (isType (.ref C)) true := by
  unfold clsIn at hc
  split at hc
  · rename_i ho; exact (Looks.ld (X _ _ ho)).andThen .now
  · cases hc

/-- a class of plain instances -/
structure PlainK (K : Frag) (C : Addr) : Prop where
  cd : ∃ cd, clsIn K C = some cd ∧ cd.mro = [.ref C, .type "object"] ∧ cd.hasDict = true
  ga : findIn K (.ref C) "__getattribute__" = some (some (.builtin "object.__getattribute__"))
  gm : findIn K (.ref C) "__getattr__" = some none
  cls : findIn K (.ref C) "__class__" = some (some (.builtin "object.__class__"))
  sa : findIn K (.ref C) "__setattr__" = some (some (.builtin "object.__setattr__"))
  typ : instIn K (.ref C) (.type "type") = some true
  makes : makesIn K C = true
theorem psubs {K : Frag} {C : Addr} (T : PlainK K C) (b : Value) : subIn K (.ref C) b = some ([Value.ref C, .type "object"].contains b) := by
  obtain ⟨cd, h1, h2, _⟩ := T.cd
  show mroIn K C b = _
  unfold mroIn
  rw [h1, Option.bind_some, h2]; rfl

section
variable {w : World} {A : Around} {E : Value → Shared → Prop} {K : Frag} {x C f : Addr} {ox od : Obj} {h : Heap} {c : Shared} {t : Tok} {name : Str} {vs : List Value} {v cls : Value}
theorem says_T {T Tx : String} (hx : ∀ t, (St c h t).TypeIs v Tx) (hty : typeOf (.type T) = pure (.type "type")) (hsub : isSubtype (.type Tx) (.type T) = pure true) : Says w c h v (.type T) true :=
  fun A E t dep tk Q k => isinstance_nested_true rfl (hx t) hty hsub (k t)
theorem sub_strstr : isSubtype (.type "str") (.type "str") = pure true := by rw [isSubtype_type]; kernel_rfl
theorem says_str {x : Str} {u : Tok} : Says w c h (.str x u) (.type "str") true := says_T (Tx := "str") (fun _ => rfl) ty_str sub_strstr
theorem says_list_str {l : Addr} {o : Obj} (h1 : h.get? l = some o) (h2 : o.cls = .type "list") : Says w c h (.ref l) (.type "str") false :=
  fun A E t dep tk Q k => isinstance_nested_false_list h1 h2 (by decide) ty_str (by rw [isSubtype_type]; kernel_rfl) (k _)
theorem says_str_cls {x : Str} {u : Tok} (X : K.In h) (e : isNotIn K "str" C = true) : Says w c h (.str x u) (.ref C) false :=
  fun A E t dep tk Q k => isn_nested (s := St c h t) (P := fun _ => True) X (Looks.of_pure rfl) e trivial str_cls (k _)
theorem says_self (X : K.In h) (I : InstAt h x ox C (some od)) : Says w c h (.ref x) (.ref C) true :=
  fun A E t dep tk Q k => isi_nested (s := St c h t) X I.type (by unfold isIn; rw [beq_self_eq_true, Bool.true_or]) (k _)

theorem gaq_tree (X : K.In h) (T : TreeK K C) (I : InstAt h x ox C (some od)) {Q : Option Value → Shared → Prop} (k : ∀ t', Q (some (.ref C)) (St c h t')) : wpAny (model prg w) A (getAttr? (.ref x) "__class__") Q E (St c h t) := by
  unfold getAttr? getAttrBy?
  refine wpAny_bind (wpAny_mkText (s := St c h t) (wpAny_bind (wpAny_attempt (getBy X T I (class_is X T I ?_)))))
  show wpAny _ _ (handedOut (.ref C)) _ _ _
  refine wpAny_pure ?_
  exact wpAny_pure (k _)
theorem says_tree_str (X : K.In h) (T : TreeK K C) (I : InstAt h x ox C (some od)) : Says w c h (.ref x) (.type "str") false :=
  says_no I.type rfl (Looks.of_pure ty_str) (Looks.of_pure rfl) (looks_subIn X (subs T _)) (let ⟨_, a, _⟩ := T.cd; isT_ref X a) fun A E t Q k => gaq_tree X T I k

theorem gaq_plain (X : K.In h) (T : PlainK K C) (I : InstAt h x ox C (some od)) {Q : Option Value → Shared → Prop} (k : ∀ t', Q (some (.ref C)) (St c h t')) : wpAny (model prg w) A (getAttr? (.ref x) "__class__") Q E (St c h t) := by
  have L0 := I.type (M := model prg w)
  have L1 := looks_findIn (M := model prg w) X T.ga
  have L2 := looks_findIn (M := model prg w) X T.gm
  have hf : findObj K C (some od) "__class__" = some (.bind (.builtin "getset_descriptor.__get__") (.builtin "object.__class__")) := by
    obtain ⟨cd, h1, h2, h3⟩ := T.cd
    refine findObj_data (by rw [h1]; rfl) T.cls ?_ ?_
    · unfold specialIn typeIn; kernel_rfl
    · unfold takesIn specialIn typeIn; kernel_rfl
  have L3 := looks_find (M := model prg w) X I hf
  unfold getAttr? getAttrBy? getAttrBy
  refine wpAny_bind (wpAny_mkText (s := St c h t) (wpAny_bind (wpAny_attempt (wpAny_holding (wpAny_bind (L0.at (wpAny_bind (L1.at ?_))))))))
  show wpAny _ _ (getAttrEveryday _ _ _) _ _ _
  refine wpAny_bind (wpAny_onRaise (wpAny_runValue (codeAny_builtin F.plainObj_entry_getattr_hooked ?_)))
  refine wpAny_bind (wpAny_pure (wpAny_bind (L0.at (wpAny_bind (L3.at (wpAny_bind (L2.at ?_)))))))
  show wpAny _ _ (holding [.builtin "object.__class__"] (call _ _) >>= ret) _ _ _
  refine wpAny_bind (wpAny_holding (wpAny_call (class_get (s := St c h (t + 1)) X I (psubs T _) ?_)))
  refine wpAny_pure ?_
  show wpAny _ _ (handedOut (.ref C)) _ _ _
  exact wpAny_pure (wpAny_pure (k _))
theorem says_plain_str (X : K.In h) (T : PlainK K C) (I : InstAt h x ox C (some od)) : Says w c h (.ref x) (.type "str") false :=
  says_no I.type rfl (Looks.of_pure ty_str) (Looks.of_pure rfl) (looks_subIn X (psubs T _)) (let ⟨_, a, _⟩ := T.cd; isT_ref X a) fun A E t Q k => gaq_plain X T I k

end
/-! a slice's class -/
theorem slot_slice_ga : PySem.Slot "slice" "__getattribute__" "slice.__getattribute__" :=
  .of (owner := "slice") (n := "__getattribute__") (by rw [typeLookup_type, builtinLookup_eq_fast]; kernel_rfl) (by decide +kernel) (by decide +kernel) (by decide +kernel)
    (by first | exact .inl (by decide +kernel) | exact .inr (by decide +kernel)) (by rw [isSubtype_type]; kernel_rfl)
theorem entry_slice_ga : entryFor table "slice.__getattribute__" = some Builtin.«object.__getattribute__» :=
  entryFor_alias (id' := "object.__getattribute__") (by kernel_rfl) (by first | rfl | decide +kernel) (by decide +kernel) (by kernel_rfl)
theorem lk_slice_class : typeLookup (.type "slice") "__class__" = pure (some (.builtin "object.__class__")) := by rw [typeLookup_type, builtinLookup_eq_fast]; kernel_rfl
theorem sub_slice_owner : isSubtype (.type "slice") (.type (".".intercalate ("object.__class__".cutAt '.').dropLast)) = pure true := by
  rw [PySem.F.owner_object_class, isSubtype_type]; kernel_rfl
theorem args_slice_ga (a b : Value) : argsOk "slice.__getattribute__" ⟨[a, b], []⟩ := by unfold argsOk; kernel_rfl
section
variable {prog : Program} {w : World} {A : Around} {E : Value → Shared → Prop} {h : Heap} {g : Array GenState} {d : Drawn} {t : Nat} {os : OsState} {a : Addr} {o : Obj}
theorem slice_cls_get {R : Result → Shared → Prop} (hx : h.get? a = some o) (hc : o.cls = .type "slice") (hq : R (.ok (.ret (.type "slice"))) ⟨h, g, d, t, os⟩) :
    codeAny (model prog w) A (.call (.builtin "getset_descriptor.__get__") ⟨[.builtin "object.__class__", .ref a, .type "slice"], []⟩) R ⟨h, g, d, t, os⟩ := by
  have hT : (⟨h, g, d, t, os⟩ : Shared).TypeIs (.ref a) "slice" := ⟨_, hx, hc⟩
  have hT5 : (⟨h, g, d, t, os⟩ : Shared).TypeIs (.builtin "object.__class__") "getset_descriptor" := PySem.F.typeOf_object_class
  have f8 := sub_slice_owner
  refine codeAny_call_builtin PySem.F.slot_gs_get.plain PySem.F.entry_gs_get (PySem.F.slot_gs_get.check _ _ _ _ _ _ _ _ hT5 (PySem.F.args_gs_get _ _ _) ?_)
  repeat (any_goals (first | assumption | wp_step))
  refine ⟨Code.quiet_builtin _ (by decide +kernel), codeAny_builtin PySem.F.entry_object_class ?_⟩
  repeat (any_goals (first | assumption | wp_step))
theorem slice_cls_attr {Q : Option Value → Shared → Prop} (hx : h.get? a = some o) (hc : o.cls = .type "slice") (hq : Q (some (.type "slice")) ⟨h, g, d, t + 1, os⟩) : wpAny (model prog w) A (getAttr? (.ref a) "__class__") Q E ⟨h, g, d, t, os⟩ := by
  have hT : ∀ t, (⟨h, g, d, t, os⟩ : Shared).TypeIs (.ref a) "slice" := fun _ => ⟨_, hx, hc⟩
  have hT5 : (⟨h, g, d, t + 1, os⟩ : Shared).TypeIs (.builtin "object.__class__") "getset_descriptor" := PySem.F.typeOf_object_class
  have LK : typeLookup (.type "slice") (Str.ofString "__getattribute__") = pure (some (.builtin "slice.__getattribute__")) := slot_slice_ga.lookup
  unfold getAttr? getAttrBy?
  refine wpAny_bind (wpAny_mkText (wpAny_bind (wpAny_attempt ?_)))
  unfold getAttrBy
  have f2 := slot_slice_ga.lookup
  have f3 := slot_slice_ga.bind (.ref a)
  have hT' := hT (t + 1)
  repeat (any_goals (first | assumption | wp_step))
  refine codeAny_call_builtin slot_slice_ga.plain entry_slice_ga (slot_slice_ga.check _ _ _ _ _ _ _ _ (hT _) (args_slice_ga _ _) ?_)
  have f4 := lk_slice_class
  have f5 := PySem.F.typeOf_object_class
  have f6 := PySem.F.slot_gs_get.lookup
  have f7 := PySem.F.slot_gs_set.lookup
  repeat (any_goals (first | assumption | wp_step))
  refine slice_cls_get hx hc ?_
  repeat (any_goals (first | assumption | wp_step))
end
end TL

end
section
open PySem PySem.W PyProof.Rows PySem.Calls Builtin Builtin.ObjectAttr
set_option maxRecDepth 100000
set_option linter.unusedVariables false
set_option linter.unusedSimpArgs false
namespace TL
open TL
section
variable {w : World} {A : Around} {E : Value → Shared → Prop} {h : Heap} {c : Shared} {t : Tok} {v : Value}
inductive SaysAll (w : World) (c : Shared) (h : Heap) (v : Value) : List Value → List Bool → Prop
  | nil : SaysAll w c h v [] []
  | cons {x : Value} {b : Bool} {xs : List Value} {bs : List Bool} : Says w c h v x b → SaysAll w c h v xs bs → SaysAll w c h v (x :: xs) (b :: bs)
theorem says_items {dep : Int} {cs : List Value} {bs : List Bool} (ha : SaysAll w c h v cs bs) : ∀ {t : Tok} {Q : Option Fin × Unit → Shared → Prop},
    (∀ t', Q (if bs.any id then some (.done (.ret (.bool true))) else none, ()) (St c h t')) →
    wpAny (model prg w) A (forIn cs ((none : Option Fin), ()) fun x _ => do
      if ← truthy (← call (.builtin "isinstance.nested") [v, x, rawInt (dep + 1)]) then
        let r ← ret (.bool true)
        pure (ForInStep.done (some r, ()))
      else pure (ForInStep.yield (none, ()))) Q E (St c h t) := by
  induction ha with
  | nil => intro t Q k; exact wpAny_pure (k t)
  | @cons x b xs bs s _ ih =>
    intro t Q k
    rw [List.forIn_cons]
    refine wpAny_bind (wpAny_bind (call_function_entry PySem.F.kind_isinstance_nested PySem.F.plain_isinstance_nested PySem.F.entry_isinstance_nested (PySem.F.args_isinstance_nested_3 _ _ _) (s _ _ _ _ _ _ fun t' => ⟨_, rfl, ?_⟩)))
    show wpAny _ _ (truthy (.bool b) >>= _) _ _ _
    refine wpAny_bind (m := truthy (.bool b)) (wpAny_pure ?_)
    cases b with
    | true => exact wpAny_bind (wpAny_pure (wpAny_pure (wpAny_pure (k t'))))
    | false => exact wpAny_pure (ih k)
theorem says_tup {T : String} {tp : Addr} {cs : List Value} {bs : List Bool} (hT : ∀ t, (St c h t).TypeIs v T) (htp : h.get? tp = some { cls := .type "tuple", data := .seq cs.toArray }) (ha : SaysAll w c h v cs bs) : Says0 w c h v (.ref tp) (bs.any id) := by
  intro A E t tk Q k
  have hx := hT t
  have hT2 : (St c h t).TypeIs (.ref tp) "tuple" := ⟨_, htp, rfl⟩
  have f1 := PySem.F.isi_sub_tuple
  repeat (any_goals (first | assumption | wp_step))
  refine wpAny_arrayLoop ?_
  simp only [Option.getD_some, List.toList_toArray]
  refine says_items (dep := 0) ha fun tk' => ?_
  cases hv : bs.any id with
  | true =>
    simp only [if_true]
    repeat (any_goals (first | assumption | wp_step))
    exact hv ▸ k tk'
  | false =>
    simp only [Bool.false_eq_true, if_false]
    repeat (any_goals (first | assumption | wp_step))
    exact hv ▸ k tk'

theorem sub_intint : isSubtype (.type "int") (.type "int") = pure true := by rw [isSubtype_type]; kernel_rfl
theorem sub_slice2 : isSubtype (.type "slice") (.type "slice") = pure true := by rw [isSubtype_type]; kernel_rfl
theorem sub_tuple2 : isSubtype (.type "tuple") (.type "tuple") = pure true := by rw [isSubtype_type]; kernel_rfl
theorem says_int_sl {n : Int} {u : Tok} : SaysAll w c h (.int n u) [.type "int", .type "slice"] [true, false] :=
  .cons (says_T (Tx := "int") (fun _ => rfl) ty_int sub_intint) (.cons (fun A E t dep tk Q k => isinstance_nested_false_int (by decide) (by kernel_rfl) (by rw [isSubtype_type]; kernel_rfl) (k _)) .nil)
theorem says_sl_sl {a : Addr} {o : Obj} (h1 : h.get? a = some o) (h2 : o.cls = .type "slice") : SaysAll w c h (.ref a) [.type "int", .type "slice"] [false, true] :=
  have hT : ∀ t, (St c h t).TypeIs (.ref a) "slice" := fun _ => ⟨_, h1, h2⟩
  .cons (says_no (ty := .type "slice") (Looks.ld (part := none) h1 |>.andThen (h2 ▸ .now)) (by decide) (Looks.of_pure ty_int) (Looks.of_pure rfl) (Looks.of_pure (by rw [isSubtype_type]; kernel_rfl)) (Looks.of_pure rfl) fun A E t Q k => slice_cls_attr h1 h2 (k _))
    (.cons (says_T hT (by kernel_rfl) sub_slice2) .nil)
theorem says_tup_sl {a : Addr} {o : Obj} (h1 : h.get? a = some o) (h2 : o.cls = .type "tuple") : SaysAll w c h (.ref a) [.type "int", .type "slice"] [false, false] :=
  .cons (fun A E t dep tk Q k => isinstance_nested_false_tuple h1 h2 (by decide) ty_int (by rw [isSubtype_type]; kernel_rfl) (k _))
    (.cons (fun A E t dep tk Q k => isinstance_nested_false_tuple h1 h2 (by decide) (by kernel_rfl) (by rw [isSubtype_type]; kernel_rfl) (k _)) .nil)
theorem says_tup_lt {a : Addr} {o : Obj} (h1 : h.get? a = some o) (h2 : o.cls = .type "tuple") : SaysAll w c h (.ref a) [.type "list", .type "tuple"] [false, true] :=
  .cons (fun A E t dep tk Q k => isinstance_nested_false_tuple h1 h2 (by decide) (by kernel_rfl) (by rw [isSubtype_type]; kernel_rfl) (k _))
    (.cons (says_T (Tx := "tuple") (fun _ => ⟨_, h1, h2⟩) (by kernel_rfl) sub_tuple2) .nil)
end
end TL

end
section
open PySem PySem.W PyProof.Rows PySem.Calls Builtin Builtin.ObjectAttr
set_option maxRecDepth 100000
set_option linter.unusedVariables false
set_option linter.unusedSimpArgs false
namespace TL
open TL
theorem fc_init (K : Frag) : findCls K (.type "list") (.type "type") "__init__" = some (.val (.builtin "list.__init__")) := by kernel_rfl
theorem fc_gi (K : Frag) : findCls K (.type "list") (.type "type") "__getitem__" = some (.val (.builtin "list.__getitem__")) := by kernel_rfl
theorem fc_si (K : Frag) : findCls K (.type "list") (.type "type") "__setitem__" = some (.val (.builtin "list.__setitem__")) := by kernel_rfl
section
variable {w : World} {A : Around} {K : Frag} {x C f : Addr} {ox od : Obj} {h h₀ g g₀ : Heap} {c : Shared} {t : Tok} {name : Str} {vs : List Value} {v : Value} {env : Env} {S : List Addr} {μ μ' : Mu} {lc : Lc}
/-- list.name, a slot of the built-in class -/
theorem mT_list {pl : Sem Bool} {Q : Value × List Value → Shared → Prop} (X : K.In h) (e : findCls K (.type "list") (.type "type") name = some (.val v)) (hh : handedIn v = true) (k : ∀ t', Q (v, []) (St c h t')) :
    Wp w A (getMethod (.type "list") name pl) Q (St c h t) := by
  have hstub : opaqueClassAbove (.type "list") = pure none := by kernel_rfl
  have L0 : Looks (model prg w) h (typeOf (.type "list")) (.type "type") := Looks.of_pure (by kernel_rfl)
  have hg : findIn K (.type "type") "__getattribute__" = some (some (.builtin "type.__getattribute__")) := type_tga
  refine ⟨?_⟩
  unfold getMethod specialOf
  refine wpAny_bind (wpAny_bind (L0.at ((looks_findIn X hg).at ?_)))
  try dsimp only
  rw [if_pos canon_tga]
  refine wpAny_bind (wpAny_mono (Q := fun v s' => Q (v, []) s') ?_ (fun _ _ z => wpAny_pure z) fun _ _ z => z)
  have LO : Looks (model prg w) h (opaqueClassAbove (.type "list")) none := Looks.of_pure hstub
  refine cls_open (s := St c h t) X LO L0 hg (looks_hook X (r := none) (by rfl)) (by show subIn K _ _ = _; rfl) e
    (wpAny_pure (by show wpAny _ _ (handedOut v) _ _ _; rw [handedOut_of hh]; exact wpAny_pure (k _)))

theorem kind_lgi : builtinKind "list.__getitem__" = some .method := by decide +kernel
theorem split_lgi : splitId "list.__getitem__" = some ("list", "__getitem__") := by decide +kernel
theorem kind_lsi : builtinKind "list.__setitem__" = some .slot := by decide +kernel
theorem split_lsi : splitId "list.__setitem__" = some ("list", "__setitem__") := by decide +kernel
theorem kind_lin : builtinKind "list.__init__" = some .slot := by decide +kernel
theorem split_lin : splitId "list.__init__" = some ("list", "__init__") := by decide +kernel
theorem check_meth {M : Model} {A : Around} {E : Value → Shared → Prop} {s : Shared} {i owner n : String} {self : Value} {rest : List Value} {kw : List (Str × Value)} {Q : Unit → Shared → Prop}
    (hk : builtinKind i = some .method) (hs : splitId i = some (owner, n)) (hi : Looks M s.heap (isInstance self (.type owner)) true) (ha : argsOk i ⟨self :: rest, kw⟩) (q : Q () s) :
    wpAny M A (checkBuiltinCall i ⟨self :: rest, kw⟩) Q E s := by
  obtain ⟨hh, g, d, tt, os⟩ := s
  simp only [checkBuiltinCall, hk, hs]
  refine wpAny_bind (hi.at ?_)
  simp only [Bool.not_true, Bool.false_eq_true, if_false]
  cases hsig : Manifest.signature? i with
  | none => exact wpAny_pure q
  | some sig =>
    simp only [argsOk, hsig] at ha
    have h2 : Bind.checkArgs i sig ⟨self :: rest, kw⟩ = pure () := ha
    show wpAny M A (Bind.checkArgs i sig ⟨self :: rest, kw⟩) Q E _
    rw [h2]; exact wpAny_pure q

/-- list.__getitem__(x, i), x a tree -/
theorem lgiT {Q : Value → Shared → Prop} {dx : Addr} {k : Int} {u : Tok} (X : K.In h) (T : TreeK K C) (I : InstAt h x ox C (some od)) (ho : treeO C dx vs ox) (h0 : 0 ≤ k) (hf : k < 2 ^ 63) (hx : vs[k.toNat]? = some v) (q : Q v (St c h t)) :
    Wp w A (call (.builtin "list.__getitem__") [.ref x, .int k u]) Q (St c h t) := by
  obtain ⟨n, rfl⟩ := ho
  refine ⟨wpAny_call (codeAny_call_builtin slot_list_getitem.plain entry_list_getitem (@check_meth (model prg w) _ _ (St c h t) "list.__getitem__" "list" "__getitem__" (.ref x) [.int k u] [] _ kind_lgi split_lgi (tree_sub X T I) (args_list_getitem _ _) ?_))⟩
  show wpAny _ _ (Builtin.List.listSubscript? (.int k u) >>= _) _ _ _
  refine wpAny_bind (wpAny_listSubscript_int (fitsIndex_of h0 hf) ?_)
  clear hf
  obtain ⟨j, rfl⟩ := Int.eq_ofNat_of_zero_le h0
  have hx' : vs.toArray[j]? = some v := by simpa using hx
  show wpAny _ _ ((seqItemAt x j >>= fun r => pure (r.map (j, ·))) >>= _) _ _ _
  refine wpAny_bind (wpAny_bind (wpAny_seqItemAt I.at_ rfl (wpAny_pure ?_)))
  rw [hx']
  first
    | exact wpAny_bind (wpAny_pure (wpAny_pure q))
    | exact wpAny_pure q

theorem treeO.map {dx : Addr} {vs vs' : List Value} {o : Obj} (t : treeO C dx vs o) {f : Array Value → Array Value} (e : f vs.toArray = vs'.toArray) : treeO C dx vs' (o.mapSeq f) := by
  obtain ⟨n, rfl⟩ := t
  exact ⟨_, by show _ = _; simp only [Obj.mapSeq, e]; rfl⟩
theorem treeO.live {dx : Addr} {o : Obj} (t : treeO C dx vs o) : o.isFreed = false := by obtain ⟨n, rfl⟩ := t; rfl
/-- a tree's items turn -/
theorem Fm.items {dx : Addr} {vs' : List Value} (F : Fm env S g₀ h₀ g μ lc h) (p : MPut μ x (treeO C dx vs') μ') (h1 : h.get? x = some ox) (ho : treeO C dx vs ox) {f : Array Value → Array Value} (e : f vs.toArray = vs'.toArray) :
    Fm env S g₀ h₀ g μ' lc (h.update x (Obj.mapSeq f)) := by
  have t' := ho.map e
  exact F.upd p (Heap.SameBut.update ..) (Heap.get?_update_self _ h1 t'.live) t'

/-- list.__setitem__(x, i, v), x a tree -/
theorem lsiT {Q : Value → Shared → Prop} {dx : Addr} {k : Int} {u : Tok} (F : Fm env S g₀ h₀ g μ lc h) (X : K.In h) (T : TreeK K C) (I : InstAt h x ox C (some od)) (ho : treeO C dx vs ox) (h0 : 0 ≤ k) (hf : k < 2 ^ 63) (hn : k < vs.length)
    (p : MPut μ x (treeO C dx (vs.set k.toNat v)) μ') (q : ∀ h', Fm env S g₀ h₀ g μ' lc h' → Q .none (St c h' t)) :
    Wp w A (call (.builtin "list.__setitem__") [.ref x, .int k u, v]) Q (St c h t) := by
  obtain ⟨n, rfl⟩ := ho
  refine ⟨wpAny_call (codeAny_call_builtin slot_list_setitem.plain entry_list_setitem (@check_slot (model prg w) _ _ (St c h t) "list.__setitem__" "list" "__setitem__" (.ref x) [.int k u, v] [] _ kind_lsi split_lsi (tree_sub X T I) (args_list_setitem _ _ _) ?_))⟩
  show wpAny _ _ (Builtin.List.listSubscript? (.int k u) >>= _) _ _ _
  refine wpAny_bind (wpAny_listSubscript_int (fitsIndex_of h0 hf) ?_)
  clear hf
  obtain ⟨j, rfl⟩ := Int.eq_ofNat_of_zero_le h0
  have hj : j < vs.toArray.size := by simp; omega
  have hx' : vs.toArray[j]? = some vs.toArray[j] := Array.getElem?_eq_getElem hj
  show wpAny _ _ ((seqItemAt x j >>= fun r => pure (r.map (j, ·))) >>= _) _ _ _
  refine wpAny_bind (wpAny_bind (wpAny_seqItemAt I.at_ rfl (wpAny_pure ?_)))
  rw [hx']
  show wpAny _ _ (setSeqItemAt x j v >>= _) _ _ _
  refine wpAny_bind (wpAny_setSeqItemAt I.at_ rfl ?_)
  have z := q _ (F.items (f := (·.setIfInBounds j v)) p I.at_ ⟨n, rfl⟩ (by simp))
  first
    | exact wpAny_bind (wpAny_pure (wpAny_pure z))
    | exact wpAny_pure z

theorem isData {dx : Addr} (ho : treeO C dx vs ox) : ∃ n, ox.data = .seq vs.toArray n := by obtain ⟨n, rfl⟩ := ho; exact ⟨n, rfl⟩
/-- list.__init__(x, l), x an empty tree -/
theorem linT {Q : Value → Shared → Prop} {dx l : Addr} {vs : List Value} (F : Fm env S g₀ h₀ g μ lc h) (X : K.In h) (T : TreeK K C) (I : InstAt h x ox C (some od)) (ho : treeO C dx [] ox) (hl : h.IsList l vs.toArray) (hne : l ≠ x)
    (p : MPut μ x (treeO C dx vs) μ') (hz : vs.length ≤ sizeLine) (q : ∀ h', Fm env S g₀ h₀ g μ' lc h' → Q .none (St c h' t)) :
    Wp w A (call (.builtin "list.__init__") [.ref x, .ref l]) Q (St c h t) := by
  refine ⟨wpAny_call (codeAny_call_builtin PySem.F.slot_list_init.plain PySem.F.entry_list_init (@check_slot (model prg w) _ _ (St c h t) "list.__init__" "list" "__init__" (.ref x) [.ref l] [] _ kind_lin split_lin (tree_sub X T I) (PySem.F.args_list_init_2 _ _) ?_))⟩
  show wpAny _ _ (do let old ← Builtin.List.listItems (.ref x); Builtin.List.listUpdate (.ref x) (fun _ => #[]); letGo old.toList.reverse; Builtin.List.listExtendWith (.ref x) (.ref l) .none) _ _ _
  obtain ⟨n, hd⟩ := isData ho
  obtain ⟨ol, h1, h2, nl, h3⟩ := hl
  refine wpAny_bind ?_
  unfold Builtin.List.listItems
  refine wpAny_bind (wpAny_seqItems I.at_ hd (wpAny_pure ?_))
  show wpAny _ _ (updateSeq x (fun _ => #[]) >>= fun _ => letGo (#[] : Array Value).toList.reverse >>= fun _ => Builtin.List.listExtendWith (.ref x) (.ref l) .none) _ _ _
  refine wpAny_bind (wpAny_updateSeq I.at_ hd ?_)
  have t1 := ho.map (f := fun _ => #[]) (vs' := []) rfl
  have hS := Heap.get?_update_self (Obj.mapSeq (fun _ => (#[] : Array Value))) I.at_ t1.live
  obtain ⟨n1, d1⟩ := isData t1
  refine wpAny_bind (wpAny_letGo ?_)
  unfold Builtin.List.listExtendWith
  have hl' : (h.update x (Obj.mapSeq (fun _ => (#[] : Array Value)))).get? l = some ol := (Heap.get?_update_other _ _ (Ne.symm hne)).trans h1
  refine wpAny_bind (wpAny_typeOf (T := "list") ⟨ol, hl', h2⟩ ?_)
  simp only [beq_self_eq_true, Bool.or_true, Bool.true_or, if_true]
  refine wpAny_bind ?_
  unfold Builtin.List.listItems
  refine wpAny_bind (wpAny_seqItems hl' h3 (wpAny_pure ?_))
  refine wpAny_bind ?_
  refine wpAny_bind (wpAny_seqItems hS d1 (wpAny_pure ?_))
  show wpAny _ _ (updateSeq x (· ++ vs.toArray) >>= fun _ => ret .none) _ _ _
  refine wpAny_bind (wpAny_updateSeq (hz := by simpa using hz) hS d1 ?_)
  refine wpAny_pure ?_
  have t2 := t1.map (f := (· ++ vs.toArray)) (vs' := vs) (by simp)
  exact q _ (F.upd p (by
    refine ⟨?_, fun b hb => (Heap.get?_update_other _ _ (Ne.symm hb)).trans (Heap.get?_update_other _ _ (Ne.symm hb))⟩
    simp) (Heap.get?_update_self _ hS t2.live) t2)

theorem refuse_tree (self : Value) : refuseLoop self "__setattr__" [.type "list", .type "object"] = pure () := by kernel_rfl
theorem taker_lbl (T : TreeK K C) : takerIn K C "_label" = some none := by unfold takerIn; rw [T.lbl]; rfl
/-- x._label = l, x a tree whose dict holds nothing else -/
def dctO (od : Obj) : Prop := ∃ es n, od = dictOf es n ∧ (es = [] ∨ ∃ hs k l u, es = [⟨hs, .str "_label" k, .str l u⟩])
theorem dctO.of {l : Str} {od : Obj} (L : lblO l od) : dctO od := let ⟨hs, k, u, n, e⟩ := L; ⟨_, n, e, .inr ⟨hs, k, l, u, rfl⟩⟩
theorem dctO.bare : dctO emptyDict := ⟨[], _, rfl, .inl rfl⟩
theorem setLbl {Q : Unit → Shared → Prop} {dx : Addr} {l : Str} {u : Tok} (F : Fm env S g₀ h₀ g μ lc h) (X : K.In h) (T : TreeK K C) (I : InstAt h x ox C (some od)) (ho : treeO C dx vs ox) (hd : h.get? dx = some od) (L : dctO od)
    (p : MPut μ dx (lblO l) μ') (q : ∀ h' t', Fm env S g₀ h₀ g μ' lc h' → Q () (St c h' t')) : Wp w A (setAttr (.ref x) "_label" (.str l u)) Q (St c h t) := by
  obtain ⟨cd, hc, hm, hh, _⟩ := T.cd
  have SF := PySem.F.store_object
  have L0 := I.type (M := model prg w)
  have sub : Looks (model prg w) h (isInstance (.ref x) (.type "object")) true := I.type.andThen (looks_subIn X (subs T _))
  have hmro : Looks (model prg w) h (mroOf (.ref C)) [.ref C, .type "list", .type "object"] := hm ▸ (looks_clsIn X hc).andThen .now
  have L2 := looks_findIn (M := model prg w) X T.lbl
  obtain ⟨es, n, rfl, L⟩ := L
  refine ⟨set_plain (s := St c h t) X I T.sa ?_⟩
  refine codeAny_call_builtin SF.slot.plain SF.entry (@check_slot (model prg w) _ _ (St c h (t + 1)) "object.__setattr__" "object" "__setattr__" (.ref x) [.str "_label" t, .str l u] [] _ SF.kind SF.split sub (SF.args (.ref x) (.str "_label" t) (.str l u)) ?_)
  rw [osa_eq, refuse_eq]
  refine wpAny_bind (wpAny_bind (L0.at (wpAny_bind (hmro.at ?_))))
  rw [refuseLoop_ref, refuse_tree]
  refine wpAny_pure (wpAny_bind (L0.at (wpAny_bind (L2.at (wpAny_bind ?_)))))
  refine wpAny_pure ?_
  obtain ⟨nn, rfl⟩ := ho
  obtain ⟨hx, hcl, hn, -⟩ := I
  show wpAny _ _ (storeInOwnDict (.ref x) (.ref C) (.str "_label" t) "_label" (.str l u) _) _ _ _
  refine wpAny_bind (wpAny_pure (wpAny_bind (wpAny_bind (wpAny_loadPart hx (wpAny_bind ((looks_clsIn X hc).at ?_))))))
  rw [hh]
  refine wpAny_pure (a := some dx) (wpAny_bind (wpAny_pure (wpAny_bind ?_)))
  unfold nsSet
  refine wpAny_bind (wpAny_bind (wpAny_askSetting (wpAny_pure (wpAny_bind (wpAny_mkText (wpAny_bind (wpAny_loadPart hd ?_)))))))
  have c0 : (!es.toArray.any (·.key.isStr "_label") && es.toArray.any (·.refKey)) = false := by
    rw [← Array.any_toList, ← Array.any_toList]
    rcases L with rfl | ⟨hs, k, l', u', rfl⟩ <;> rfl
  show wpAny _ _ (if aRefKeyMayBeTheName "_label" es.toArray = true then _ else _) _ _ _
  rw [aRefKeyMayBeTheName_at, c0]
  refine wpAny_updatePart hd ?_
  have e1 : ∃ hs' k' n', Obj.putName "_label" (PyData.keyHash w.params "_label") (.str "_label" (t + 1)) (.str l u) (dictOf es n) = dictOf [⟨hs', .str "_label" k', .str l u⟩] n' := by
    rw [putName_dict]
    rcases L with rfl | ⟨hs, k, l', u', rfl⟩
    · exact ⟨_, _, _, rfl⟩
    · exact ⟨_, _, _, rfl⟩
  obtain ⟨hs', k', n', e1⟩ := e1
  have live : (Obj.putName "_label" (PyData.keyHash w.params "_label") (.str "_label" (t + 1)) (.str l u) (dictOf es n)).isFreed = false := by rw [e1]; rfl
  have D' := Heap.get?_update_self (Obj.putName "_label" (PyData.keyHash w.params "_label") (.str "_label" (t + 1)) (.str l u)) hd live
  refine wpAny_bind (wpAny_lookBehind D' (by rw [e1]; exact pastItsLine_dict (by rw [List.size_toArray, sizeLine_eq]; simp)) ?_)
  exact wpAny_pure (q _ _ (F.upd p (Heap.SameBut.update ..) D' ⟨_, _, _, _, e1⟩))
end
end TL

end
section
open PySem PySem.W PyProof.Rows PySem.Calls Builtin Builtin.ObjectAttr
set_option maxRecDepth 100000
set_option linter.unusedVariables false
set_option linter.unusedSimpArgs false
namespace TL
open TL
/-- the places of lo:hi in n things -/
def loA (lo : Option Int) (n : Nat) : Nat := lo.elim 0 (clipAt n)
def hiA (hi : Option Int) (n : Nat) : Nat := hi.elim n (clipAt n)
def cut {α : Type} (lo hi : Option Int) (vs : List α) : List α := (vs.drop (loA lo vs.length)).take (hiA hi vs.length - loA lo vs.length)
/-- ns laid for lo:hi of vs -/
def spl {α : Type} (lo hi : Option Int) (vs ns : List α) : List α := vs.take (loA lo vs.length) ++ ns ++ vs.drop (max (loA lo vs.length) (hiA hi vs.length))
theorem clip_le (n : Nat) (i : Int) : clipAt n i ≤ n := by have := clipAt_cast n i; omega
theorem loA_le (lo : Option Int) (n : Nat) : loA lo n ≤ n := by cases lo <;> simp [loA, clip_le]
theorem hiA_le (hi : Option Int) (n : Nat) : hiA hi n ≤ n := by cases hi <;> simp [hiA, clip_le]
theorem cut_len {α : Type} (lo hi : Option Int) (vs : List α) : (cut lo hi vs).length ≤ vs.length := by unfold cut; rw [List.length_take, List.length_drop]; omega
theorem cut_map {α β : Type} (f : α → β) (lo hi : Option Int) (vs : List α) : (cut lo hi vs).map f = cut lo hi (vs.map f) := by unfold cut; simp
theorem pick_cut (vs : List Value) (lo hi : Option Int) : slicePick vs.toArray lo hi none = (cut lo hi vs).toArray := by
  rw [slicePick_plain]; simp [cut, loA, hiA]
theorem cut_to {α : Type} (vs : List α) (k : Nat) : cut none (some (k : Int)) vs = vs.take k := by
  unfold cut loA hiA
  simp only [Option.elim, clipAt_nat, List.drop_zero, Nat.sub_zero]
  rcases Nat.le_total k vs.length with h | h
  · rw [Nat.min_eq_left h]
  · rw [Nat.min_eq_right h, List.take_of_length_le (Nat.le_refl _), List.take_of_length_le h]
theorem cut_from {α : Type} (vs : List α) (k : Nat) : cut (some (k : Int)) none vs = vs.drop k := by
  unfold cut loA hiA
  simp only [Option.elim, clipAt_nat]
  rcases Nat.le_total k vs.length with h | h
  · rw [Nat.min_eq_left h, List.take_of_length_le (by simp)]
  · rw [Nat.min_eq_right h, List.drop_of_length_le (Nat.le_refl _), List.drop_of_length_le h]; simp
theorem cut_init {α : Type} (vs : List α) : cut none (some (-1)) vs = vs.dropLast := by
  unfold cut loA hiA
  have := clipAt_neg vs.length 1 (by omega)
  simp only [Option.elim, List.drop_zero, Nat.sub_zero]
  rw [show (-1 : Int) = -((1 : Nat) : Int) from rfl, this, List.dropLast_eq_take]
theorem spl_nat {α : Type} (vs ns : List α) (a b : Nat) (h1 : a ≤ b) (h2 : b ≤ vs.length) : spl (some (a : Int)) (some (b : Int)) vs ns = vs.take a ++ ns ++ vs.drop b := by
  unfold spl loA hiA
  simp only [Option.elim, clipAt_nat]
  rw [Nat.min_eq_left (by omega), Nat.min_eq_left h2, Nat.max_eq_right h1]
theorem spl_end {α : Type} (vs ns : List α) : spl (some (vs.length : Int)) none vs ns = vs ++ ns := by
  unfold spl loA hiA
  simp only [Option.elim, clipAt_nat, Nat.min_self, Nat.max_self, List.take_length, List.drop_length, List.append_nil]

section
variable {w : World} {A : Around} {K : Frag} {x C f : Addr} {ox od : Obj} {h h₀ g g₀ : Heap} {c : Shared} {t : Tok} {name : Str} {vs : List Value} {v vl vu : Value} {env : Env} {S : List Addr} {μ μ' : Mu} {lc : Lc} {Q : Value → Shared → Prop} {s : Shared} {lo hi : Option Expr} {p pos : Pos} {a b : Option Int}
/-- a slice's parts -/
theorem eSl (F : Wp w A (evalPart lo env) (fun l s₁ => Wp w A (evalPart hi env) (fun u s₂ => Q (.ref s₂.heap.objs.size) { s₂ with heap := s₂.heap.push { cls := .type "slice", data := .fields #[l, u, .none] } }) s₁) s) : Wp w A (eval (.Slice lo hi none p) env) Q s :=
  ⟨wpAny_Slice (F.to fun _ _ k => k.to fun _ _ k => wpAny_pure k)⟩
theorem pNone {Q : Value → Shared → Prop} (k : Q .none s) : Wp w A (evalPart none env) Q s := ⟨wpAny_pure k⟩
theorem pSome {e : Expr} {Q : Value → Shared → Prop} (k : Wp w A (eval e env) Q s) : Wp w A (evalPart (some e) env) Q s := k
/-- the slice made: known -/
theorem Fm.slice (F : Fm env S g₀ h₀ g μ lc h) (l u : Value) (k : ∀ g' sl h', sl = h.objs.size → Fm env S g₀ h₀ g' μ lc h' → Le g g' → g'.IsSliceOf sl l u .none → g'.get? sl = some { cls := .type "slice", data := .fields #[l, u, .none] } → Q (.ref sl) (St c h' t)) :
    Q (.ref (St c h t).heap.objs.size) { St c h t with heap := (St c h t).heap.push { cls := .type "slice", data := .fields #[l, u, .none] } } := by
  obtain ⟨g', x, y, z⟩ := F.made (o := { cls := .type "slice", data := .fields #[l, u, .none] }) rfl
  exact k g' _ _ rfl x y ⟨_, z, rfl, rfl⟩ z
theorem PySem.Heap.IsSliceOf.up {g h : Heap} {sl : Addr} {l u st : Value} (x : g.IsSliceOf sl l u st) (y : Le g h) : h.IsSliceOf sl l u st := let ⟨o, a, b⟩ := x; ⟨o, y _ _ a, b⟩
theorem sub_slice {value : Expr} (o i : Value) : subscripted (.Slice lo hi none p) false o i = operate [i, o] (getItem o i) := rfl
theorem sliceL {value : Expr} {l sl : Addr} (F : Fm env S g₀ h₀ g μ lc h) (hl : h.IsList l vs.toArray) (hs : g.IsSliceOf sl vl vu .none) (pa : IsPart vl a) (pb : IsPart vu b) (hz : vs.length ≤ sizeLine)
    (k : ∀ l' g' h', Fm env S g₀ h₀ g' μ lc h' → Le g g' → g'.IsList l' (cut a b vs).toArray → Q (.ref l') (St c h' t)) : Wp w A (subscriptTail value (.Slice lo hi none p) (.ref l) (.ref sl)) Q (St c h t) := by
  obtain ⟨g', x, y, z⟩ := F.made (o := { cls := .type "list", data := .seq (slicePick vs.toArray a b none) }) rfl
  refine ⟨tail_any (ops := [.ref sl, .ref l]) (Heap.IsList.typeIs (s := St c h t) hl) slot_list_getitem.lookup (wpAny_getItem_list_slice hl (hs.up F.gw.sub) pa pb .none (by simp) ?_ (by simpa using hz)) (sub_slice (value := value) _ _)⟩
  exact k _ _ _ x y ⟨_, z, rfl, _, by rw [pick_cut]⟩
theorem adj_lo (a : Option Int) (n : Nat) : (Builtin.Slice.sliceAdjust a none 1 (n : Int)).1 = (loA a n : Nat) := by
  cases a with
  | none => rfl
  | some i =>
    have := clipAt_cast n i
    simp only [Builtin.Slice.sliceAdjust, loA, Option.elim, show ¬ ((1 : Int) < 0) by omega, if_false]
    split <;> simp_all <;> omega
theorem adj_hi (b : Option Int) (n : Nat) : (Builtin.Slice.sliceAdjust none b 1 (n : Int)).2 = (hiA b n : Nat) := by
  cases b with
  | none => rfl
  | some i =>
    have := clipAt_cast n i
    simp only [Builtin.Slice.sliceAdjust, hiA, Option.elim, show ¬ ((1 : Int) < 0) by omega, if_false]
    split <;> simp_all <;> omega
theorem adj (a b : Option Int) (n : Nat) : Builtin.Slice.sliceAdjust a b 1 (n : Int) = (((loA a n : Nat) : Int), ((hiA b n : Nat) : Int)) := Prod.ext (adj_lo a n) (adj_hi b n)
theorem places1 (a b : Nat) : Builtin.Slice.slicePlaces (a : Int) (b : Int) 1 = b - a := by
  unfold Builtin.Slice.slicePlaces
  have h1 : (1 : Int) > 0 := by omega
  simp only [h1, if_true, Int.ediv_one]
  split <;> omega
theorem slApplied {sl : Addr} {n : Nat} {Q : Int × Int × Nat → Shared → Prop} {E : Value → Shared → Prop} (hs : h.IsSliceOf sl vl vu .none) (pa : IsPart vl a) (pb : IsPart vu b) (k : Q ((loA a n : Nat), 1, hiA b n - loA a n) (St c h t)) :
    wpAny (model prg w) A (Builtin.Slice.sliceApplied (.ref sl) (pure (n : Int))) Q E (St c h t) := by
  obtain ⟨os, hos, hcs, hds⟩ := id hs
  unfold Builtin.Slice.sliceApplied Builtin.Slice.sliceFields
  refine wpAny_bind (wpAny_bind (wpAny_field hos hds (x := vl) rfl (wpAny_bind (wpAny_field hos hds (x := vu) rfl (wpAny_bind (wpAny_field hos hds (x := .none) rfl (wpAny_pure ?_)))))))
  refine wpAny_bind (slicePart_none ?_)
  show wpAny _ _ (if ((1 : Int) == 0) = true then _ else _) _ _ _
  rw [if_neg (by decide)]
  have part : ∀ {v : Value} {i : Option Int} {Q : Option Int → Shared → Prop}, IsPart v i → Q i (St c h t) → wpAny (model prg w) A (Builtin.Slice.slicePartIndex v) Q E (St c h t) := fun p q => by
    cases p with
    | none => exact slicePart_none q
    | int i u => exact slicePart_int q
  refine wpAny_bind (part pa (wpAny_bind (part pb (wpAny_bind (wpAny_pure ?_)))))
  show wpAny _ _ (match Builtin.Slice.sliceAdjust a b 1 (n : Int) with | (lo, hi) => pure (lo, (1 : Int), Builtin.Slice.slicePlaces lo hi 1)) _ _ _
  rw [adj]
  show wpAny _ _ (pure (((loA a n : Nat) : Int), (1 : Int), Builtin.Slice.slicePlaces ((loA a n : Nat) : Int) ((hiA b n : Nat) : Int) 1)) _ _ _
  rw [places1]
  exact wpAny_pure k
theorem pick_at (xs : List Value) (a k : Nat) : ((List.range k).filterMap fun (j : Nat) => xs.toArray[((a : Int) + (j : Int) * 1).toNat]?).toArray = ((xs.drop a).take k).toArray := by
  have e : (fun (j : Nat) => xs.toArray[((a : Int) + (j : Int) * 1).toNat]?) = fun j => xs.toArray[a + j]? := by
    funext j
    have : ((a : Int) + (j : Int) * 1).toNat = a + j := by omega
    rw [this]
  rw [e]
  have := pick_run xs.toArray a k
  rw [List.filterMap_map] at this
  have e2 : ((fun j => xs.toArray[j]?) ∘ fun j => a + j) = fun j => xs.toArray[a + j]? := rfl
  rw [e2] at this
  rw [this]
theorem sliceT {value : Expr} {l sl : Addr} (F : Fm env S g₀ h₀ g μ lc h) (hl : g.IsTuple l vs.toArray) (hs : g.IsSliceOf sl vl vu .none) (pa : IsPart vl a) (pb : IsPart vu b) (hz : vs.length ≤ sizeLine)
    (k : ∀ l' g' h', Fm env S g₀ h₀ g' μ lc h' → Le g g' → g'.IsTuple l' (cut a b vs).toArray → Q (.ref l') (St c h' t)) : Wp w A (subscriptTail value (.Slice lo hi none p) (.ref l) (.ref sl)) Q (St c h t) := by
  have hs' := hs.up F.gw.sub
  have ht : IsTup (St c h t).heap l vs.toArray := by obtain ⟨o, x, y⟩ := hl; exact ⟨o, F.gw.sub _ _ x, y⟩
  obtain ⟨os, hos, hcs, hds⟩ := id hs'
  have hTs : (St c h t).TypeIs (.ref sl) "slice" := ⟨os, hos, hcs⟩
  obtain ⟨g', x, y, z⟩ := F.made (o := { cls := .type "tuple", data := .seq (cut a b vs).toArray }) rfl
  refine ⟨tail_any (ops := [.ref sl, .ref l]) ht.typeIs slot_tuple_getitem.lookup ?_ (sub_slice (value := value) _ _)⟩
  unfold getItem
  try with_reducible refine wpAny_holding ?_
  first | refine wpAny_bind (wpAny_pure ?_) | skip
  refine wpAny_bind (wpAny_sequenceKey ht.typeIs (by decide) ?_)
  refine wpAny_bind (wpAny_callSpecial?_slot (name := Str.ofString "__getitem__") ht.typeIs slot_tuple_getitem
    (wpAny_call_entry slot_tuple_getitem ht.typeIs entry_tuple_getitem ?_ (args_tuple_getitem _ _)))
  show wpAny _ _ (Builtin.Tuple.tupleItemsOf (.ref l) >>= _) _ _ _
  refine wpAny_bind (tupleItemsOf_ ht ?_)
  refine wpAny_bind (wpAny_typeOf hTs ?_)
  rw [if_pos (by decide)]
  refine wpAny_bind (slApplied hs' pa pb ?_)
  dsimp only
  have cs : (cut a b vs).length ≤ vs.length := cut_len a b vs
  have e0 : ((vs.drop (loA a vs.toArray.size)).take (hiA b vs.toArray.size - loA a vs.toArray.size)) = cut a b vs := by simp [cut]
  by_cases q : (((loA a vs.toArray.size : Nat) : Int) == 0 && (1 : Int) == 1 && (hiA b vs.toArray.size - loA a vs.toArray.size) == vs.toArray.size) = true
  · rw [if_pos q]
    refine wpAny_bind ?_
    unfold Builtin.Tuple.tupleIsExact
    have fin : Q (.ref l) (St c h t) := by
      have e1 : cut a b vs = vs := by
        simp only [Bool.and_eq_true, beq_iff_eq] at q
        rw [← e0, q.2, show loA a vs.toArray.size = 0 by omega]; simp
      exact k l g h F (Le.refl _) (by rw [e1]; exact hl)
    refine wpAny_bind (wpAny_typeOf ht.typeIs (wpAny_pure ?_))
    rw [if_pos (by decide)]
    refine wpAny_bind (wpAny_rule ?_)
    first
      | exact wpAny_pure ⟨_, rfl, wpAny_pure fin⟩
      | exact wpAny_bind (wpAny_pure (wpAny_pure ⟨_, rfl, wpAny_pure fin⟩))
  · rw [if_neg q, pick_at, e0]
    have fin := k _ _ _ x y ⟨_, z, rfl, _, rfl⟩
    have hd : sizeOk (.seq (cut a b vs).toArray) := by
      show (cut a b vs).toArray.size ≤ sizeLine
      rw [List.size_toArray]; omega
    first
      | exact wpAny_bind (m := Builtin.Tuple.tupleExact _) (wpAny_newObj_type (wpAny_pure ⟨_, rfl, wpAny_pure fin⟩) hd)
      | exact wpAny_bind (m := Builtin.Tuple.tupleExact _) (wpAny_newObj_type (wpAny_bind (wpAny_pure (wpAny_pure ⟨_, rfl, wpAny_pure fin⟩))) hd)
      | exact wpAny_bind (wpAny_bind (m := Builtin.Tuple.tupleExact _) (wpAny_newObj_type (wpAny_pure (wpAny_pure ⟨_, rfl, wpAny_pure fin⟩)) hd))
      | exact wpAny_bind (wpAny_bind (m := Builtin.Tuple.tupleExact _) (wpAny_newObj_type (wpAny_pure ⟨_, rfl, wpAny_pure fin⟩) hd))

/-- list.__setitem__(x, lo:hi, l), x a tree -/
theorem lssT {dx l sl : Addr} {ns : List Value} (F : Fm env S g₀ h₀ g μ lc h) (X : K.In h) (T : TreeK K C) (I : InstAt h x ox C (some od)) (ho : treeO C dx vs ox) (hs : h.IsSliceOf sl vl vu .none) (pa : IsPart vl a) (pb : IsPart vu b) (hl : h.IsList l ns.toArray) (hne : l ≠ x)
    (m : MPut μ x (treeO C dx (spl a b vs ns)) μ') (hz : vs.length + ns.length ≤ sizeLine) (q : ∀ h', Fm env S g₀ h₀ g μ' lc h' → Q .none (St c h' t)) :
    Wp w A (call (.builtin "list.__setitem__") [.ref x, .ref sl, .ref l]) Q (St c h t) := by
  obtain ⟨n, hd⟩ := isData ho
  obtain ⟨ol, h1, h2, nl, h3⟩ := hl
  obtain ⟨os, s1, s2, s3⟩ := id hs
  have hTs : (St c h t).TypeIs (.ref sl) "slice" := ⟨os, s1, s2⟩
  refine ⟨wpAny_call (codeAny_call_builtin slot_list_setitem.plain entry_list_setitem (@check_slot (model prg w) _ _ (St c h t) "list.__setitem__" "list" "__setitem__" (.ref x) [.ref sl, .ref l] [] _ kind_lsi split_lsi (tree_sub X T I) (args_list_setitem _ _ _) ?_))⟩
  show wpAny _ _ (Builtin.List.listSubscript? (.ref sl) >>= _) _ _ _
  refine wpAny_bind ?_
  unfold Builtin.List.listSubscript?
  refine wpAny_bind (wpAny_specialOf (T := "slice") hTs slice_no_index ?_)
  refine wpAny_pure ?_
  dsimp only
  refine wpAny_bind (wpAny_typeOf hTs ?_)
  rw [if_neg (by decide)]
  refine wpAny_bind ?_
  rw [listSliceParts_eq]
  refine wpAny_bind (wpAny_field s1 s3 (x := .none) rfl (wpAny_bind (wpAny_listPart .none ?_)))
  rw [if_neg (show ¬ ((rawPart none == rawInt 0) = true) from Bool.false_ne_true)]
  refine wpAny_bind (wpAny_field s1 s3 (x := vl) rfl (wpAny_bind (wpAny_listPart pa ?_)))
  refine wpAny_bind (wpAny_field s1 s3 (x := vu) rfl (wpAny_bind (wpAny_listPart pb (wpAny_pure ?_))))
  dsimp only
  have hsr : Builtin.List.listSameRef (.ref x) (.ref l) = false := by simp [Builtin.List.listSameRef, Ne.symm hne]
  rw [hsr]
  refine wpAny_bind ?_
  unfold Builtin.List.listAllItems
  refine wpAny_bind (wpAny_typeOf (T := "list") ⟨ol, h1, h2⟩ ?_)
  rw [if_pos (by decide)]
  unfold Builtin.List.listItems
  refine wpAny_bind (wpAny_seqItems h1 h3 (wpAny_pure ?_))
  refine wpAny_bind (wpAny_bind (wpAny_seqItems I.at_ hd (wpAny_pure ?_)))
  rw [show sliceIndices (rawPart a) (rawPart b) (rawPart none) vs.toArray.size = pure (sliceBounds a b none vs.toArray.size) from sliceIndices_raw a b none _ (by simp), sliceBounds_plain]
  refine wpAny_bind (wpAny_pure ?_)
  dsimp only
  rw [if_pos (by decide)]
  refine wpAny_bind (wpAny_rule ?_)
  rw [if_neg (by unfold Builtin.List.listTooLong; simp; omega)]
  have e0 : max ((loA a vs.length : Nat) : Int) ((hiA b vs.length : Nat) : Int) = ((max (loA a vs.length) (hiA b vs.length) : Nat) : Int) := by omega
  have e1 : (fun xs : Array Value => xs.extract 0 (((loA a vs.toArray.size : Nat) : Int)).toNat ++ ns.toArray ++ xs.extract (max ((loA a vs.toArray.size : Nat) : Int) ((hiA b vs.toArray.size : Nat) : Int)).toNat xs.size) vs.toArray = (spl a b vs ns).toArray := by
    simp only [List.size_toArray, e0, Int.toNat_natCast]
    unfold spl
    simp only [List.extract_toArray, List.extract_eq_take_drop, Nat.sub_zero, List.drop_zero, List.append_toArray]
    rw [List.take_of_length_le (l := List.drop _ _) (by rw [List.length_drop]; exact Nat.le_refl _)]
  refine wpAny_bind ?_
  show wpAny _ _ (updateSeq x (fun xs : Array Value => xs.extract 0 (((loA a vs.toArray.size : Nat) : Int)).toNat ++ ns.toArray ++ xs.extract (max ((loA a vs.toArray.size : Nat) : Int) ((hiA b vs.toArray.size : Nat) : Int)).toNat xs.size)) _ _ _
  have la := loA_le a vs.length
  have lb := hiA_le b vs.length
  refine wpAny_updateSeq (hz := by simp; omega) (_hz' := by
    show ((fun xs : Array Value => xs.extract 0 (((loA a vs.toArray.size : Nat) : Int)).toNat ++ ns.toArray ++ xs.extract (max ((loA a vs.toArray.size : Nat) : Int) ((hiA b vs.toArray.size : Nat) : Int)).toNat xs.size) vs.toArray).size ≤ _
    rw [e1]; unfold spl; simp; omega) I.at_ hd ?_
  refine wpAny_bind (wpAny_letGo (wpAny_pure ?_))
  exact q _ (F.items m I.at_ ho e1)
end
end TL

end
section
open PySem PySem.W PyProof.Rows PySem.Calls Builtin Builtin.ObjectAttr PySem.SeqAt
set_option maxRecDepth 100000
set_option linter.unusedVariables false
set_option linter.unusedSimpArgs false
namespace TL
open TL
/-- v reads as the data d -/
def Is (g : Heap) (v : Value) (d : PyData) : Prop := ∃ as, Reads g v d as
inductive IsAll (g : Heap) : List Value → List PyData → Prop
  | nil : IsAll g [] []
  | cons {v : Value} {d : PyData} {vs : List Value} {ds : List PyData} : Is g v d → IsAll g vs ds → IsAll g (v :: vs) (d :: ds)
theorem Is.mono {g h : Heap} {v : Value} {d : PyData} (x : Is g v d) (l : Le g h) : Is h v d := let ⟨as, r⟩ := x; ⟨as, Reads.keeps l r⟩
theorem IsAll.mono {g h : Heap} {vs : List Value} {ds : List PyData} (x : IsAll g vs ds) (l : Le g h) : IsAll h vs ds := by
  induction x with
  | nil => exact .nil
  | cons a _ ih => exact .cons (a.mono l) ih
theorem IsAll.reads {g : Heap} {vs : List Value} {ds : List PyData} (x : IsAll g vs ds) : ∃ as, ReadsAll g vs ds as := by
  induction x with
  | nil => exact ⟨_, .nil⟩
  | cons a _ ih => obtain ⟨as, r⟩ := a; obtain ⟨bs, q⟩ := ih; exact ⟨_, .cons r q⟩
theorem IsAll.of_reads {g : Heap} : ∀ {vs : List Value} {ds : List PyData} {as : List Addr}, ReadsAll g vs ds as → IsAll g vs ds
  | _, _, _, .nil => .nil
  | _, _, _, .cons a b => .cons ⟨_, a⟩ (IsAll.of_reads b)
theorem Is.str {g : Heap} (s : Str) (u : Tok) : Is g (.str s u) (.str s) := ⟨_, .str s u⟩
theorem Is.int {g : Heap} (n : Int) (u : Tok) : Is g (.int n u) (.int n) := ⟨_, .int n u⟩
theorem Is.list {g : Heap} {l : Addr} {vs : List Value} {ds : List PyData} (hl : g.IsList l vs.toArray) (x : IsAll g vs ds) : Is g (.ref l) (.list ds) := by
  obtain ⟨o, h1, h2, n, h3⟩ := hl
  obtain ⟨as, r⟩ := x.reads
  exact ⟨_, .list h1 h2 h3 (by simpa using r)⟩
theorem Is.tuple {g : Heap} {l : Addr} {vs : List Value} {ds : List PyData} (hl : g.IsTuple l vs.toArray) (x : IsAll g vs ds) : Is g (.ref l) (.tuple ds) := by
  obtain ⟨o, h1, h2, n, h3⟩ := hl
  obtain ⟨as, r⟩ := x.reads
  exact ⟨_, .tuple h1 h2 h3 (by simpa using r)⟩
theorem Is.of_str {g : Heap} {v : Value} {s : Str} (x : Is g v (.str s)) : ∃ u, v = .str s u := by obtain ⟨as, r⟩ := x; cases r; exact ⟨_, rfl⟩
theorem Is.of_int {g : Heap} {v : Value} {n : Int} (x : Is g v (.int n)) : ∃ u, v = .int n u := by obtain ⟨as, r⟩ := x; cases r; exact ⟨_, rfl⟩
theorem Is.of_list {g : Heap} {v : Value} {ds : List PyData} (x : Is g v (.list ds)) : ∃ l vs, v = .ref l ∧ g.IsList l vs.toArray ∧ IsAll g vs ds := by
  obtain ⟨as, r⟩ := x
  cases r with
  | list h1 h2 h3 h4 => exact ⟨_, _, rfl, ⟨_, h1, h2, _, by simpa using h3⟩, IsAll.of_reads h4⟩
theorem Is.of_tuple {g : Heap} {v : Value} {ds : List PyData} (x : Is g v (.tuple ds)) : ∃ l vs, v = .ref l ∧ g.IsTuple l vs.toArray ∧ IsAll g vs ds := by
  obtain ⟨as, r⟩ := x
  cases r with
  | tuple h1 h2 h3 h4 => exact ⟨_, _, rfl, ⟨_, h1, h2, _, by simpa using h3⟩, IsAll.of_reads h4⟩
theorem IsAll.len {g : Heap} {vs : List Value} {ds : List PyData} (x : IsAll g vs ds) : vs.length = ds.length := by
  induction x with
  | nil => rfl
  | cons _ _ ih => simp [ih]
theorem IsAll.at {g : Heap} {vs : List Value} {ds : List PyData} (x : IsAll g vs ds) : ∀ {i : Nat} {v : Value}, vs[i]? = some v → ∃ d, ds[i]? = some d ∧ Is g v d := by
  induction x with
  | nil => intro i v h; simp at h
  | cons a _ ih =>
    intro i v h
    cases i with
    | zero => simp at h; subst h; exact ⟨_, rfl, a⟩
    | succ i => simpa using ih (by simpa using h)
theorem IsAll.get {g : Heap} {vs : List Value} {ds : List PyData} (x : IsAll g vs ds) : ∀ {i : Nat} {d : PyData}, ds[i]? = some d → ∃ v, vs[i]? = some v ∧ Is g v d := by
  induction x with
  | nil => intro i v h; simp at h
  | cons a _ ih =>
    intro i v h
    cases i with
    | zero => simp at h; subst h; exact ⟨_, rfl, a⟩
    | succ i => simpa using ih (by simpa using h)
theorem IsAll.app {g : Heap} {vs us : List Value} {ds es : List PyData} (x : IsAll g vs ds) (y : IsAll g us es) : IsAll g (vs ++ us) (ds ++ es) := by
  induction x with
  | nil => exact y
  | cons a _ ih => exact .cons a ih
theorem IsAll.one {g : Heap} {v : Value} {d : PyData} (x : Is g v d) : IsAll g [v] [d] := .cons x .nil
theorem IsAll.take {g : Heap} {vs : List Value} {ds : List PyData} (x : IsAll g vs ds) : ∀ n, IsAll g (vs.take n) (ds.take n) := by
  induction x with
  | nil => intro n; simpa using IsAll.nil
  | cons a _ ih =>
    intro n
    cases n with
    | zero => exact .nil
    | succ n => exact .cons a (ih n)
theorem IsAll.drop {g : Heap} {vs : List Value} {ds : List PyData} (x : IsAll g vs ds) : ∀ n, IsAll g (vs.drop n) (ds.drop n) := by
  induction x with
  | nil => intro n; simpa using IsAll.nil
  | cons a h ih =>
    intro n
    cases n with
    | zero => exact .cons a h
    | succ n => exact ih n
theorem IsAll.cut {g : Heap} {vs : List Value} {ds : List PyData} (x : IsAll g vs ds) (a b : Option Int) : IsAll g (cut a b vs) (cut a b ds) := by
  unfold TL.cut
  rw [x.len]
  exact (x.drop _).take _

/-- neither bools nor dicts -/
def noB : PyData → Bool
  | .bool _ => false
  | .dict _ => false
  | .list xs => noBs xs
  | .tuple xs => noBs xs
  | _ => true
where noBs : List PyData → Bool
  | [] => true
  | x :: xs => noB x && noBs xs
mutual
theorem mix_no : ∀ d d' : PyData, noB d = true → noB d' = true → noMix d d' = true
  | .list xs, .list ys, h, h' => by simp only [noMix]; exact mix_nos xs ys (by simpa [noB] using h) (by simpa [noB] using h')
  | .tuple xs, .tuple ys, h, h' => by simp only [noMix]; exact mix_nos xs ys (by simpa [noB] using h) (by simpa [noB] using h')
  | .bool _, _, h, _ => by simp [noB] at h
  | .dict _, _, h, _ => by simp [noB] at h
  | _, .bool _, _, h => by simp [noB] at h
  | _, .dict _, _, h => by simp [noB] at h
  | .none, .none, _, _ => by simp [noMix]
  | .none, .int _, _, _ => by simp [noMix]
  | .none, .str _, _, _ => by simp [noMix]
  | .none, .list _, _, _ => by simp [noMix]
  | .none, .tuple _, _, _ => by simp [noMix]
  | .int _, .none, _, _ => by simp [noMix]
  | .int _, .int _, _, _ => by simp [noMix]
  | .int _, .str _, _, _ => by simp [noMix]
  | .int _, .list _, _, _ => by simp [noMix]
  | .int _, .tuple _, _, _ => by simp [noMix]
  | .str _, .none, _, _ => by simp [noMix]
  | .str _, .int _, _, _ => by simp [noMix]
  | .str _, .str _, _, _ => by simp [noMix]
  | .str _, .list _, _, _ => by simp [noMix]
  | .str _, .tuple _, _, _ => by simp [noMix]
  | .list _, .none, _, _ => by simp [noMix]
  | .list _, .int _, _, _ => by simp [noMix]
  | .list _, .str _, _, _ => by simp [noMix]
  | .list _, .tuple _, _, _ => by simp [noMix]
  | .tuple _, .none, _, _ => by simp [noMix]
  | .tuple _, .int _, _, _ => by simp [noMix]
  | .tuple _, .str _, _, _ => by simp [noMix]
  | .tuple _, .list _, _, _ => by simp [noMix]
theorem mix_nos : ∀ xs ys : List PyData, noB.noBs xs = true → noB.noBs ys = true → noMixAll xs ys = true
  | [], [], _, _ => by simp [noMixAll]
  | [], _ :: _, _, _ => by simp [noMixAll]
  | _ :: _, [], _, _ => by simp [noMixAll]
  | x :: xs, y :: ys, h, h' => by
    simp only [noB.noBs, Bool.and_eq_true] at h h'
    simp only [noMixAll, mix_no x y h.1 h'.1, mix_nos xs ys h.2 h'.2, Bool.and_self]
end
mutual
theorem same_iff : ∀ d d' : PyData, noB d = true → (PySem.Spec.same d d' = true ↔ d = d')
  | .list xs, .list ys, h => by
    have := same_iffs xs ys (by simpa [noB] using h)
    simp only [PySem.Spec.same, this, PyData.list.injEq]
  | .tuple xs, .tuple ys, h => by
    have := same_iffs xs ys (by simpa [noB] using h)
    simp only [PySem.Spec.same, this, PyData.tuple.injEq]
  | .bool _, _, h => by simp [noB] at h
  | .dict _, _, h => by simp [noB] at h
  | .none, d', _ => by cases d' <;> simp [PySem.Spec.same]
  | .int _, d', _ => by cases d' <;> simp [PySem.Spec.same]
  | .str _, d', _ => by cases d' <;> simp [PySem.Spec.same]
  | .list _, .none, _ => by simp [PySem.Spec.same]
  | .list _, .bool _, _ => by simp [PySem.Spec.same]
  | .list _, .int _, _ => by simp [PySem.Spec.same]
  | .list _, .str _, _ => by simp [PySem.Spec.same]
  | .list _, .tuple _, _ => by simp [PySem.Spec.same]
  | .list _, .dict _, _ => by simp [PySem.Spec.same]
  | .tuple _, .none, _ => by simp [PySem.Spec.same]
  | .tuple _, .bool _, _ => by simp [PySem.Spec.same]
  | .tuple _, .int _, _ => by simp [PySem.Spec.same]
  | .tuple _, .str _, _ => by simp [PySem.Spec.same]
  | .tuple _, .list _, _ => by simp [PySem.Spec.same]
  | .tuple _, .dict _, _ => by simp [PySem.Spec.same]
theorem same_iffs : ∀ xs ys : List PyData, noB.noBs xs = true → (PySem.Spec.sameAll xs ys = true ↔ xs = ys)
  | [], [], _ => by simp [PySem.Spec.sameAll]
  | [], _ :: _, _ => by simp [PySem.Spec.sameAll]
  | _ :: _, [], _ => by simp [PySem.Spec.sameAll]
  | x :: xs, y :: ys, h => by
    simp only [noB.noBs, Bool.and_eq_true] at h
    simp only [PySem.Spec.sameAll, Bool.and_eq_true, same_iff x y h.1, same_iffs xs ys h.2, List.cons.injEq]
end

section
variable {w : World} {A : Around} {h g g₀ h₀ : Heap} {c : Shared} {t i j : Tok} {v a b : Value} {d d' : PyData} {Q : Value → Shared → Prop} {s : Shared} {x y : Str} {m n : Int}
theorem room_u {k : Nat} (r : Room A k) : A.units + 64 < cLine := by have := r.units; show A.units + 64 < 9900; omega
theorem oEq {k : Nat} (r : Room A k) (ha : Is h a d) (hb : Is h b d') (h1 : shaped d = true) (h2 : shaped d' = true) (n1 : noB d = true) (n2 : noB d' = true) (q : ∀ r : Bool, (r = true ↔ d = d') → Q (.bool r) (St c h t)) : Wp w A (compareOp .Eq a b) Q (St c h t) := by
  obtain ⟨as, ra⟩ := ha; obtain ⟨bs, rb⟩ := hb
  exact ⟨eq_dataH_same (s := St c h t) ra rb h1 h2 (room_u r) (mix_no _ _ n1 n2) (q _ (same_iff _ _ n1))⟩
theorem oNe {k : Nat} (r : Room A k) (ha : Is h a d) (hb : Is h b d') (h1 : shaped d = true) (h2 : shaped d' = true) (n1 : noB d = true) (n2 : noB d' = true) (q : ∀ r : Bool, (r = true ↔ d ≠ d') → Q (.bool r) (St c h t)) : Wp w A (compareOp .NotEq a b) Q (St c h t) := by
  obtain ⟨as, ra⟩ := ha; obtain ⟨bs, rb⟩ := hb
  refine ⟨ne_dataH_same (s := St c h t) ra rb h1 h2 (room_u r) (mix_no _ _ n1 n2) (q _ ?_)⟩
  rw [Bool.not_eq_true', ← Bool.not_eq_true, same_iff _ _ n1]
theorem oEqS (q : Q (.bool (x == y)) s) : Wp w A (compareOp .Eq (.str x i) (.str y j)) Q s := ⟨PyProof.Rows.eq_str q⟩
theorem oNeS (q : Q (.bool (x != y)) s) : Wp w A (compareOp .NotEq (.str x i) (.str y j)) Q s := ⟨PyProof.Rows.ne_str q⟩
theorem oEqI (q : Q (.bool (m == n)) s) : Wp w A (compareOp .Eq (.int m i) (.int n j)) Q s := ⟨PyProof.Rows.eq_int q⟩
theorem oNeI (q : Q (.bool (m != n)) s) : Wp w A (compareOp .NotEq (.int m i) (.int n j)) Q s := ⟨PyProof.Rows.ne_int q⟩
theorem oLt (q : Q (.bool (decide (m < n))) s) : Wp w A (compareOp .Lt (.int m i) (.int n j)) Q s := ⟨PyProof.Rows.lt_int q⟩
theorem oGt (q : Q (.bool (decide (n < m))) s) : Wp w A (compareOp .Gt (.int m i) (.int n j)) Q s := ⟨PyProof.Rows.gt_int q⟩
theorem oLe (q : Q (.bool (decide (m ≤ n))) s) : Wp w A (compareOp .LtE (.int m i) (.int n j)) Q s := ⟨PyProof.Rows.le_int q⟩
theorem oGe (q : Q (.bool (decide (n ≤ m))) s) : Wp w A (compareOp .GtE (.int m i) (.int n j)) Q s := ⟨PyProof.Rows.ge_int q⟩
end
end TL

end
section
open PySem PySem.W PyProof.Rows PySem.Calls Builtin Builtin.ObjectAttr PySem.SeqAt
open Builtin.Str (spaceWords tooLong occurrences)
set_option maxRecDepth 100000
set_option linter.unusedVariables false
set_option linter.unusedSimpArgs false
namespace TL
open TL
section
variable {w : World} {A : Around} {env : Env} {S : List Addr} {h g g₀ h₀ : Heap} {μ μ' : Mu} {lc lc' : Lc} {c : Shared} {t i j : Tok} {v a b : Value} {Q : Value → Shared → Prop} {s : Shared} {x y z : Str} {m n : Int} {l l' : Addr} {vs us : List Value} {pl : Sem Bool} {pos p : Pos}
/-! texts -/
theorem mJoin {Q : Value × List Value → Shared → Prop} (k : Q (.builtin "str.join", [.str x i]) s) : Wp w A (getMethod (.str x i) "join" pl) Q s := ⟨GM.join k⟩
theorem mSplit {Q : Value × List Value → Shared → Prop} (k : Q (.builtin "str.split", [.str x i]) s) : Wp w A (getMethod (.str x i) "split" pl) Q s := ⟨GM.split k⟩
theorem mReplace {Q : Value × List Value → Shared → Prop} (k : Q (.builtin "str.replace", [.str x i]) s) : Wp w A (getMethod (.str x i) "replace" pl) Q s := ⟨GM.replace k⟩
/-- vs are texts -/
inductive StrAll : List Value → List Str → Prop
  | nil : StrAll [] []
  | cons {x : Str} {u : Tok} {vs : List Value} {xs : List Str} : StrAll vs xs → StrAll (.str x u :: vs) (x :: xs)
theorem StrAll.vals {vs : List Value} {xs : List Str} (h : StrAll vs xs) : ∃ l : List (Str × Tok), vs = strValues l ∧ l.map (·.1) = xs := by
  induction h with
  | nil => exact ⟨[], rfl, rfl⟩
  | cons _ ih => obtain ⟨l, rfl, rfl⟩ := ih; exact ⟨(_, _) :: l, rfl, rfl⟩
theorem StrAll.of_vals : ∀ l : List (Str × Tok), StrAll (strValues l) (l.map (·.1))
  | [] => .nil
  | (_, _) :: l => .cons (StrAll.of_vals l)
theorem StrAll.app {vs us : List Value} {xs ys : List Str} (h : StrAll vs xs) (h' : StrAll us ys) : StrAll (vs ++ us) (xs ++ ys) := by
  induction h with
  | nil => exact h'
  | cons _ ih => exact .cons ih
theorem StrAll.is {vs : List Value} {xs : List Str} (h : StrAll vs xs) : IsAll g vs (xs.map .str) := by
  induction h with
  | nil => exact .nil
  | cons _ ih => exact .cons (.str _ _) ih
theorem StrAll.of_is : ∀ {xs : List Str} {vs : List Value}, IsAll g vs (xs.map .str) → StrAll vs xs
  | [], _, .nil => .nil
  | _ :: xs, _, .cons a b => by obtain ⟨u, rfl⟩ := a.of_str; exact .cons (StrAll.of_is b)
theorem cJoin {D : Addr} {xs : List Str} (hl : h.IsList D vs.toArray) (hs : StrAll vs xs) (hz : (xs.map (·.length)).sum + xs.length * x.length ≤ 16777216) (k : ∀ u t', Q (.str (Txt.join x xs) u) (St c h t')) : Wp w A (call (.builtin "str.join") [.str x i, .ref D]) Q (St c h t) := by
  obtain ⟨l, rfl, e⟩ := hs.vals
  exact ⟨SC.join (s := St c h t) hl e (joinOk_of hz) fun u t' => k u t'⟩
theorem cSplit (F : Fm env S g₀ h₀ g μ lc h) (hz : x.length + 2 ≤ sizeLine) (k : ∀ D vs g' h' t', Fm env S g₀ h₀ g' μ lc h' → Le g g' → g'.IsList D vs.toArray → StrAll vs (Txt.words x) → Q (.ref D) (St c h' t')) : Wp w A (call (.builtin "str.split") [.str x i]) Q (St c h t) := by
  have hsz2 : (spaceWords x (x.length + 1)).length ≤ sizeLine := by
    have e1 := (StrLaws.sw_weight x).1
    have e2 := StrLaws.len_le_wsum (spaceWords x (x.length + 1))
    omega
  refine ⟨call_meets PySem.F.slot_str_split (typeIs_str _ _ _) PySem.F.entry_str_split (PySem.F.args_str_split_1 _) (meets_str_split_space x i (by omega) hsz2) ?_⟩
  cases hw : spaceWords x (x.length + 1) == [(0, x.length)]
  · simp only [Bool.false_eq_true, if_false]
    rw [strsFrom_eq]
    have e1 : (numbered t (PySem.wordsOf x)).map (·.1) = Txt.words x := (numbered_texts _ _).trans (if_neg (ne_true_of_eq_false hw)).symm
    obtain ⟨g', X, Y, Z⟩ := F.made (o := { cls := .type "list", data := .seq (strValues (numbered t (PySem.wordsOf x))).toArray }) rfl
    exact k _ _ g' _ _ X Y ⟨_, Z, rfl, _, rfl⟩ (e1 ▸ StrAll.of_vals _)
  · simp only [if_true]
    have e1 : Txt.words x = [x] := if_pos hw
    obtain ⟨g', X, Y, Z⟩ := F.made (o := { cls := .type "list", data := .seq (strValues [(x, i)]).toArray }) rfl
    exact k _ _ g' _ _ X Y ⟨_, Z, rfl, _, rfl⟩ (e1 ▸ StrAll.of_vals [(x, i)])
theorem cReplace {u v : Tok} (hu : u ≠ 0) (hv : v ≠ 0) (huv : u ≠ v) (hyz : (y == z) = false) (hb : x.length + (x.length + 1) * z.length ≤ 16777216)
    (hq : ∀ t' k, t ≤ k → Q (.str (Txt.replace x y z) t') (St c h k)) : Wp w A (call (.builtin "str.replace") [.str x i, .str y u, .str z v]) Q (St c h t) := by
  have e : (2 : Nat) ^ 24 = 16777216 := by decide
  have hl : tooLong (x.length + (occurrences x y 0 x.length (x.length + 1)).length * z.length) = false := by
    have h1 := StrLaws.occ_length_le x y 0 x.length (x.length + 1)
    have h2 : (occurrences x y 0 x.length (x.length + 1)).length * z.length ≤ (x.length + 1) * z.length := Nat.mul_le_mul_right _ h1
    unfold tooLong sizeLine
    exact decide_eq_false (by omega)
  refine ⟨call_gives (s := St c h t) PySem.F.slot_str_replace (typeIs_str _ _ _) PySem.F.entry_str_replace (PySem.F.args_str_replace_3 _ _ _)
    (gives_str_replace x y z i u v fun _ => ⟨by simp [hu, hv], by simp [huv], hyz, hl⟩) ?_⟩
  have hq' := hq
  unfold Txt.replace at hq'
  cases hc : ((occurrences x y 0 x.length (x.length + 1)).isEmpty || (y.length == 0 && z.length == 0))
  · rw [hc] at hq'
    simp only [Bool.false_eq_true, if_false] at hq' ⊢
    exact ⟨fits_replaced y hb, hq' _ _ (Nat.le_succ t)⟩
  · rw [hc] at hq'
    simp only [if_true] at hq' ⊢
    exact hq' i t (Nat.le_refl t)

/-! lists -/
theorem mList {nm : Str} {id : String} {o : Obj} {Q : Value × List Value → Shared → Prop} (sl : PySem.Slot "list" nm id) (ht : typeOf (.builtin id) = pure (.type "method_descriptor")) (ho : h.get? l = some o) (hc : o.cls = .type "list") (hd : o.dict = none) (k : Q (.builtin id, [.ref l]) (St c h t)) :
    Wp w A (getMethod (.ref l) nm pl) Q (St c h t) := ⟨getMethod_builtin (s := St c h t) ⟨o, ho, hc⟩ PySem.F.plainAttrs_list sl ht (fun a e => by cases e; exact ⟨o, ho, hd⟩) k⟩
theorem mLst {nm : Str} {id : String} {Q : Value × List Value → Shared → Prop} (F : Fm env S g₀ h₀ g μ lc h) (m : (l, lst vs) ∈ μ) (sl : PySem.Slot "list" nm id) (ht : typeOf (.builtin id) = pure (.type "method_descriptor")) (k : Q (.builtin id, [.ref l]) (St c h t)) :
    Wp w A (getMethod (.ref l) nm pl) Q (St c h t) := by
  obtain ⟨⟨o, ho, n, rfl⟩, _⟩ := F.mu _ m
  exact mList sl ht ho rfl rfl k
theorem lst.map {o : Obj} {vs' : List Value} (t : lst vs o) {f : Array Value → Array Value} (e : f vs.toArray = vs'.toArray) : lst vs' (o.mapSeq f) := by
  obtain ⟨n, rfl⟩ := t
  exact ⟨_, by show _ = _; simp only [Obj.mapSeq, e]; rfl⟩
theorem lst.live {o : Obj} (t : lst vs o) : o.isFreed = false := by obtain ⟨n, rfl⟩ := t; rfl
theorem Fm.turned {vs' : List Value} (F : Fm env S g₀ h₀ g μ lc h) (m : (l, lst vs) ∈ μ) (p : MPut μ l (lst vs') μ') {f : Array Value → Array Value} (e : f vs.toArray = vs'.toArray) : Fm env S g₀ h₀ g μ' lc (h.update l (Obj.mapSeq f)) := by
  obtain ⟨⟨o, ho, t⟩, _⟩ := F.mu _ m
  have t' := t.map e
  exact F.upd p (Heap.SameBut.update ..) (Heap.get?_update_self _ ho t'.live) t'
abbrev slAppend := slot_list_append
abbrev tyAppend := type_list_append
theorem cAppend (F : Fm env S g₀ h₀ g μ lc h) (m : (l, lst vs) ∈ μ) (p : MPut μ l (lst (vs ++ [v])) μ') (hz : vs.length ≤ sizeLine) (k : ∀ h', Fm env S g₀ h₀ g μ' lc h' → Q .none (St c h' t)) : Wp w A (call (.builtin "list.append") [.ref l, v]) Q (St c h t) := by
  refine ⟨wpAny_list_append_plain (s := St c h t) (F.mpl m) (fun h₅ hl₅ hs₅ => ?_) (by rw [List.size_toArray]; omega)⟩
  obtain ⟨n₅, x₅⟩ := hl₅
  exact k h₅ (F.upd p hs₅ x₅ ⟨n₅, by simp⟩)
theorem cExtend (F : Fm env S g₀ h₀ g μ lc h) (m : (l, lst vs) ∈ μ) (p : MPut μ l (lst (vs ++ us)) μ') (hb : h.IsList l' us.toArray) (hz : vs.length + us.length ≤ sizeLine) (k : ∀ h', Fm env S g₀ h₀ g μ' lc h' → Q .none (St c h' t)) :
    Wp w A (call (.builtin "list.extend") [.ref l, .ref l']) Q (St c h t) := by
  obtain ⟨⟨o, ho, n, rfl⟩, _⟩ := F.mu _ m
  obtain ⟨ob, h1, h2, nb, h3⟩ := hb
  have hT : (St c h t).TypeIs (.ref l) "list" := ⟨_, ho, rfl⟩
  refine ⟨wpAny_call (codeAny_call_builtin PySem.F.slot_list_extend.plain PySem.F.entry_list_extend (PySem.F.slot_list_extend.check _ _ _ _ _ _ _ _ hT (PySem.F.args_list_extend_2 _ _) ?_))⟩
  show wpAny _ _ (Builtin.List.listExtendWith (.ref l) (.ref l') .none) _ _ _
  unfold Builtin.List.listExtendWith
  refine wpAny_bind (wpAny_typeOf (T := "list") ⟨ob, h1, h2⟩ ?_)
  simp only [beq_self_eq_true, Bool.or_true, Bool.true_or, if_true]
  refine wpAny_bind ?_
  unfold Builtin.List.listItems
  refine wpAny_bind (wpAny_seqItems h1 h3 (wpAny_pure ?_))
  refine wpAny_bind ?_
  refine wpAny_bind (wpAny_seqItems ho rfl (wpAny_pure ?_))
  have fit : ¬ ((!vs.toArray.isEmpty && Builtin.List.listTooLong (vs.toArray.size + us.toArray.size)) = true) := by
    unfold Builtin.List.listTooLong; simp; intro _; omega
  show wpAny _ _ (if (!vs.toArray.isEmpty && Builtin.List.listTooLong (vs.toArray.size + us.toArray.size)) = true then _ else _) _ _ _
  rw [if_neg fit]
  show wpAny _ _ (updateSeq l (· ++ us.toArray) >>= fun _ => ret .none) _ _ _
  refine wpAny_bind (wpAny_updateSeq (hz := by simp; omega) (_hz' := by simp; omega) ho rfl ?_)
  refine wpAny_pure ?_
  exact k _ (F.turned m p (by simp))
/-- l += l' -/
theorem oIadd (F : Fm env S g₀ h₀ g μ lc h) (m : (l, lst vs) ∈ μ) (p : MPut μ l (lst (vs ++ us)) μ') (hb : h.IsList l' us.toArray) (hz : vs.length + us.length ≤ sizeLine) (k : ∀ h', Fm env S g₀ h₀ g μ' lc h' → Q (.ref l) (St c h' t)) :
    Wp w A (inplaceOp .Add (.ref l) (.ref l')) Q (St c h t) := by
  obtain ⟨⟨o, ho, n, rfl⟩, _⟩ := F.mu _ m
  obtain ⟨ob, h1, h2, nb, h3⟩ := hb
  have ha : (St c h t).TypeIs (.ref l) "list" := ⟨_, ho, rfl⟩
  have hb' : (St c h t).TypeIs (.ref l') "list" := ⟨_, h1, h2⟩
  have hfi : fillsInplaceSlot (.type "list") "add" (Operator.Add == .Add) = pure false := by
    unfold fillsInplaceSlot
    dsimp only
    rw [PySem.F.slot_list_iadd.lookup]
    kernel_rfl
  refine ⟨?_⟩
  unfold inplaceOp
  refine wpAny_holding ?_
  refine wpAny_bind (wpAny_typeOf ha ?_)
  refine wpAny_bind (wpAny_of_eq hfi ?_)
  simp only [Bool.false_eq_true, if_false]
  refine wpAny_bind (wpAny_binaryOp1_none (nm := "add") ha hb' noFill_list_add ?_)
  refine wpAny_bind (wpAny_of_eq (show seqSlot? (.type "list") (dunderI "add") = pure (some (.builtin "list.__iadd__")) from PySem.seqSlot_of PySem.F.slot_list_iadd.lookup (by decide +kernel)) ?_)
  refine wpAny_bind (wpAny_rule (wpAny_call (codeAny_call_builtin PySem.F.slot_list_iadd.plain PySem.F.entry_list_iadd (PySem.F.slot_list_iadd.check _ _ _ _ _ _ _ _ ha (PySem.F.args_list_iadd_2 _ _) ?_))))
  show wpAny _ _ (Builtin.List.listExtendWith (.ref l) (.ref l') (.ref l)) _ _ _
  unfold Builtin.List.listExtendWith
  refine wpAny_bind (wpAny_typeOf (T := "list") ⟨ob, h1, h2⟩ ?_)
  simp only [beq_self_eq_true, Bool.or_true, Bool.true_or, if_true]
  refine wpAny_bind ?_
  unfold Builtin.List.listItems
  refine wpAny_bind (wpAny_seqItems h1 h3 (wpAny_pure ?_))
  refine wpAny_bind ?_
  refine wpAny_bind (wpAny_seqItems ho rfl (wpAny_pure ?_))
  have fit : ¬ ((!vs.toArray.isEmpty && Builtin.List.listTooLong (vs.toArray.size + us.toArray.size)) = true) := by
    unfold Builtin.List.listTooLong; simp; intro _; omega
  show wpAny _ _ (if (!vs.toArray.isEmpty && Builtin.List.listTooLong (vs.toArray.size + us.toArray.size)) = true then _ else _) _ _ _
  rw [if_neg fit]
  show wpAny _ _ (updateSeq l (· ++ us.toArray) >>= fun _ => ret (.ref l)) _ _ _
  refine wpAny_bind (wpAny_updateSeq (hz := by simp; omega) (_hz' := by simp; omega) ho rfl ?_)
  exact wpAny_pure (k _ (F.turned m p (by simp)))
theorem cPop (F : Fm env S g₀ h₀ g μ lc h) (m : (l, lst (vs ++ [v])) ∈ μ) (p : MPut μ l (lst vs) μ') (hz : vs.length + 1 ≤ sizeLine) (k : ∀ h', Fm env S g₀ h₀ g μ' lc h' → Q v (St c h' t)) : Wp w A (call (.builtin "list.pop") [.ref l]) Q (St c h t) := by
  obtain ⟨⟨o, ho, n, rfl⟩, _⟩ := F.mu _ m
  refine ⟨call_meets (s := St c h t) PySem.F.slot_list_pop ⟨_, ho, rfl⟩ PySem.F.entry_list_pop (PySem.F.args_list_pop_1 _) (MeetsSeq.list_pop_last l (vs ++ [v]).toArray n v (by simp) (by simp; omega)) ⟨ho, ?_⟩⟩
  exact k _ (F.turned m p (by simp [Array.eraseIdxIfInBounds, List.eraseIdx_append_of_length_le]))
theorem oAddL (F : Fm env S g₀ h₀ g μ lc h) (hl : h.IsList l vs.toArray) (hb : h.IsList l' us.toArray) (hz : vs.length + us.length ≤ sizeLine)
    (k : ∀ l' g' h', Fm env S g₀ h₀ g' μ lc h' → Le g g' → g'.IsList l' (vs ++ us).toArray → Q (.ref l') (St c h' t)) : Wp w A (binaryOp .Add (.ref l) (.ref l')) Q (St c h t) := by
  obtain ⟨⟨cls, dd, data, sl⟩, ho, hc, n, hd⟩ := id hl
  obtain ⟨⟨cls2, dd2, data2, sl2⟩, ho2, hc2, n2, hd2⟩ := id hb
  simp only at hc hd hc2 hd2
  subst hc hd hc2 hd2
  obtain ⟨g', X, Y, Z⟩ := F.made (o := { cls := .type "list", data := .seq (vs ++ us).toArray }) rfl
  have e : vs.toArray ++ us.toArray = (vs ++ us).toArray := by simp
  refine ⟨concat_meets (s := St c h t) ⟨_, ho, rfl⟩ ⟨_, ho2, rfl⟩ noFill_list_add seq_list_add PySem.F.slot_list_add PySem.F.entry_list_add (PySem.F.args_list_add_2 _ _) (list_addW l l' vs.toArray us.toArray n n2 dd dd2 sl sl2 (by simpa using hz)) ⟨ho, ho2, ?_⟩⟩
  rw [e]
  exact k _ _ _ X Y ⟨_, Z, rfl, _, rfl⟩
theorem oAddT (F : Fm env S g₀ h₀ g μ lc h) (hl : g.IsTuple l vs.toArray) (hb : g.IsTuple l' us.toArray) (hz : vs.length + us.length ≤ sizeLine)
    (k : ∀ l' g' h', Fm env S g₀ h₀ g' μ lc h' → Le g g' → g'.IsTuple l' (vs ++ us).toArray → Q (.ref l') (St c h' t)) : Wp w A (binaryOp .Add (.ref l) (.ref l')) Q (St c h t) := by
  obtain ⟨⟨cls, dd, data, sl⟩, ho, hc, n, hd⟩ := id hl
  obtain ⟨⟨cls2, dd2, data2, sl2⟩, ho2, hc2, n2, hd2⟩ := id hb
  simp only at hc hd hc2 hd2
  subst hc hd hc2 hd2
  have ho' := F.gw.sub _ _ ho
  have ho2' := F.gw.sub _ _ ho2
  have e : vs.toArray ++ us.toArray = (vs ++ us).toArray := by simp
  by_cases hv : vs = []
  · exact ⟨concat_meets (s := St c h t) ⟨_, ho', rfl⟩ ⟨_, ho2', rfl⟩ noFill_tuple_add seq_tuple_add PySem.F.slot_tuple_add PySem.F.entry_tuple_add (PySem.F.args_tuple_add_2 _ _)
      (tuple_addW0 l l' vs.toArray us.toArray n n2 dd dd2 sl sl2 (by simp [hv])) ⟨ho', ho2', k _ _ _ F (Le.refl _) (by simpa [hv] using hb)⟩⟩
  · by_cases hw : us = []
    · exact ⟨concat_meets (s := St c h t) ⟨_, ho', rfl⟩ ⟨_, ho2', rfl⟩ noFill_tuple_add seq_tuple_add PySem.F.slot_tuple_add PySem.F.entry_tuple_add (PySem.F.args_tuple_add_2 _ _)
        (tuple_addW1 l l' vs.toArray us.toArray n n2 dd dd2 sl sl2 (by simpa using hv) (by simp [hw])) ⟨ho', ho2', k _ _ _ F (Le.refl _) (by simpa [hw] using hl)⟩⟩
    · obtain ⟨g', X, Y, Z⟩ := F.made (o := { cls := .type "tuple", data := .seq (vs ++ us).toArray }) rfl
      refine ⟨concat_meets (s := St c h t) ⟨_, ho', rfl⟩ ⟨_, ho2', rfl⟩ noFill_tuple_add seq_tuple_add PySem.F.slot_tuple_add PySem.F.entry_tuple_add (PySem.F.args_tuple_add_2 _ _)
        (tuple_addW2 l l' vs.toArray us.toArray n n2 dd dd2 sl sl2 (by simpa using hv) (by simpa using hw) (by rw [List.size_toArray, List.size_toArray]; exact hz)) ⟨ho', ho2', ?_⟩⟩
      rw [e]
      exact k _ _ _ X Y ⟨_, Z, rfl, _, rfl⟩
/-- items -/
theorem tItemN {value slice : Expr} {k : Int} {u : Tok} (hl : s.heap.IsList l vs.toArray) (h0 : k < 0) (h1 : -(vs.length : Int) ≤ k) (hf : -(2 ^ 63) ≤ k) (hx : vs[(k + vs.length).toNat]? = some v) (hs : noSl slice = true) (q : Q v s) : Wp w A (subscriptTail value slice (.ref l) (.int k u)) Q s :=
  ⟨tail_any (ops := [.ref l, .int k u]) hl.typeIs slot_list_getitem.lookup (wpAny_getItem_list_neg hl h0 (by simpa using h1) hf (by simpa using hx) q) (sub_noSl hs _ _)⟩
theorem tItemU {value slice : Expr} {k : Int} {u : Tok} (hl : s.heap.IsTuple l vs.toArray) (h0 : 0 ≤ k) (hf : k < 2 ^ 63) (hx : vs[k.toNat]? = some v) (hs : noSl slice = true) (q : Q v s) : Wp w A (subscriptTail value slice (.ref l) (.int k u)) Q s := by
  have ht : IsTup s.heap l vs.toArray := hl
  refine ⟨tail_any (ops := [.ref l, .int k u]) ht.typeIs slot_tuple_getitem.lookup (PyProof.Rows.getItem_tuple (j := k.toNat) ht (by omega) hf ?_ (by simpa using hx) q) (sub_noSl hs _ _)⟩
  have : k.toNat < vs.length := by
    rcases Nat.lt_or_ge k.toNat vs.length with z | z
    · exact z
    · rw [List.getElem?_eq_none z] at hx; cases hx
  have e : ¬ k < 0 := by omega
  unfold seqIndex?
  simp only [e, if_false, List.size_toArray]
  rw [if_pos (by simp only [Bool.and_eq_true, decide_eq_true_eq]; omega)]
/-- max of two, abs -/
theorem cMax (hh : A.handled = none) (F : Fm env S g₀ h₀ g μ lc h) (k : ∀ u h' t', Fm env S g₀ h₀ g μ lc h' → Q (.int (max m n) u) (St c h' t')) : Wp w A (call (.builtin "max") [.int m i, .int n j]) Q (St c h t) :=
  ⟨max_two_ints (s := St c h t) hh fun h' tk hk => by
    by_cases c0 : n > m
    · rw [if_pos c0]; have := k j h' tk (F.ext hk); rwa [show max m n = n by omega] at this
    · rw [if_neg c0]; have := k i h' tk (F.ext hk); rwa [show max m n = m by omega] at this⟩
theorem cAbs (k : ∀ u t', Q (.int (if n < 0 then -n else n) u) (St c h t')) : Wp w A (call (.builtin "abs") [.int n i]) Q (St c h t) := ⟨call_abs_int (s := St c h t) fun u t' => k u t'⟩
/-- a conditional expression -/
def onIf (w : World) (A : Around) (body orelse : Expr) (env : Env) (Q : Value → Shared → Prop) : Bool → Shared → Prop
  | true, s => Wp w A (eval body env) Q s
  | false, s => Wp w A (eval orelse env) Q s
theorem eIf {test body orelse : Expr} (k : Wp w A (isTrue test env (eval test env)) (onIf w A body orelse env Q) s) : Wp w A (eval (.IfExp test body orelse pos) env) Q s :=
  ⟨wpAny_IfExp (k.to fun b _ q => by cases b <;> exact q.go)⟩
/-- x op= e -/
theorem xAug {op : Operator} {value : Expr} {rest : List Stmt} {Q : Flow → Shared → Prop} (k : Wp w A (loadName env x) (fun old s₁ => Wp w A (eval value env) (fun v s₂ => Wp w A (inplaceOp op old v) (fun r s₃ => Wp w A (storeName env x r) (fun _ s₄ => Wp w A (execs rest env) Q s₄) s₃) s₂) s₁) s) :
    Wp w A (execs (.AugAssign (.Name x p) op value pos :: rest) env) Q s :=
  ⟨wpAny_execs_cons (wpAny_AugAssign_Name (k.to fun _ _ k => k.to fun _ _ k => k.to fun _ _ k => k.to fun _ _ k => k.go))⟩
theorem oIaddI (k : ∀ u t', Q (.int (m + n) u) (St c h t')) : Wp w A (inplaceOp .Add (.int m i) (.int n j)) Q (St c h t) := ⟨PyProof.Rows.iadd_int (s := St c h t) (k _ _)⟩
/-- truth -/
theorem tLst (hl : h.IsList l vs.toArray) (hz : (vs.length : Int) < 2 ^ 63) {Q : Bool → Shared → Prop} (k : ∀ t', Q (!vs.isEmpty) (St c h t')) : Wp w A (truthy (.ref l)) Q (St c h t) := ⟨wpAny_truthy_list (s := St c h t) hl (by simpa using hz) (by simpa using k _)⟩
/-- while -/
theorem xWhile {test : Expr} {body rest : List Stmt} {Q : Flow → Shared → Prop} (I : Nat → Shared → Prop) (n : Nat) (i0 : I n s)
    (turn : ∀ n s, I n s → Wp w A (isTrue test env (eval test env)) (fun b s₂ => if b = true then Wp w A (execs body env) (fun f s₃ => (f = .next ∨ f = .cont) ∧ ∃ m, m < n ∧ I m s₃) s₂ else Wp w A (execs rest env) Q s₂) s) :
    Wp w A (execs (.While test body [] pos :: rest) env) Q s := by
  refine xCons ⟨wpAny_While (codeAny_whileLoop (R := fun r s' => match r with | .ok f => thenDo w A rest env Q f s' | .error e => cameBackBy (model prg w) A env (fun _ _ => False) e s') I (fun n s i => ?_) n i0)⟩
  refine (turn n s i).to fun b s₂ q => ?_
  cases b with
  | true =>
    simp only [if_true] at q ⊢
    refine q.to fun f s₃ q => ?_
    obtain ⟨e, q⟩ := q
    rcases e with rfl | rfl <;> exact q
  | false =>
    simp only [Bool.false_eq_true, if_false] at q ⊢
    exact wpAny_execs_nil q
end
end TL

end
section
open PySem PySem.W PyProof.Rows PySem.Calls Builtin Builtin.ObjectAttr PySem.SeqAt
set_option maxRecDepth 100000
set_option linter.unusedVariables false
set_option linter.unusedSimpArgs false
namespace TL
open TL
/-- a cell that holds v -/
def celO (v : Option Value) (o : Obj) : Prop := o.data = .cell v
section
variable {w : World} {A : Around} {env : Env} {S : List Addr} {h g g₀ h₀ : Heap} {μ μ' : Mu} {lc lc' : Lc} {c : Shared} {t : Tok} {v : Value} {x : Str} {pos : Pos} {C : Addr} {v₀ : Option Value}
theorem Fm.cel {o : Option Value} (F : Fm env S g₀ h₀ g μ lc h) (m : (C, celO o) ∈ μ) : h.IsCell C o := let ⟨⟨o, a, b⟩, _⟩ := F.mu _ m; ⟨o, a, b⟩
theorem ldcn {Q : Value → Shared → Prop} (F : Fm env S g₀ h₀ g μ lc h) (m : (C, celO (some v)) ∈ μ) (hk : env.kindOf x = some .cell) (hc : env.cells.lookup x = some C) (k : Q v (St c h t)) : Wp w A (loadName env x) Q (St c h t) :=
  ⟨wpAny_loadName_cell (s := St c h t) F.kf hk hc (F.cel m) k⟩
theorem ldc {Q : Value → Shared → Prop} (F : Fm env S g₀ h₀ g μ lc h) (m : (C, celO (some v)) ∈ μ) (hk : env.kindOf x = some .cell) (hc : env.cells.lookup x = some C) (k : Q v (St c h t)) (hd : (x == ("__debug__" : Str)) = false := by decide) : Wp w A (eval (.Name x pos) env) Q (St c h t) :=
  ⟨wpAny_Name (ldcn F m hk hc k).go hd⟩
theorem stC {Q : Unit → Shared → Prop} (F : Fm env S g₀ h₀ g μ lc h) (m : (C, celO v₀) ∈ μ) (p : MPut μ C (celO (some v)) μ') (hk : env.kindOf x = some .cell) (hc : env.cells.lookup x = some C) (k : ∀ h', Fm env S g₀ h₀ g μ' lc h' → Q () (St c h' t)) : Wp w A (storeName env x v) Q (St c h t) := by
  refine ⟨wpAny_storeName_cell (s := St c h t) F.kf hk hc (F.cel m) fun h' hv hs => ?_⟩
  obtain ⟨o, ho, hd⟩ := hv
  exact k h' (F.upd p hs ho hd)
end

/-- a comprehension's closure over the cells -/
def cloL (cells : List (Str × Addr)) : List (Str × NameKind) → List (Str × Addr) → Option (List (Str × Addr))
  | [], acc => some acc
  | (n, k) :: r, acc => if k == .free then (match cells.lookup n with | some a => cloL cells r ((n, a) :: acc) | none => none) else cloL cells r acc
theorem closure_of {scope : Scope} {env : Env} {cl : List (Str × Addr)} (e : cloL env.cells scope.names [] = some cl) : closureFor scope env = pure cl := by
  unfold closureFor
  have go : ∀ (names : List (Str × NameKind)) (acc : List (Str × Addr)), cloL env.cells names acc = some cl →
      (forIn names acc fun x cs => (match x with | (name, kind) => if (kind == .free) = true then do let a ← cellOf env name; pure (ForInStep.yield ((name, a) :: cs)) else pure (ForInStep.yield cs) : Sem (ForInStep (List (Str × Addr))))) = pure cl := by
    intro names
    induction names with
    | nil => intro acc h; cases h; rfl
    | cons p r ih =>
      obtain ⟨n, k⟩ := p
      intro acc h
      rw [List.forIn_cons]
      unfold cloL at h
      by_cases q : (k == NameKind.free) = true
      · rw [if_pos q] at h
        simp only [q, if_true]
        cases hc : env.cells.lookup n with
        | none => rw [hc] at h; cases h
        | some a =>
          rw [hc] at h
          have e : cellOf env n = pure a := by unfold cellOf; rw [hc]
          rw [e]
          exact ih _ h
      · rw [if_neg q] at h
        simp only [q, if_false]
        exact ih _ h
  have := go scope.names [] e
  simp only [this]
  first | rfl | (rw [this]; rfl)
theorem look_relabel {env : Env} : ∀ {names : List (Str × NameKind)} {x : Str} {k : NameKind}, names.lookup x = some k → k ≠ .free →
    (names.map fun (n, k) => if (k == NameKind.free && env.scope.kind == .function && env.kindOf n == some .cell) then (n, NameKind.cell) else (n, k)).lookup x = some k
  | [], _, _, h, _ => by simp at h
  | (n, k') :: r, x, k, h, hk => by
    have ih := @look_relabel env r x k
    show List.lookup x ((if (k' == NameKind.free && env.scope.kind == .function && env.kindOf n == some .cell) = true then (n, NameKind.cell) else (n, k')) :: _) = _
    cases hx : x == n with
    | true =>
      simp only [List.lookup_cons, hx] at h
      cases h
      have e : (k' == NameKind.free) = false := by simpa using hk
      rw [e, Bool.false_and, Bool.false_and, if_neg (by decide)]
      simp only [List.lookup_cons, hx]
    | false =>
      simp only [List.lookup_cons, hx] at h
      by_cases hc : (k' == NameKind.free && env.scope.kind == .function && env.kindOf n == some .cell) = true
      · rw [if_pos hc]; simp only [List.lookup_cons, hx]; exact ih h hk
      · rw [if_neg hc]; simp only [List.lookup_cons, hx]; exact ih h hk
theorem look_free {env : Env} : ∀ {names : List (Str × NameKind)} {x : Str}, names.lookup x = some .free → env.scope.kind = .function → env.kindOf x = some .cell →
    (names.map fun (n, k) => if (k == NameKind.free && env.scope.kind == .function && env.kindOf n == some .cell) then (n, NameKind.cell) else (n, k)).lookup x = some .cell
  | [], _, h, _, _ => by simp at h
  | (n, k') :: r, x, h, h1, h2 => by
    have ih := @look_free env r x
    show List.lookup x ((if (k' == NameKind.free && env.scope.kind == .function && env.kindOf n == some .cell) = true then (n, NameKind.cell) else (n, k')) :: _) = _
    cases hx : x == n with
    | true =>
      simp only [List.lookup_cons, hx] at h
      cases h
      have e : x = n := by simpa using hx
      subst e
      rw [if_pos (by rw [h1, h2]; decide)]
      simp only [List.lookup_cons, hx]
    | false =>
      simp only [List.lookup_cons, hx] at h
      by_cases hc : (k' == NameKind.free && env.scope.kind == .function && env.kindOf n == some .cell) = true
      · rw [if_pos hc]; simp only [List.lookup_cons, hx]; exact ih h h1 h2
      · rw [if_neg hc]; simp only [List.lookup_cons, hx]; exact ih h h1 h2
theorem glC {sc : Scope} {env : Env} {x : Str} {cl : List (Str × Addr)} {C : Addr} (h : Gl sc x) : Gl (compEnvC sc cl C env).scope x := ⟨look_relabel h.1 (by decide), h.2⟩
theorem kindC {sc : Scope} {env : Env} {x : Str} {cl : List (Str × Addr)} {C : Addr} (h : sc.names.lookup x = some .free) (h1 : env.scope.kind = .function) (h2 : env.kindOf x = some .cell) : (compEnvC sc cl C env).kindOf x = some .cell := look_free h h1 h2

section
variable {w : World} {A : Around} {g h : Heap} {c : Shared} {t : Tok} {K : Frag} {mg mb : Str → Option Value}
/-- a name's kind in a def -/
def kOf (st : Stmt) (x : Str) : Option NameKind := (scopeOf st).names.lookup x
/-- what is closed of a def with cells -/
def okFnC (st : Stmt) (ls : List Str) : Bool :=
  (scopeOf st).kind == .function && !(scopeOf st).isGenerator && !(scopeOf st).isCoroutine && decide ls.Nodup && ls.all fun x => (scopeOf st).names.lookup x == some .local && !(x == ("__debug__" : Str))
theorem code_fnC {f : Addr} {st : Stmt} {vals : List Value} {n : Nat} {R : Result → Shared → Prop} {S : List Addr} (binds : List (Str × Value)) (lc : Lc) (cs : Nat → List (Str × Addr)) (μ : Nat → Mu) (W : Wg K mg mb g) (fn : Fn K f st) (l : Le g h) (room : Room A (n + 1)) (ok : okFnC st (lc.map (·.1)) = true)
    (hb : ∀ nm q doc pm an cdv ct, bindArgs (fnOf nm q (argsOf st) (bodyOf st) (scopeOf st) .none .none doc pm an cdv ct) ⟨vals, []⟩ = pure binds)
    (hcs : ∀ L, cellsFrom (L + 1) (scopeOf st).names [] = cs L) (hks : ∀ L, ∀ x ∈ binds, (scopeOf st).names.lookup x.1 = some .local ∨ ((scopeOf st).names.lookup x.1 = some .cell ∧ ((cs L).lookup x.1).isSome = true))
    (hlc : ∀ p ∈ lc, bindL (kOf st) binds (fun _ => none) p.1 = p.2) (hμ : ∀ L, μ L = (cs L).map fun p => (p.2, celO (bindC (kOf st) binds (fun _ => none) p.1)))
    (hnd : ∀ L, ((cs L).map (·.1)).Nodup)
    (k : ∀ env h₁ t₁ A' L, Room A' n → env.scope = scopeOf st → env.cells = cs L → Le h h₁ → Fm env S g h g (μ L) lc h₁ →
      Wp w A' (execs (bodyOf st) env) (fun fl s' => R (.ok (.ret (retOf fl))) s') (St c h₁ t₁)) :
    codeAny (model prg w) A (.call (.ref f) ⟨vals, []⟩) R (St c h t) := by
  obtain ⟨oc, od, osl, name, qual, doc, pm, an, cdv, ct, ho, hcd⟩ := fn
  simp only [okFnC, Bool.and_eq_true, beq_iff_eq, Bool.not_eq_true', List.all_eq_true, decide_eq_true_eq] at ok
  obtain ⟨⟨⟨⟨e1, e2⟩, e3⟩, e4⟩, e5⟩ := ok
  refine codeAny_call_cells (s := St c h t) (fd := fnOf name qual (argsOf st) (bodyOf st) (scopeOf st) .none .none doc pm an cdv ct) (body := bodyOf st) (binds := binds) room.lt (l _ _ (W.k _ _ ho)) rfl (W.nolimit.keeps l)
    ((codeRec_of W.k hcd).keeps l) rfl (hb ..) rfl (fun x hx => ?_) (fun s₁ x => ?_) e3 e2 e1
  · have := hks h.objs.size x hx
    rwa [← hcs] at this
  obtain ⟨⟨⟨h₁, t₁, rfl⟩, hn, hk, hfr⟩, hcell, hap, hab⟩ := x
  have hcells : (callEnvC (fnOf name qual (argsOf st) (bodyOf st) (scopeOf st) .none .none doc pm an cdv ct) h.objs.size f).cells = cs h.objs.size := hcs _
  generalize henv : callEnvC (fnOf name qual (argsOf st) (bodyOf st) (scopeOf st) .none .none doc pm an cdv ct) h.objs.size f = env at *
  have hsc : env.scope = scopeOf st := by rw [← henv]; rfl
  have hloc : env.locals = h.objs.size := by rw [← henv]; rfl
  have hgl : env.globals = mainGlobals := by rw [← henv]; rfl
  have hbi : env.builtins = builtinsNs := by rw [← henv]; rfl
  have hkd : env.kindOf = kOf st := by rw [← henv]; rfl
  have none_big : ∀ x : Heap, Le x h → ∀ a, h.objs.size ≤ a → x.get? a = none := fun x lx a ha => by
    cases q : x.get? a with
    | none => rfl
    | some o => exact absurd (Heap.lt_size (lx _ _ q)) (Nat.not_lt.mpr ha)
  rw [hkd, hcells] at hcell
  refine (k env h₁ _ _ h.objs.size (room.deeper _) hsc hcells hk ?_).to (fun fl s' q => ?_)
  · exact {
      gw := ⟨Le.refl g, fun b o e => hk b o (l b o e), fun a o _ e => hk a o e, fun a o e => .inl e, fun a e => by
        cases q : h.get? a with
        | none => rfl
        | some o => rw [hk a o q] at e; cases e⟩
      ns := ⟨_, hn, fun p hp => by rw [hkd]; exact hlc p hp⟩
      offL := none_big g l _ (by rw [hloc]; exact Nat.le_refl _)
      newL := none_big h (Le.refl h) _ (by rw [hloc]; exact Nat.le_refl _)
      mu := fun p hp => by
        rw [hμ] at hp
        obtain ⟨q, hq, rfl⟩ := List.mem_map.mp hp
        have lt : h.objs.size < q.2 := by
          have := hab q.1 q.2 (by rw [hcells]; exact hq)
          rwa [hloc] at this
        have lk : (cs h.objs.size).lookup q.1 = some q.2 := by
          have nd := hnd h.objs.size
          clear hcell hcells hap hab hp hcs hks hμ lt
          generalize cs h.objs.size = L at *
          induction L with
          | nil => cases hq
          | cons r R ih =>
            rw [List.map_cons, List.nodup_cons] at nd
            rcases List.mem_cons.mp hq with rfl | hq
            · rw [List.lookup_cons, beq_self_eq_true]
            · have : (q.1 == r.1) = false := by
                have : q.1 ≠ r.1 := fun z => nd.1 (z ▸ List.mem_map_of_mem (f := (·.1)) hq)
                simpa using this
              rw [List.lookup_cons, this]
              exact ih hq nd.2
        obtain ⟨o, a, b⟩ := hcell _ _ lk
        exact ⟨⟨o, a, b⟩, none_big g l _ (Nat.le_of_lt lt), by rw [hloc]; exact Nat.ne_of_gt lt, .inr (none_big h (Le.refl h) _ (Nat.le_of_lt lt))⟩
      nd := e4
      ndm := by
        rw [hμ, List.map_map]
        have : ((cs h.objs.size).map ((·.1) ∘ fun p : Str × Addr => (p.2, celO (bindC (kOf st) binds (fun _ => none) p.1)))) = (cs h.objs.size).map (·.2) := by simp [Function.comp_def]
        rw [this, List.nodup_iff_pairwise_ne, List.pairwise_map]
        rw [hcells] at hap
        exact hap
      kd := fun p hp => by
        rw [hkd]
        exact e5 p.1 (List.mem_map_of_mem hp)
      kf := by rw [hsc]; exact e1
      gl := hgl
      bi := hbi }
  · cases fl <;> exact q
theorem call_fnC {f : Addr} {st : Stmt} {vals : List Value} {n : Nat} {Q : Value → Shared → Prop} {S : List Addr} (binds : List (Str × Value)) (lc : Lc) (cs : Nat → List (Str × Addr)) (μ : Nat → Mu) (W : Wg K mg mb g) (fn : Fn K f st) (l : Le g h) (room : Room A (n + 1)) (ok : okFnC st (lc.map (·.1)) = true)
    (hb : ∀ nm q doc pm an cdv ct, bindArgs (fnOf nm q (argsOf st) (bodyOf st) (scopeOf st) .none .none doc pm an cdv ct) ⟨vals, []⟩ = pure binds)
    (hcs : ∀ L, cellsFrom (L + 1) (scopeOf st).names [] = cs L) (hks : ∀ L, ∀ x ∈ binds, (scopeOf st).names.lookup x.1 = some .local ∨ ((scopeOf st).names.lookup x.1 = some .cell ∧ ((cs L).lookup x.1).isSome = true))
    (hlc : ∀ p ∈ lc, bindL (kOf st) binds (fun _ => none) p.1 = p.2) (hμ : ∀ L, μ L = (cs L).map fun p => (p.2, celO (bindC (kOf st) binds (fun _ => none) p.1)))
    (hnd : ∀ L, ((cs L).map (·.1)).Nodup)
    (k : ∀ env h₁ t₁ A' L, Room A' n → env.scope = scopeOf st → env.cells = cs L → Le h h₁ → Fm env S g h g (μ L) lc h₁ →
      Wp w A' (execs (bodyOf st) env) (fun fl s' => Q (retOf fl) s') (St c h₁ t₁)) :
    Wp w A (call (.ref f) vals) Q (St c h t) := ⟨wpAny_call (code_fnC binds lc cs μ W fn l room ok hb hcs hks hlc hμ hnd k)⟩
end
end TL

end
section
open PySem PySem.W PyProof.Rows PySem.Calls Builtin Builtin.ObjectAttr PySem.SeqAt
set_option maxRecDepth 100000
set_option linter.unusedVariables false
set_option linter.unusedSimpArgs false
namespace TL
open TL
theorem Gw.drop {S : List Addr} {g₀ h₀ g h : Heap} (x : Gw S g₀ h₀ g h) : Gw S g₀ h₀ g₀ h := ⟨.refl _, x.le.trans x.sub, x.ext, fun _ _ e => .inl e, x.live⟩
theorem mem_key {α β : Type} {l : List (α × β)} (nd : (l.map (·.1)).Nodup) {p q : α × β} (hp : p ∈ l) (hq : q ∈ l) (e : p.1 = q.1) : p = q := by
  induction l with
  | nil => cases hp
  | cons r R ih =>
    rw [List.map_cons, List.nodup_cons] at nd
    rcases List.mem_cons.mp hp with hp | hp <;> rcases List.mem_cons.mp hq with hq | hq
    · rw [hp, hq]
    · exact absurd (by rw [← hp, e]; exact List.mem_map_of_mem (f := (·.1)) hq) nd.1
    · exact absurd (by rw [← hq, ← e]; exact List.mem_map_of_mem (f := (·.1)) hp) nd.1
    · exact ih nd.2 hp hq
section
variable {env : Env} {S S' : List Addr} {g₀ h₀ g h h' g' hB gB : Heap} {μ μ' : Mu} {lc : Lc} {a : Addr} {P : Obj → Prop} {o o' : Obj}
/-- behind a call that writes to things of ours -/
theorem Fm.callG (F : Fm env S g₀ h₀ g μ lc h) (G : Gw S' g h g' h') (hS : ∀ a ∈ S', a ∈ μ.map (·.1)) (hk : μ'.map (·.1) = μ.map (·.1)) (hm : ∀ p ∈ μ', (p.1 ∉ S' ∧ p ∈ μ) ∨ (∃ o, h'.get? p.1 = some o ∧ p.2 o)) : Fm env S g₀ h₀ g' μ' lc h' := by
  have inμ : ∀ b, b ∈ μ.map (·.1) → ∃ p ∈ μ, p.1 = b := fun b hb => by obtain ⟨p, hp, e⟩ := List.mem_map.mp hb; exact ⟨p, hp, e⟩
  have gn : ∀ b, g.get? b = none → (∃ o, h.get? b = some o) → g'.get? b = none := fun b e1 e2 => by
    cases w : g'.get? b with
    | none => rfl
    | some o' =>
      obtain ⟨o, e2⟩ := e2
      rcases G.fr _ _ w with z | z
      · rw [e1] at z; cases z
      · rw [e2] at z; cases z
  obtain ⟨m, ⟨oL, es, ep, hL, hr⟩, hl⟩ := F.ns
  have nL : env.locals ∉ S' := fun q => by
    obtain ⟨p, hp, e⟩ := inμ _ (hS _ q)
    exact (F.mu p hp).2.2.1 e
  refine { F with gw := ⟨F.gw.le.trans G.le, G.sub, fun b o n e => ?_, fun b o e => ?_, fun b e => F.gw.live b (G.live b e)⟩, ns := ⟨m, ⟨oL, es, ep, G.ext _ _ nL hL, hr⟩, hl⟩, offL := gn _ F.offL ⟨_, hL⟩, mu := fun q hq => ?_, ndm := by rw [hk]; exact F.ndm }
  · by_cases z : b ∈ S'
    · obtain ⟨p, hp, rfl⟩ := inμ _ (hS _ z)
      rcases (F.mu p hp).2.2.2 with q | q
      · exact absurd q n
      · rw [q] at e; cases e
    · exact G.ext _ _ z (F.gw.ext b o n e)
  · rcases G.fr b o e with q | q
    · exact F.gw.fr _ _ q
    · exact .inr (F.gw.live b q)
  · have : q.1 ∈ μ.map (·.1) := by rw [← hk]; exact List.mem_map_of_mem hq
    obtain ⟨p, hp, e⟩ := inμ _ this
    obtain ⟨⟨o, x, y⟩, z1, z2, z3⟩ := F.mu p hp
    refine ⟨?_, ?_, e ▸ z2, e ▸ z3⟩
    · rcases hm q hq with ⟨n, r⟩ | r
      · obtain ⟨⟨o, x, y⟩, _⟩ := F.mu q r
        exact ⟨o, G.ext _ _ n x, y⟩
      · exact r
    · rw [← e]; exact gn _ z1 ⟨_, x⟩
/-- a new thing of a call becomes ours -/
theorem Fm.adopt {g₁ : Heap} {μB : Mu} {lcB : Lc} (B : Fm env S g₀ h₀ gB μB lcB hB) (F : Fm env S g₀ h₀ g μ lc h) (hn : hB.get? a = none) (hμ' : ∀ p ∈ μ, p.1 ≠ a) (hg : g.get? a = none) (ho : h.get? a = some o) (hp : P o) : Fm env S g₀ h₀ g ((a, P) :: μ) lc h := by
  obtain ⟨n1, n2, n3, n4⟩ := B.none_new hn
  refine { F with mu := fun q hq => ?_, ndm := ?_ }
  · rcases List.mem_cons.mp hq with rfl | hq
    · exact ⟨⟨o, ho, hp⟩, hg, n2, .inr n3⟩
    · exact F.mu q hq
  · rw [List.map_cons, List.nodup_cons]
    refine ⟨fun z => ?_, F.ndm⟩
    obtain ⟨p, hp, e⟩ := List.mem_map.mp z
    exact hμ' p hp e
/-- what S writes to at the entry is a thing of ours -/
theorem Fm.own1 (F : Fm env S g₀ h₀ g μ lc h) (ho : h.get? a = some o) (hp : P o) (hS : a ∈ S) (hg : g.get? a = none) (hL : a ≠ env.locals) (hμ : ∀ p ∈ μ, p.1 ≠ a) : Fm env S g₀ h₀ g ((a, P) :: μ) lc h := by
  refine { F with mu := fun q hq => ?_, ndm := ?_ }
  · rcases List.mem_cons.mp hq with rfl | hq
    · exact ⟨⟨o, ho, hp⟩, hg, hL, .inl hS⟩
    · exact F.mu q hq
  · rw [List.map_cons, List.nodup_cons]
    refine ⟨fun z => ?_, F.ndm⟩
    obtain ⟨p, hp, e⟩ := List.mem_map.mp z
    exact hμ p hp e
theorem Fm.sliceH (F : Fm env S g₀ h₀ g μ lc h) (l u : Value) : ∃ g', Fm env S g₀ h₀ g' μ lc (h.push { cls := .type "slice", data := .fields #[l, u, .none] }) ∧ Le g g' ∧ g'.IsSliceOf h.objs.size l u .none ∧ g'.get? h.objs.size = some { cls := .type "slice", data := .fields #[l, u, .none] } := by
  obtain ⟨g', x, y, z⟩ := F.made (o := { cls := .type "slice", data := .fields #[l, u, .none] }) rfl
  exact ⟨g', x, y, ⟨_, z, rfl, rfl⟩, z⟩
theorem Fm.notL (F : Fm env S g₀ h₀ g μ lc h) (ho : h₀.get? a = some o) : a ≠ env.locals := fun q => by rw [q, F.newL] at ho; cases ho
theorem Fm.has {μ : Mu} (F : Fm env S g₀ h₀ g μ lc h) (m : (a, P) ∈ μ) : ∃ o, h.get? a = some o ∧ P o ∧ g.get? a = none := let ⟨⟨o, x, y⟩, z, _⟩ := F.mu _ m; ⟨o, x, y, z⟩
/-- the same keys, one turned -/
theorem Fm.imp {P' : Obj → Prop} (F : Fm env S g₀ h₀ g ((a, P) :: μ) lc h) (i : ∀ o, P o → P' o) : Fm env S g₀ h₀ g ((a, P') :: μ) lc h := by
  refine { F with mu := fun q hq => ?_, ndm := F.ndm }
  rcases List.mem_cons.mp hq with rfl | hq
  · obtain ⟨⟨o, x, y⟩, z⟩ := F.mu (a, P) (.head _)
    exact ⟨⟨o, x, i o y⟩, z⟩
  · exact F.mu q (.tail _ hq)
/-- the same heap, told otherwise -/
theorem Fm.re (F : Fm env S g₀ h₀ g μ lc h) (p : MPut μ a P μ') (ho : h.get? a = some o) (hp : P o) : Fm env S g₀ h₀ g μ' lc h := by
  refine { F with mu := fun q hq => ?_, ndm := by rw [p.keys]; exact F.ndm }
  obtain ⟨P₀, hm⟩ := p.key
  obtain ⟨_, z⟩ := F.mu _ hm
  rcases p.is F.ndm q hq with ⟨e1, e2⟩ | ⟨e1, e2⟩
  · rw [e1, e2]; exact ⟨⟨o, ho, hp⟩, z⟩
  · exact F.mu q e2
/-- what another ground tells of a call, told of ours -/
theorem Gw.base {gT g₁ : Heap} (G : Gw S gT h g₁ h') (l : Le g h) (n : ∀ a ∈ S, g.get? a = none) : Gw S g h g h' :=
  ⟨.refl _, fun b o e => G.ext b o (fun q => by rw [n b q] at e; cases e) (l b o e), G.ext, fun _ _ e => .inl e, G.live⟩
end

section
variable {w : World} {A : Around} {env : Env} {S : List Addr} {h g g₀ h₀ : Heap} {μ μ' : Mu} {lc lc' : Lc} {c : Shared} {t i j : Tok} {v a b : Value} {Q : Value → Shared → Prop} {s : Shared} {x y z : Str} {m n : Int} {l l' : Addr} {vs us : List Value} {pl : Sem Bool} {pos p p' : Pos}
theorem takeF {K : Frag} {mg mb : Str → Option Value} {d : Ad} {tp : Addr} {gT : Heap} {most : Int} {u : Tok} (X : Wk K mg mb d) (W : Wg K mg mb gT) (F : Fm env S g₀ h₀ g μ lc h) (mt : (tp, tapeO gT) ∈ μ) (lT : Le gT g) (hm : 0 < most) (room : Room A 2)
    (k : ∀ h' t' r v, Fm env S g₀ h₀ g μ lc h' → 0 ≤ r → r < most → Q (.int r v) (St c h' t')) : Wp w A (call (.ref d.take) [.ref tp, .int most u]) Q (St c h t) := by
  obtain ⟨o, ho, hp, hg⟩ := F.has mt
  have hno : gT.get? tp = none := by
    cases q : gT.get? tp with
    | none => rfl
    | some o => rw [lT _ _ q] at hg; cases hg
  refine take_spec X W hno ho hp (lT.trans F.gw.sub) hm room fun h' t' r v o' G e1 e2 r0 r1 => ?_
  have G' := G.base F.gw.sub (fun a ha => by rw [List.mem_singleton.mp ha]; exact hg)
  refine k h' t' r v (F.callG G' (fun a ha => by rw [List.mem_singleton.mp ha]; exact List.mem_map_of_mem (f := (·.1)) mt) rfl fun p hp => ?_) r0 r1
  by_cases q : p.1 = tp
  · refine .inr ⟨o', q ▸ e1, ?_⟩
    have : p = (tp, tapeO gT) := mem_key F.ndm hp mt q
    rw [this]; exact e2
  · exact .inl ⟨fun z => q (List.mem_singleton.mp z), hp⟩
/-- t1, t2 = e -/
theorem xUn2 {value : Expr} {rest : List Stmt} {n : Nat} {Q : Flow → Shared → Prop} (hh : A.handled = none)
    (k : Wp w A (eval value env) (fun v s₁ => ∃ h g μ lc t c l a b, s₁ = St c h t ∧ v = .ref l ∧ Fm env S g₀ h₀ g μ lc h ∧ g.IsTuple l [a, b].toArray ∧
      ∀ h' t', Fm env S g₀ h₀ g μ lc h' → Wp w A (storeName env x a) (fun _ s₂ => Wp w A (storeName env y b) (fun _ s₃ => Wp w A (execs rest env) Q s₃) s₂) (St c h' t')) s)
    (hs : swapsWithSole [.Tuple [.Name x p, .Name y p'] n pos] value pos.line env = pure false := by rfl) (hw : swappedStores [.Tuple [.Name x p, .Name y p'] n pos] value env = pure none := by rfl) :
    Wp w A (execs (.Assign [.Tuple [.Name x p, .Name y p'] n pos] value pos :: rest) env) Q s := by
  refine xCons ⟨Assign_Tuple (k.to fun v s₁ q => ?_) hs hw⟩
  obtain ⟨h, g, μ, lc, t, c, l, a, b, rfl, rfl, F, ht, k⟩ := q
  have ht' : (St c h t).heap.IsTuple l [a, b].toArray := let ⟨o, e, r⟩ := ht; ⟨o, F.gw.sub _ _ e, r⟩
  refine wpAny_assign_Tuple (s := St c h t) hh ht' (by rfl) (by rfl) fun h' hx => ?_
  have F' : Fm env S g₀ h₀ g μ lc h' := F.ext fun b o e => hx b o (fun q => by rw [q, none_size] at e; cases e) e
  show wpAny _ _ (assignInOrder [assign (.Name x p) env, assign (.Name y p') env] [a, b]) _ _ _
  refine wpAny_assignInOrder_more (wpAny_assign_Name ((k h' t F').to fun _ s₂ q => wpAny_assignInOrder_more (wpAny_assign_Name (q.to fun _ s₃ q => wpAny_assignInOrder_none q))))
/-- e1 and e2 as a value -/
theorem eAnd {e₁ e₂ : Expr} {rest : List Expr} (k : Wp w A (eval e₁ env) (fun v s₁ => Wp w A (truthy v) (fun b s₂ => if b = true then Wp w A (eval (.BoolOp .And (e₂ :: rest) pos) env) Q s₂ else Q v s₂) s₁) s) : Wp w A (eval (.BoolOp .And (e₁ :: e₂ :: rest) pos) env) Q s :=
  ⟨BoolOp_and (k.to fun _ _ k => k.to fun b _ k => by cases b <;> first | exact k.go | exact k)⟩
theorem eBoolOne {op : BoolOp} {e : Expr} (k : Wp w A (eval e env) Q s) : Wp w A (eval (.BoolOp op [e] pos) env) Q s := ⟨BoolOp_one k.go⟩
/-- o.attr = e -/
theorem xSetAttr {value o : Expr} {attr : Str} {rest : List Stmt} {Q : Flow → Shared → Prop} (k : Wp w A (eval value env) (fun v s₁ => Wp w A (eval o env) (fun ov s₂ => Wp w A (setAttr ov attr v) (fun _ s₃ => Wp w A (execs rest env) Q s₃) s₂) s₁) s) (hs : isComp value = false := by rfl) :
    Wp w A (execs (.Assign [.Attribute o attr p] value pos :: rest) env) Q s :=
  ⟨wpAny_execs_cons (plainObj_wpAny_Assign_Attribute (k.to fun _ _ k => k.to fun _ _ k => k.to fun _ _ k => k.go) (no_swap hs))⟩
end
end TL

end
section
open PySem PySem.W PyProof.Rows PySem.Calls
set_option maxRecDepth 100000
set_option linter.unusedVariables false
set_option linter.unusedSimpArgs false
namespace TL
open TL
/-- what the law speaks of: a word, or a label over parts -/
inductive Nd
  | leaf (w : Str)
  | node (l : Str) (cs : List Nd)
mutual
def Nd.py : Nd → PyData
  | .leaf w => .str w
  | .node l cs => .list [.str l, .list (pys cs)]
def pys : List Nd → List PyData
  | [] => []
  | c :: cs => c.py :: pys cs
end
theorem pys_map : ∀ cs : List Nd, pys cs = cs.map Nd.py
  | [] => by simp [pys]
  | c :: cs => by simp [pys, pys_map cs]
theorem Nd.py_leaf (w : Str) : (Nd.leaf w).py = .str w := by simp [Nd.py]
theorem Nd.py_node (l : Str) (cs : List Nd) : (Nd.node l cs).py = .list [.str l, .list (cs.map Nd.py)] := by simp [Nd.py, pys_map]
mutual
def Nd.dep : Nd → Nat
  | .leaf _ => 0
  | .node _ cs => deps cs + 1
def deps : List Nd → Nat
  | [] => 0
  | c :: cs => max c.dep (deps cs)
end
theorem dep_le {c : Nd} : ∀ {cs : List Nd}, c ∈ cs → c.dep ≤ deps cs
  | _ :: cs, .head _ => by simp only [deps]; omega
  | _ :: cs, .tail _ h => by have := dep_le h; simp only [deps]; omega
theorem dep_lt {c : Nd} {l : Str} {cs : List Nd} (h : c ∈ cs) : c.dep < (Nd.node l cs).dep := by have := dep_le h; simp only [Nd.dep]; omega
theorem deps_le {n : Nat} : ∀ {cs : List Nd}, (∀ c ∈ cs, c.dep ≤ n) → deps cs ≤ n
  | [], _ => Nat.zero_le _
  | c :: cs, h => by have h1 := h c (.head _); have h2 := deps_le fun x hx => h x (.tail _ hx); simp only [deps]; omega
mutual
def Nd.siz : Nd → Nat
  | .leaf _ => 1
  | .node _ cs => sizs cs + 1
def sizs : List Nd → Nat
  | [] => 0
  | c :: cs => c.siz + sizs cs
end
theorem siz_pos : ∀ n : Nd, 1 ≤ n.siz
  | .leaf _ => by simp [Nd.siz]
  | .node _ cs => by simp [Nd.siz]
theorem siz_le {c : Nd} : ∀ {cs : List Nd}, c ∈ cs → c.siz ≤ sizs cs
  | _ :: cs, .head _ => by simp only [sizs]; omega
  | _ :: cs, .tail _ h => by have := siz_le h; simp only [sizs]; omega
theorem siz_lt {c : Nd} {l : Str} {cs : List Nd} (h : c ∈ cs) : c.siz < (Nd.node l cs).siz := by have := siz_le h; simp only [Nd.siz]; omega
theorem len_sizs : ∀ cs : List Nd, cs.length ≤ sizs cs
  | [] => Nat.le_refl _
  | c :: cs => by have := len_sizs cs; have := siz_pos c; simp only [sizs, List.length_cons]; omega
theorem sizs_app : ∀ a b : List Nd, sizs (a ++ b) = sizs a + sizs b
  | [], b => by simp [sizs]
  | c :: a, b => by simp only [List.cons_append, sizs, sizs_app a b]; omega
/-- a word, a label: of one to four signs, none a bracket, none a blank -/
def okS (s : Str) : Bool := decide (1 ≤ s.length ∧ s.length ≤ 4) && s.cps.toList.all fun n => decide (42 ≤ n ∧ n < 127 ∧ n ≠ 90) || n == 39
mutual
def Nd.ok : Nd → Bool
  | .leaf w => okS w
  | .node l cs => okS l && oks cs
def oks : List Nd → Bool
  | [] => true
  | c :: cs => c.ok && oks cs
end
theorem oks_all : ∀ cs : List Nd, oks cs = cs.all Nd.ok
  | [] => by simp [oks]
  | c :: cs => by simp [oks, oks_all cs]
theorem ok_mem {c : Nd} {l : Str} {cs : List Nd} (h : (Nd.node l cs).ok = true) (hc : c ∈ cs) : c.ok = true := by
  simp only [Nd.ok, Bool.and_eq_true, oks_all, List.all_eq_true] at h
  exact h.2 c hc
mutual
/-- the text in brackets -/
def Nd.text : Nd → Str
  | .leaf w => w
  | .node l cs => ((("(" : Str) ++ l) ++ Txt.join "" (texts cs)) ++ ")"
def texts : List Nd → List Str
  | [] => []
  | c :: cs => ((" " : Str) ++ c.text) :: texts cs
end
theorem texts_map : ∀ cs : List Nd, texts cs = cs.map fun c => (" " : Str) ++ c.text
  | [] => by simp [texts]
  | c :: cs => by simp [texts, texts_map cs]
theorem Str.len_app (a b : Str) : (a ++ b).length = a.length + b.length := by
  show (Str.append a b).cps.size = _
  simp [Str.append, Str.length]
theorem join_nil : Txt.join "" [] = (⟨#[]⟩ : Str) := by decide +kernel
end TL

end
section
open PySem PySem.W PyProof.Rows PySem.Calls
set_option maxRecDepth 100000
set_option linter.unusedVariables false
set_option linter.unusedSimpArgs false
set_option pp.deepTerms false
set_option pp.deepTerms.threshold 4
set_option pp.maxSteps 2000
namespace TL
open TL
theorem join_len : ∀ xs : List Str, (Txt.join "" xs).length ≤ (xs.map (·.length)).sum := by
  intro xs
  have := StrLaws.join_length_le (Str.ofString "") xs
  have e : (Str.ofString "").length = 0 := by decide +kernel
  rw [e] at this
  show (Builtin.Str.glued _ xs).length ≤ _
  rw [StrLaws.glued_eq_join]
  simpa using this
mutual
theorem text_len : ∀ n : Nd, n.ok = true → n.text.length + 1 ≤ 7 * n.siz
  | .leaf w, h => by
    simp only [Nd.ok, okS, Bool.and_eq_true, decide_eq_true_eq] at h
    simp only [Nd.text, Nd.siz]; omega
  | .node l cs, h => by
    simp only [Nd.ok, okS, Bool.and_eq_true, decide_eq_true_eq] at h
    have h1 := texts_len cs h.2
    have h2 := join_len (texts cs)
    have e1 : (Str.ofString "(").length = 1 := by decide +kernel
    have e2 : (Str.ofString ")").length = 1 := by decide +kernel
    simp only [Nd.text, Nd.siz, Str.len_app, e1, e2]; omega
theorem texts_len : ∀ cs : List Nd, oks cs = true → ((texts cs).map (·.length)).sum ≤ 7 * sizs cs
  | [], _ => by simp [texts, sizs]
  | c :: cs, h => by
    simp only [oks, Bool.and_eq_true] at h
    have h1 := text_len c h.1
    have h2 := texts_len cs h.2
    have e1 : (Str.ofString " ").length = 1 := by decide +kernel
    simp only [texts, sizs, List.map_cons, List.sum_cons, Str.len_app, e1]; omega
end
local macro_rules | `(tactic| walk_at "at") => `(tactic| repeat (first | exact At.head | apply At.tail))
local macro_rules | `(tactic| walk_at "put") => `(tactic| repeat (first | exact Put.head | apply Put.tail))
section
variable {w : World} {A : Around} {g h : Heap} {c : Shared} {t : Tok} {Q : Value → Shared → Prop} {K : Frag} {mg mb : Str → Option Value} {d : Ad}
def psText : List Str := ["node"]
def osText : List Str := []
theorem okText : okFn (stI 11) psText osText = true := by decide +kernel
theorem gl_isi_text : Gl (scopeOf (stI 11)) (Str.ofString "isinstance") := by decide +kernel
theorem gl_str_text : Gl (scopeOf (stI 11)) (Str.ofString "str") := by decide +kernel
def compScope : Expr → Scope
  | .ListComp _ _ s _ => s
  | _ => ⟨.function, [], false, false, []⟩

theorem text_spec (X : Wk K mg mb d) : ∀ (n : Nat) (nd : Nd) {A : Around} {g h : Heap} {t : Tok} {v : Value} {Q : Value → Shared → Prop}, nd.dep ≤ n → Wg K mg mb g → Is g v nd.py → nd.ok = true → nd.siz ≤ 10000 → Le g h → Room A (n + 1) →
    (∀ g' h' t' u, Gw [] g h g' h' → Q (.str nd.text u) (St c h' t')) → Wp w A (call (.ref d.text) [v]) Q (St c h t) := by
  intro n
  induction n with
  | zero =>
    intro nd A g h t v Q hd W hv ok hz l room k
    cases nd with
    | node l cs => simp [Nd.dep] at hd
    | leaf x =>
      rw [Nd.py_leaf] at hv
      obtain ⟨u, rfl⟩ := hv.of_str
      refine call_fn psText osText (S := []) W X.text.2 l room okText (fun _ _ _ _ _ _ _ => rfl) rfl fun env h₁ t₁ A' R esc ecl hk ht F => ?_
      dsimp only [psText, osText, mkLc, List.map] at F
      refine xIf (tVal (eCallB F W (esc ▸ gl_isi_text) X.isi (sCons (ld F (by walk_at "at") (sCons (ldB F W (esc ▸ gl_str_text) X.str (sNil ?_)))))))
      refine isiGo says_str.at0 fun t₂ => tBool ?_
      refine xRet (ld F (by walk_at "at") ?_)
      simp only [Nd.text] at k
      exact k _ _ _ _ F.gw
  | succ n ih =>
    intro nd A g h t v Q hd W hv ok hz l room k
    cases nd with
    | leaf x =>
      rw [Nd.py_leaf] at hv
      obtain ⟨u, rfl⟩ := hv.of_str
      refine call_fn psText osText (S := []) W X.text.2 l room okText (fun _ _ _ _ _ _ _ => rfl) rfl fun env h₁ t₁ A' R esc ecl hk ht F => ?_
      dsimp only [psText, osText, mkLc, List.map] at F
      refine xIf (tVal (eCallB F W (esc ▸ gl_isi_text) X.isi (sCons (ld F (by walk_at "at") (sCons (ldB F W (esc ▸ gl_str_text) X.str (sNil ?_)))))))
      refine isiGo says_str.at0 fun t₂ => tBool ?_
      refine xRet (ld F (by walk_at "at") ?_)
      simp only [Nd.text] at k
      exact k _ _ _ _ F.gw
    | node lb cs =>
      rw [Nd.py_node] at hv
      obtain ⟨a, vs, rfl, hl, hi⟩ := hv.of_list
      obtain ⟨v1, e1, i1⟩ := hi.get (i := 0) rfl
      obtain ⟨v2, e2, i2⟩ := hi.get (i := 1) rfl
      obtain ⟨u1, rfl⟩ := i1.of_str
      obtain ⟨b, cvs, rfl, hlb, hib⟩ := i2.of_list
      refine call_fn psText osText (S := []) W X.text.2 l room okText (fun _ _ _ _ _ _ _ => rfl) rfl fun env h₁ t₁ A' R esc ecl hk ht F => ?_
      dsimp only [psText, osText, mkLc, List.map] at F
      refine xIf (tVal (eCallB F W (esc ▸ gl_isi_text) X.isi (sCons (ld F (by walk_at "at") (sCons (ldB F W (esc ▸ gl_str_text) X.str (sNil ?_)))))))
      refine isiGo (let ⟨o, x, y, _⟩ := F.gl' hl; (says_list_str x y).at0) fun t₂ => tBool (xNil ?_)
      refine xRet (eBin (eBin (eBin (eStr fun t₃ => eSub (ld F (by walk_at "at") (eInt fun t₄ => ?_))))))
      refine tItem (F.gl' hl) (by decide) (by decide) e1 rfl ?_
      have zt := text_len (.node lb cs) ok
      have okl : okS lb = true := by simp only [Nd.ok, Bool.and_eq_true] at ok; exact ok.1
      have okc : oks cs = true := by simp only [Nd.ok, Bool.and_eq_true] at ok; exact ok.2
      have zl : lb.length ≤ 4 := by simp only [okS, Bool.and_eq_true, decide_eq_true_eq] at okl; exact okl.1.2
      have zs := texts_len cs okc
      have zc := len_sizs cs
      have z0 : sizs cs + 1 = (Nd.node lb cs).siz := by simp [Nd.siz]
      have lv : cvs.length = cs.length := by rw [hib.len, List.length_map]
      have one : (Str.ofString "(").length = 1 := by decide +kernel
      have one' : (Str.ofString ")").length = 1 := by decide +kernel
      have one'' : (Str.ofString " ").length = 1 := by decide +kernel
      have nil' : (Str.ofString "").length = 0 := by decide +kernel
      refine oCat (by rw [one, sizeLine_eq]; omega) fun u₂ t₅ => ?_
      refine eMeth rfl rfl (by decide) (eStr fun t₆ => mJoin (cwB (sCons (eComp (cl := []) (closure_of (by rw [ecl]; decide +kernel)) (by decide +kernel) (eSub (ld F (by walk_at "at") (eInt fun t₇ => ?_)))))))
      refine tItem (F.gl' hl) (by decide) (by decide) e2 rfl ?_
      refine iLst F (F.gl' hlb) fun I h₂ t₈ hI F => ?_
      refine cloop0 (σ := Unit) (P := litr b) (n := cvs.length) (V := fun i v => cvs[i]? = some v) (μI := fun _ => []) () (fun i outs _ _ => StrAll outs ((texts cs).take i)) R.handled (by decide +kernel) (by rw [lv, sizeLine_eq]; omega) F hI (fun _ _ _ _ => selfL) (itrSq (.of_list hlb)) .nil ?_ ?_
      · intro i v outs _ g' h' t' D C Lo hi hv l' inv F
        refine eBin (eStr fun t₉ => eCallF F W (glC (by decide +kernel)) X.text (sCons (ld F (by walk_at "at") (sNil ⟨F.kin W, ?_⟩))))
        obtain ⟨d', e', id'⟩ := hib.at hv
        rw [List.getElem?_map] at e'
        obtain ⟨cd, ec, rfl⟩ := Option.map_eq_some_iff.mp e'
        have hm := List.mem_of_getElem? ec
        have hd' := dep_lt (l := lb) hm
        have hz' := siz_lt (l := lb) hm
        refine ih cd (by omega) (W.mono F.gw.le) (id'.mono l') (ok_mem ok hm) (by omega) F.gw.sub R fun g'' h'' t'' u G => ?_
        have zt' := text_len cd (ok_mem ok hm)
        refine oCat (by rw [one'', sizeLine_eq]; omega) fun u₃ t₁₀ => ?_
        refine Elt.mk' () G.le (F.call G) ?_
        have : (texts cs).take (i + 1) = (texts cs).take i ++ [Str.ofString " " ++ cd.text] := by
          rw [List.take_add_one, texts_map, List.getElem?_map, ec]; rfl
        rw [this]
        exact inv.app (.cons .nil)
      · intro outs _ g' h' t' D l' inv F hD
        rw [lv, List.take_of_length_le (by rw [texts_map, List.length_map]; exact Nat.le_refl _)] at inv
        refine sNil ?_
        refine cJoin (F.ml (.head _)) inv (by rw [nil']; omega) fun u₃ t₉ => ?_
        have jl := join_len (texts cs)
        refine oCat (by rw [Str.len_app, one, sizeLine_eq]; omega) fun u₄ t₁₀ => ?_
        refine eStr fun t₁₁ => ?_
        refine oCat (by rw [Str.len_app, Str.len_app, one, one', sizeLine_eq]; omega) fun u₅ t₁₂ => ?_
        simp only [Nd.text] at k
        exact k _ _ _ _ F.gw
end
end TL

end
section
open PySem PySem.W PyProof.Rows PySem.Calls
set_option maxRecDepth 100000
set_option linter.unusedVariables false
set_option linter.unusedSimpArgs false
set_option pp.deepTerms false
set_option pp.deepTerms.threshold 4
set_option pp.maxSteps 2000
namespace TL
open TL
local macro_rules | `(tactic| walk_at "at") => `(tactic| repeat (first | exact At.head | apply At.tail))
local macro_rules | `(tactic| walk_at "put") => `(tactic| repeat (first | exact Put.head | apply Put.tail))
local macro_rules | `(tactic| walk_at "m") => `(tactic| repeat (first | exact List.Mem.head _ | apply List.Mem.tail))
local macro_rules | `(tactic| walk_at "mput") => `(tactic| repeat (first | exact MPut.head | apply MPut.tail))
/-- a list of one int -/
def roomO (o : Obj) : Prop := ∃ m u, lsx [.int m u] o
def chN : Nat → Nat
  | 0 => 1
  | n + 1 => 1 + 3 * chN n
def szN (n : Nat) : Nat := 1 + 3 * chN n
theorem chN_pos : ∀ n, 1 ≤ chN n
  | 0 => Nat.le_refl _
  | n + 1 => by simp only [chN]; omega
theorem zL {n : Nat} (h : n ≤ 100000) : n ≤ sizeLine := by rw [sizeLine_eq]; omega
section
variable {w : World} {A : Around} {g h : Heap} {c : Shared} {t : Tok} {Q : Value → Shared → Prop} {K : Frag} {mg mb : Str → Option Value} {d : Ad}
def psNode : List Str := ["tape", "depth", "room"]
def osNode : List Str := ["children", "k"]
theorem okNode : okFn (stI 10) psNode osNode = true := by decide +kernel
theorem gl_range_node : Gl (scopeOf (stI 10)) (Str.ofString "range") := by decide +kernel
theorem gl_take_node : Gl (scopeOf (stI 10)) (Str.ofString "_law_take") := by decide +kernel
theorem gl_node_node : Gl (scopeOf (stI 10)) (Str.ofString "_law_node") := by decide +kernel
theorem pick5 {r : Int} {t1 t2 t3 t4 t5 : Tok} (h0 : 0 ≤ r) (h1 : r < 5) : ∃ n u, [Value.int 1 t1, .int 2 t2, .int 3 t3, .int 0 t4, .int 2 t5][r.toNat]? = some (.int n u) ∧ 0 ≤ n ∧ n ≤ 3 := by
  have : r.toNat = 0 ∨ r.toNat = 1 ∨ r.toNat = 2 ∨ r.toNat = 3 ∨ r.toNat = 4 := by omega
  rcases this with e | e | e | e | e <;> rw [e] <;> exact ⟨_, _, rfl, by decide, by decide⟩
theorem pickW {r : Int} {t1 t2 t3 t4 t5 : Tok} (h0 : 0 ≤ r) (h1 : r < 5) : ∃ x u, [Value.str "a" t1, .str "it's" t2, .str "b-c" t3, .str "1" t4, .str "x/Y" t5][r.toNat]? = some (.str x u) ∧ okS x = true := by
  have : r.toNat = 0 ∨ r.toNat = 1 ∨ r.toNat = 2 ∨ r.toNat = 3 ∨ r.toNat = 4 := by omega
  rcases this with e | e | e | e | e <;> rw [e] <;> exact ⟨_, _, rfl, by decide +kernel⟩
theorem pickL {r : Int} {t1 t2 t3 t4 : Tok} (h0 : 0 ≤ r) (h1 : r < 4) : ∃ x u, [Value.str "S" t1, .str "NP" t2, .str "V+2" t3, .str "a" t4][r.toNat]? = some (.str x u) ∧ okS x = true := by
  have : r.toNat = 0 ∨ r.toNat = 1 ∨ r.toNat = 2 ∨ r.toNat = 3 := by omega
  rcases this with e | e | e | e <;> rw [e] <;> exact ⟨_, _, rfl, by decide +kernel⟩
/-- children so far -/
structure Kids (n i : Nat) (vs : List Value) (ns : List Nd) (g : Heap) : Prop where
  is : IsAll g vs (ns.map Nd.py)
  ok : oks ns = true
  len : ns.length = i
  dep : deps ns ≤ n
  siz : sizs ns ≤ i * chN n
theorem Kids.add {n i : Nat} {vs : List Value} {ns : List Nd} {g g' : Heap} {v : Value} {nd : Nd} (K : Kids n i vs ns g) (l : Le g g') (h : Is g' v nd.py) (ho : nd.ok = true) (hd : nd.dep ≤ n) (hz : nd.siz ≤ chN n) : Kids n (i + 1) (vs ++ [v]) (ns ++ [nd]) g' where
  is := by rw [List.map_append]; exact (K.is.mono l).app (.one h)
  ok := by have := K.ok; rw [oks_all] at this ⊢; simp [this, ho]
  len := by simp [K.len]
  dep := deps_le fun c hc => by
    rcases List.mem_append.mp hc with q | q
    · exact Nat.le_trans (dep_le q) K.dep
    · rw [List.mem_singleton.mp q]; exact hd
  siz := by
    rw [sizs_app, Nat.add_mul, Nat.one_mul]
    have := K.siz
    simp only [sizs]; omega
def NodeSpec (w : World) (c : Shared) (d : Ad) (gT : Heap) (n : Nat) : Prop := ∀ {kd : Int} {A : Around} {g h : Heap} {t : Tok} {tp rm : Addr} {u : Tok} {o1 o2 : Obj} {Q : Value → Shared → Prop}, 3 ≤ kd + n → Le gT g → Le g h → tp ≠ rm → g.get? tp = none → g.get? rm = none →
    h.get? tp = some o1 → tapeO gT o1 → h.get? rm = some o2 → roomO o2 → Room A (n + 4) →
    (∀ g' h' t' v l cs o1 o2, Gw [tp, rm] g h g' h' → h'.get? tp = some o1 → tapeO gT o1 → h'.get? rm = some o2 → roomO o2 → Is g' v (Nd.node l cs).py → (Nd.node l cs).ok = true → (Nd.node l cs).dep ≤ n + 1 → (Nd.node l cs).siz ≤ szN n → Q v (St c h' t')) →
    Wp w A (call (.ref d.node) [.ref tp, .int kd u, .ref rm]) Q (St c h t)
theorem node_step (X : Wk K mg mb d) {gT : Heap} (W : Wg K mg mb gT) {n : Nat} (ih : ∀ n', n = n' + 1 → NodeSpec w c d gT n') : NodeSpec w c d gT n := by
  intro kd A g h t tp rm u o1 o2 Q hkn lT l hne n1 n2 h1 p1 h2 p2 room k
  refine call_fn psNode osNode (S := [tp, rm]) (W.mono lT) X.node.2 l room okNode (fun _ _ _ _ _ _ _ => rfl) rfl fun env h₁ t₁ A' R esc ecl hk ht F => ?_
  have F := F.own1 (hk _ _ h1) p1 (.head _) n1 (F.notL h1) (fun p hp => nomatch hp)
  have F := F.own1 (hk _ _ h2) p2 (.tail _ (.head _)) n2 (F.notL h2) (fun p hp => by rw [List.mem_singleton.mp hp]; exact hne)
  dsimp only [psNode, osNode, mkLc, List.map] at F
  have W₀ := W.mono lT
  refine xAsg (eList (sNil (nLstM F (Nat.zero_le _) fun chl h₂ hch F => ?_)))
  refine stL F (by walk_at "put") fun h₃ t₃ F => ?_
  refine xFor (eCallT F W₀ (esc ▸ gl_range_node) X.range (sCons (eSub (eList (sCons (eInt fun _ => sCons (eInt fun _ => sCons (eInt fun _ => sCons (eInt fun _ => sCons (eInt fun _ => sNil ?_))))))))))
  refine nLst F (zL (Nat.le_add_left 5 99995)) fun l5 g₁ h₄ F le₁ hl5 => ?_
  refine eCallF F W₀ (esc ▸ gl_take_node) X.take (sCons (ld F (by walk_at "at") (sCons (eInt fun _ => sNil ⟨F.kin W₀, ?_⟩))))
  refine takeF X W F (by walk_at "m") (lT.trans F.gw.le) (by decide) (R.mono (by omega)) fun h₅ t₅ r v F r0 r1 => ?_
  obtain ⟨m, um, em, m0, m1⟩ := pick5 r0 r1
  refine tItem (F.gl' hl5) r0 (by omega) em rfl (sNil ?_)
  refine rng1 F (by omega) (by omega) fun I h₆ t₆ hI F => ?_
  refine floop (σ := List Value × List Nd) (P := ritr 0 1 m.toNat) (n := m.toNat) (V := fun i v => ∃ u, v = .int (0 + 1 * i) u)
    (μI := fun a => [(chl, lst a.1), (rm, roomO), (tp, tapeO gT)]) (lcI := fun a o => [(Str.ofString "tape", some (.ref tp)), (Str.ofString "depth", some (.int kd u)), (Str.ofString "room", some (.ref rm)), (Str.ofString "children", some (.ref chl)), (Str.ofString "k", o)])
    ([], []) none (fun i a g => Kids n i a.1 a.2 g) R.handled F hI itrRange ⟨.nil, by simp [oks], rfl, Nat.zero_le _, Nat.zero_le _⟩ (fun a o v => by walk_at "put") ?_ ?_
  · intro i vi a g' h' t' hi hv l' inv F
    refine xSetItem (eBin (eSub (ld F (by walk_at "at") (eInt fun _ => ?_))))
    obtain ⟨o2', ho2, ⟨mr, ur, pr⟩, _⟩ := F.has (P := roomO) (a := rm) (by walk_at "m")
    have F := F.re (a := rm) (P := lsx [.int mr ur]) (by walk_at "mput") ho2 pr
    refine tItem (F.mx (a := rm) (by walk_at "m")) (by decide) (by decide) rfl rfl ?_
    refine eInt fun _ => oSub fun u₁ t₁ => ?_
    refine ld F (by walk_at "at") (eInt fun _ => ?_)
    refine setM F (l := rm) (vs := [.int mr ur]) (by walk_at "m") (by walk_at "mput") (by decide) (by decide) (Int.ofNat_lt.mpr (Nat.zero_lt_succ 0)) fun h₇ F => ?_
    refine xIf (tBoolOp (tAnd (tCmp (eSub (ld F (by walk_at "at") (eInt fun _ => ?_))))))
    refine tItem (F.mx (a := rm) (by walk_at "m")) (by decide) (by decide) rfl rfl ?_
    refine eInt fun _ => oGt (tBool ?_)
    refine andB (fun _ => ?_) (fun _ => ?_)
    refine tAnd (tCmp (ld F (by walk_at "at") (eInt fun _ => oLt (tBool (andB (fun hlt => ?_) (fun _ => ?_))))))
    refine tAnd (tCmp ?_)
    refine eCallF F W₀ (esc ▸ gl_take_node) X.take (sCons (ld F (by walk_at "at") (sCons (eInt fun _ => sNil ⟨F.kin W₀, ?_⟩))))
    refine takeF X W F (by walk_at "m") (lT.trans F.gw.le) (by decide) (R.mono (by omega)) fun h₈ t₈ r v F r0 r1 => ?_
    refine eInt fun _ => oEqI (tBool (andB (fun _ => tAnd0 ?_) (fun _ => ?_)))
    · have hlt' : kd < 3 := of_decide_eq_true hlt
      obtain ⟨n', rfl⟩ : ∃ n', n = n' + 1 := ⟨n - 1, by omega⟩
      obtain ⟨o3, ho3, hp3, hg3⟩ := F.has (P := lsx [.int (mr - 1) u₁]) (a := rm) (by walk_at "m")
      obtain ⟨o4, ho4, hp4, hg4⟩ := F.has (P := tapeO gT) (a := tp) (by walk_at "m")
      refine xExpr F.kf (eMeth rfl rfl (by decide) (ld F (by walk_at "at") (mLst F (l := chl) (vs := a.1) (by walk_at "m") slAppend tyAppend (cwB (sCons ?_)))))
      refine eCallF F W₀ (esc ▸ gl_node_node) X.node (sCons (ld F (by walk_at "at") (sCons (eBin (ld F (by walk_at "at") (eInt fun _ => oAdd fun u₂ t₂ => sCons (ld F (by walk_at "at") (sNil ⟨F.kin W₀, ?_⟩))))))))
      refine ih n' rfl (kd := kd + 1) (by omega) (lT.trans F.gw.le) F.gw.sub hne hg4 hg3 ho4 hp4 ho3 ⟨_, _, hp3⟩ (R.mono (by omega)) fun g₉ h₉ t₉ v₉ l₉ cs₉ o5 o6 G e5 p5 e6 p6 is9 ok9 dep9 siz9 => ?_
      have F := F.callG (μ' := [(I, ritr 0 1 m.toNat (i + 1)), (chl, lst a.1), (rm, roomO), (tp, tapeO gT)]) G (fun b hb => by simp at hb; rcases hb with rfl | rfl <;> simp) rfl (fun p hp => by
        have ne1 := F.ndm
        simp only [List.map_cons, List.map_nil, List.nodup_cons, List.mem_cons, not_or, List.not_mem_nil] at ne1
        simp only [List.mem_cons, List.not_mem_nil, or_false] at hp
        rcases hp with rfl | rfl | rfl | rfl
        · exact .inl ⟨by simp; exact ⟨ne1.1.2.2.1, ne1.1.2.1⟩, by simp⟩
        · exact .inl ⟨by simp; exact ⟨ne1.2.1.2.1, ne1.2.1.1⟩, by simp⟩
        · exact .inr ⟨_, e6, p6⟩
        · exact .inr ⟨_, e5, p5⟩)
      refine sNil ?_
      refine cAppend F (l := chl) (vs := a.1) (v := v₉) (by walk_at "m") (by walk_at "mput") (by have := inv.is.len; have := inv.len; rw [sizeLine_eq]; simp at *; omega) fun h₀ F => ?_
      refine xNil (xNil ?_)
      refine Turn.next (g' := g₉) (a.1 ++ [v₉], a.2 ++ [Nd.node l₉ cs₉]) (some vi) ?_ ?_ ?_
      exact G.le
      exact F
      exact inv.add G.le is9 ok9 (by omega) (by simp only [szN] at siz9; simp only [chN]; exact siz9)
    all_goals
      obtain ⟨o3, ho3, hp3, hg3⟩ := F.has (P := lsx [.int (mr - 1) u₁]) (a := rm) (by walk_at "m")
      have F := F.re (μ' := [(I, ritr 0 1 m.toNat (i + 1)), (chl, lst a.1), (rm, roomO), (tp, tapeO gT)]) (a := rm) (P := roomO) (by walk_at "mput") ho3 ⟨_, _, hp3⟩
      refine xExpr F.kf (eMeth rfl rfl (by decide) (ld F (by walk_at "at") (mLst F (l := chl) (vs := a.1) (by walk_at "m") slAppend tyAppend (cwB (sCons (eSub (eList (sCons (eStr fun _ => sCons (eStr fun _ => sCons (eStr fun _ => sCons (eStr fun _ => sCons (eStr fun _ => sNil ?_)))))))))))))
      refine nLst F (zL (Nat.le_add_left 5 99995)) fun l6 g₂ h₈ F le₂ hl6 => ?_
      refine eCallF F W₀ (esc ▸ gl_take_node) X.take (sCons (ld F (by walk_at "at") (sCons (eInt fun _ => sNil ⟨F.kin W₀, ?_⟩))))
      refine takeF X W F (by walk_at "m") (lT.trans F.gw.le) (by decide) (R.mono (by omega)) fun h₉ t₉ r v F r0 r1 => ?_
      obtain ⟨x, ux, ex, okx⟩ := pickW r0 r1
      refine tItem (F.gl' hl6) r0 (by omega) ex rfl (sNil ?_)
      refine cAppend F (l := chl) (vs := a.1) (v := .str x ux) (by walk_at "m") (by walk_at "mput") (by have := inv.is.len; have := inv.len; rw [sizeLine_eq]; simp at *; omega) fun h₀ F => ?_
      refine xNil (xNil ?_)
      refine Turn.next (g' := g₂) (a.1 ++ [.str x ux], a.2 ++ [Nd.leaf x]) (some vi) ?_ ?_ ?_
      exact le₂
      exact F
      exact inv.add le₂ (by rw [Nd.py_leaf]; exact .str x ux) (by simp only [Nd.ok]; exact okx) (by simp [Nd.dep]) (by simp only [Nd.siz]; exact chN_pos n)
  · intro a o g' h' t' l' inv F
    refine xRet (eList (sCons (eSub (eList (sCons (eStr fun _ => sCons (eStr fun _ => sCons (eStr fun _ => sCons (eStr fun _ => sNil ?_)))))))))
    refine nLst F (zL (Nat.le_add_left 4 99996)) fun l6 g₂ h₈ F le₂ hl6 => ?_
    refine eCallF F W₀ (esc ▸ gl_take_node) X.take (sCons (ld F (by walk_at "at") (sCons (eInt fun _ => sNil ⟨F.kin W₀, ?_⟩))))
    refine takeF X W F (by walk_at "m") (lT.trans F.gw.le) (by decide) (R.mono (by omega)) fun h₉ t₉ r v F r0 r1 => ?_
    obtain ⟨x, ux, ex, okx⟩ := pickL r0 r1
    refine tItem (F.gl' hl6) r0 (by omega) ex rfl ?_
    refine sCons (ld F (by walk_at "at") (sNil ?_))
    obtain ⟨g₃, oc, F, le₃, ec, no, hoc⟩ := F.frz hch
    refine nLst F (zL (Nat.le_add_left 2 99998)) fun l7 g₄ h₁₀ F le₄ hl7 => ?_
    obtain ⟨o3, ho3, hp3, hg3⟩ := F.has (P := roomO) (a := rm) (by walk_at "m")
    obtain ⟨o4, ho4, hp4, hg4⟩ := F.has (P := tapeO gT) (a := tp) (by walk_at "m")
    have up := (le₂.trans le₃).trans le₄
    have hm3 : m.toNat ≤ 3 := by omega
    have ilen := inv.len
    have isz := inv.siz
    have mul : m.toNat * chN n ≤ 3 * chN n := Nat.mul_le_mul_right _ hm3
    refine k _ _ _ _ x a.2 _ _ F.gw ho4 hp4 ho3 hp3 ?_ (by simp only [Nd.ok, inv.ok, okx, Bool.and_self]) (by simp only [Nd.dep]; have := inv.dep; omega) (by simp only [Nd.siz, szN]; omega)
    rw [Nd.py_node]
    refine .list hl7 (.cons (.str x ux) (.cons ?_ .nil))
    exact .list (vs := a.1) ⟨oc, le₄ _ _ ec, by rw [hoc], no, by rw [hoc]⟩ (inv.is.mono up)
theorem node_spec (X : Wk K mg mb d) {gT : Heap} (W : Wg K mg mb gT) : ∀ n, NodeSpec w c d gT n
  | 0 => node_step X W fun n' e => by omega
  | n + 1 => node_step X W fun n' e => by cases e; exact node_spec X W n
end
end TL

end
section
open PySem PySem.W PyProof.Rows PySem.Calls
set_option maxRecDepth 100000
set_option linter.unusedVariables false
set_option linter.unusedSimpArgs false
set_option pp.deepTerms false
set_option pp.deepTerms.threshold 4
set_option pp.maxSteps 2000
namespace TL
open TL
local macro_rules | `(tactic| walk_at "at") => `(tactic| repeat (first | exact At.head | apply At.tail))
local macro_rules | `(tactic| walk_at "put") => `(tactic| repeat (first | exact Put.head | apply Put.tail))
local macro_rules | `(tactic| walk_at "m") => `(tactic| repeat (first | exact List.Mem.head _ | apply List.Mem.tail))
local macro_rules | `(tactic| walk_at "mput") => `(tactic| repeat (first | exact MPut.head | apply MPut.tail))
section
variable {w : World} {A : Around} {g h : Heap} {c : Shared} {t : Tok} {Q : Value → Shared → Prop} {K : Frag} {mg mb : Str → Option Value} {d : Ad}
/-! _law_tape -/
def psTape : List Str := ["script"]
theorem okTape : okFn (stI 8) psTape [] = true := by decide +kernel
inductive IntAll : List Value → List Int → Prop
  | nil : IntAll [] []
  | cons {n : Int} {u : Tok} {vs : List Value} {ns : List Int} : IntAll vs ns → IntAll (.int n u :: vs) (n :: ns)
theorem intsAre_app {vs us : List Value} {ns ms : List Int} (h : IntsAre vs ns) (h' : IntsAre us ms) : IntsAre (vs ++ us) (ns ++ ms) := IntsAre.append h h'
theorem tape_spec (X : Wk K mg mb d) (W : Wg K mg mb g) {sc : Addr} {vs : List Value} {ns : List Int} (hs : g.IsList sc vs.toArray) (hi : IntsAre vs ns) (hn : ns.length ≤ 63) (l : Le g h) (room : Room A 2)
    (k : ∀ g' h' t' tp o, Gw [] g h g' h' → g'.get? tp = none → h.get? tp = none → h'.get? tp = some o → tapeO g' o → Q (.ref tp) (St c h' t')) : Wp w A (call (.ref d.tape) [.ref sc]) Q (St c h t) := by
  refine call_fn psTape [] (S := []) W X.tape.2 l room okTape (fun _ _ _ _ _ _ _ => rfl) rfl fun env h₁ t₁ A' R esc ecl hk ht F => ?_
  dsimp only [psTape, mkLc, List.map] at F
  have hv : vs.length = ns.length := hi.length
  refine xRet (eList (sCons (eBin (eComp (cl := []) (closure_of (by rw [ecl]; decide +kernel)) (by decide +kernel) (eSub (ld F (by walk_at "at") (eSl (pNone (pSome (eInt fun t₂ => ?_))))))))))
  obtain ⟨g₁, F, le₁, hsl, _⟩ := F.sliceH .none (.int 24 t₁)
  refine sliceL (vs := vs) F (F.gl' (by obtain ⟨o, e, r⟩ := hs; exact ⟨o, le₁ _ _ e, r⟩)) hsl .none (.int 24 _) (by rw [sizeLine_eq]; omega) fun cl' g₂ h₃ F le₂ hcl => ?_
  have ec : cut (α := Value) none (some 24) vs = vs.take 24 := cut_to vs 24
  rw [ec] at hcl
  refine iLst F (F.gl' hcl) fun I h₄ t₃ hI F => ?_
  refine cloop0 (σ := Unit) (P := litr cl') (n := (vs.take 24).length) (V := fun i v => (vs.take 24)[i]? = some v) (μI := fun _ => []) () (fun i outs _ _ => ∃ ms, IntsAre outs ms ∧ ms.length = i) R.handled (by decide +kernel) (zL (by rw [List.length_take]; omega)) F hI (fun _ _ _ _ => selfL) (itrSq (.of_list hcl)) ⟨[], .nil, rfl⟩ ?_ ?_
  · intro i v outs _ g' h' t' D C Lo hi' hv' l' inv F
    obtain ⟨ms, i1, i2⟩ := inv
    have hv'' : vs[i]? = some v := by
      rw [List.getElem?_take] at hv'; split at hv' <;> first | exact hv' | cases hv'
    obtain ⟨n, u, e, _⟩ := intsAre_get hi i (by
      rcases Nat.lt_or_ge i vs.length with z | z
      · omega
      · rw [List.getElem?_eq_none z] at hv''; cases hv'')
    rw [hv''] at e; cases e
    refine eBin (eCallB F W (glC (by decide +kernel)) X.abs (sCons (ld F (by walk_at "at") (sNil (cAbs fun u₁ t₄ => eInt fun t₅ => oMod (by decide) fun u₂ t₆ => ?_)))))
    exact Elt.mk' () (Le.refl _) F ⟨_, intsAre_app i1 (.cons _ _ .nil), by simp [i2]⟩
  · intro outs _ g' h' t' D l' inv F hD
    obtain ⟨ms, i1, i2⟩ := inv
    refine eList (sCons (eInt fun _ => sCons (eInt fun _ => sCons (eInt fun _ => sNil ?_))))
    refine nLst F (zL (Nat.le_add_left 3 99997)) fun l3 g₃ h₅ F le₃ hl3 => ?_
    have z1 := i1.length
    rw [List.length_take] at i2
    refine oAddL F (F.ml (.head _)) (F.gl' hl3) (by rw [sizeLine_eq]; simp; omega) fun l4 g₄ h₆ F le₄ hl4 => ?_
    refine sCons (eInt fun t₇ => sNil ?_)
    refine nLstM F (zL (Nat.le_add_left 2 99998)) fun tp h₇ htp F => ?_
    obtain ⟨o, ho, ⟨no, hp⟩, hg⟩ := F.has (.head _)
    refine k _ _ _ tp o F.drop1.gw hg htp ho ⟨0, _, l4, _, ms ++ [7, 2, 5], by decide, ⟨by rw [hp], no, by rw [hp]⟩, hl4, intsAre_app i1 (.cons _ _ (.cons _ _ (.cons _ _ .nil))), by simp, by simp; omega⟩
/-! _law_parts -/
def psParts : List Str := ["text"]
theorem okParts : okFn (stI 13) psParts [] = true := by decide +kernel
/-- a text's parts -/
def partsT (x : Str) : List Str := Txt.words (Txt.replace (Txt.replace x "(" "( ") ")" " )")
theorem parts_spec (X : Wk K mg mb d) (W : Wg K mg mb g) {x : Str} {u : Tok} (l : Le g h) (room : Room A 2) (hz : x.length ≤ 100000) (hz' : (Txt.replace x "(" "( ").length ≤ 200001) (hz'' : (Txt.replace (Txt.replace x "(" "( ") ")" " )").length ≤ 1000000)
    (k : ∀ g' h' t' D vs, Gw [] g h g' h' → g'.IsList D vs.toArray → StrAll vs (partsT x) → Q (.ref D) (St c h' t')) : Wp w A (call (.ref d.parts) [.str x u]) Q (St c h t) := by
  refine call_fn psParts [] (S := []) W X.parts.2 l room okParts (fun _ _ _ _ _ _ _ => rfl) rfl fun env h₁ t₁ A' R esc ecl hk ht F => ?_
  dsimp only [psParts, mkLc, List.map] at F
  have ht : 1 ≤ t₁ := ht
  have one : (Str.ofString "( ").length = 2 := by decide +kernel
  have one' : (Str.ofString " )").length = 2 := by decide +kernel
  refine xRet (eMeth rfl rfl (by decide) (eMeth rfl rfl (by decide) (eMeth rfl rfl (by decide) (ld F (by walk_at "at") (mReplace (cwB (sCons (eStrT (sCons (eStrT (sNil ?_)))))))))))
  refine cReplace (show (t₁ : Nat) ≠ 0 by omega) (show (t₁ + 1 : Nat) ≠ 0 by omega) (show (t₁ : Nat) ≠ t₁ + 1 by omega) (by decide +kernel) (by rw [one]; omega) fun u₁ t₂ e₂ => ?_
  refine mReplace (cwB (sCons (eStrT (sCons (eStrT (sNil ?_))))))
  have z2 : ∀ n : Nat, t₁ + 1 + 1 ≤ n → n ≠ 0 ∧ n + 1 ≠ 0 ∧ n ≠ n + 1 := fun n _ => by omega
  refine cReplace (z2 t₂ e₂).1 (z2 t₂ e₂).2.1 (z2 t₂ e₂).2.2 (by decide +kernel) (by rw [one']; omega) fun u₂ t₃ e₃ => ?_
  refine mSplit (cwB0 ?_)
  refine cSplit F (by rw [sizeLine_eq]; omega) fun D vs g' h' t' F le hD hs => ?_
  exact k _ _ _ D vs F.gw hD hs
end
end TL

end
section
open PySem PySem.W PyProof.Rows PySem.Calls
set_option maxRecDepth 100000
set_option linter.unusedVariables false
set_option linter.unusedSimpArgs false
set_option pp.deepTerms false
set_option pp.deepTerms.threshold 4
set_option pp.maxSteps 2000
namespace TL
open TL
local macro_rules | `(tactic| walk_at "at") => `(tactic| repeat (first | exact At.head | apply At.tail))
local macro_rules | `(tactic| walk_at "put") => `(tactic| repeat (first | exact Put.head | apply Put.tail))
local macro_rules | `(tactic| walk_at "m") => `(tactic| repeat (first | exact List.Mem.head _ | apply List.Mem.tail))
local macro_rules | `(tactic| walk_at "mput") => `(tactic| repeat (first | exact MPut.head | apply MPut.tail))
/-- a place: a tuple of numbers -/
def pyP (p : List Nat) : PyData := .tuple (p.map fun (n : Nat) => .int n)
def pyR (r : List Nat × Nd) : PyData := .tuple [pyP r.1, r.2.py]
mutual
def places : Nd → List Nat → List (List Nat × Nd)
  | .leaf w, p => [(p, .leaf w)]
  | .node l cs, p => (p, .node l cs) :: placess cs p 0
def placess : List Nd → List Nat → Nat → List (List Nat × Nd)
  | [], _, _ => []
  | c :: cs, p, i => places c (p ++ [i]) ++ placess cs p (i + 1)
end
theorem placess_app : ∀ (a b : List Nd) (p : List Nat) (i : Nat), placess (a ++ b) p i = placess a p i ++ placess b p (i + a.length)
  | [], b, p, i => by simp [placess]
  | c :: a, b, p, i => by simp only [List.cons_append, placess, placess_app a b p (i + 1), List.append_assoc, List.length_cons]; rw [show i + 1 + a.length = i + (a.length + 1) by omega]
mutual
theorem places_len : ∀ (n : Nd) (p : List Nat), (places n p).length = n.siz
  | .leaf w, p => by simp [places, Nd.siz]
  | .node l cs, p => by simp [places, Nd.siz, placess_len cs p 0]
theorem placess_len : ∀ (cs : List Nd) (p : List Nat) (i : Nat), (placess cs p i).length = sizs cs
  | [], p, i => by simp [placess, sizs]
  | c :: cs, p, i => by simp [placess, sizs, places_len c, placess_len cs p (i + 1)]
end
section
variable {w : World} {A : Around} {g h : Heap} {c : Shared} {t : Tok} {Q : Value → Shared → Prop} {K : Frag} {mg mb : Str → Option Value} {d : Ad}
theorem cLenU {l : Addr} {vs : List Value} (hl : h.IsTuple l vs.toArray) (hz : (vs.length : Int) < 2 ^ 63) (k : ∀ u t', Q (.int vs.length u) (St c h t')) : Wp w A (call (.builtin "len") [.ref l]) Q (St c h t) :=
  ⟨PyProof.Rows.len_tuple (s := St c h t) hl (by simpa using hz) (by simpa using k _ _)⟩
theorem PySem.Heap.IsTuple.up {g h : Heap} {l : Addr} {vs : Array Value} (x : g.IsTuple l vs) (y : Le g h) : h.IsTuple l vs := let ⟨o, a, b⟩ := x; ⟨o, y _ _ a, b⟩
theorem PySem.Heap.IsList.up {g h : Heap} {l : Addr} {vs : Array Value} (x : g.IsList l vs) (y : Le g h) : h.IsList l vs := let ⟨o, a, b⟩ := x; ⟨o, y _ _ a, b⟩

theorem eNeg {env : Env} {x : Expr} {pos : Pos} {s : Shared} (k : Wp w A (eval x env) (fun v s₁ => Wp w A (unaryOp .USub v) Q s₁) s) : Wp w A (eval (.UnaryOp .USub x pos) env) Q s := by
  refine ⟨?_⟩
  show wpAny _ _ (do let v ← eval x env; standAt pos; holding [v] (unaryOp .USub v)) _ _ _
  exact wpAny_bind (k.to fun _ _ k => wpAny_bind (wpAny_standAt (wpAny_holding k.go)))
theorem oNeg {n : Int} {i : Tok} (k : ∀ u t', Q (.int (-n) u) (St c h t')) : Wp w A (unaryOp .USub (.int n i)) Q (St c h t) := ⟨PyProof.Rows.neg_int (s := St c h t) (k _ _)⟩
/-- -1 -/
theorem eM1 {env : Env} {pos p' : Pos} {m : Nat} (k : ∀ u t', Q (.int (-1) u) (St c h t')) : Wp w A (eval (.UnaryOp .USub (.Constant (.int 1) m p') pos) env) Q (St c h t) := eNeg (eInt fun _ => oNeg fun u t' => k u t')
def psPlaces : List Str := ["node", "place"]
def osPlaces : List Str := ["found", "k"]
theorem okPlaces : okFn (stI 18) psPlaces osPlaces = true := by decide +kernel
theorem glp_isi : Gl (scopeOf (stI 18)) (Str.ofString "isinstance") := by decide +kernel
theorem glp_str : Gl (scopeOf (stI 18)) (Str.ofString "str") := by decide +kernel
theorem glp_range : Gl (scopeOf (stI 18)) (Str.ofString "range") := by decide +kernel
theorem glp_len : Gl (scopeOf (stI 18)) (Str.ofString "len") := by decide +kernel
theorem glp_self : Gl (scopeOf (stI 18)) (Str.ofString "_law_places") := by decide +kernel
theorem places_spec (X : Wk K mg mb d) : ∀ (n : Nat) (nd : Nd) {A : Around} {g h : Heap} {t : Tok} {v vp : Value} {p : List Nat} {Q : Value → Shared → Prop}, nd.dep ≤ n → Wg K mg mb g → Is g v nd.py → Is g vp (pyP p) → nd.siz ≤ 10000 → p.length + n ≤ 100 → Le g h → Room A (n + 1) →
    (∀ g' h' t' r, Gw [] g h g' h' → Is g' r (.list ((places nd p).map pyR)) → Q r (St c h' t')) → Wp w A (call (.ref d.places) [v, vp]) Q (St c h t) := by
  intro n
  induction n with
  | zero =>
    intro nd A g h t v vp p Q hd W hv hp hz hp' l room k
    cases nd with
    | node l cs => simp [Nd.dep] at hd
    | leaf x =>
      rw [Nd.py_leaf] at hv
      obtain ⟨u, rfl⟩ := hv.of_str
      refine call_fn psPlaces osPlaces (S := []) W X.places.2 l room okPlaces (fun _ _ _ _ _ _ _ => rfl) rfl fun env h₁ t₁ A' R esc ecl hk ht F => ?_
      dsimp only [psPlaces, osPlaces, mkLc, List.map] at F
      refine xAsg (eList (sCons (eTuple (sCons (ld F (by walk_at "at") (sCons (ld F (by walk_at "at") (sNil ?_))))))))
      refine nTup F (zL (Nat.le_add_left 2 99998)) fun l1 g₁ h₂ F le₁ hl1 => ?_
      refine sNil (nLst F (zL (Nat.le_add_left 1 99999)) fun l2 g₂ h₃ F le₂ hl2 => ?_)
      refine stL F (by walk_at "put") fun h₄ t₂ F => ?_
      refine xIf (tNot (tVal (eCallB F W (esc ▸ glp_isi) X.isi (sCons (ld F (by walk_at "at") (sCons (ldB F W (esc ▸ glp_str) X.str (sNil ?_))))))))
      refine isiGo says_str.at0 fun t₂ => tBool (xNil ?_)
      refine xRet (ld F (by walk_at "at") ?_)
      refine k _ _ _ _ F.gw ?_
      simp only [places, List.map_cons, List.map_nil, pyR, Nd.py_leaf]
      exact .list hl2 (.one (.tuple (hl1.up le₂) (.cons (hp.mono (le₁.trans le₂)) (.one (.str x u)))))
  | succ n ih =>
    intro nd A g h t v vp p Q hd W hv hp hz hp' l room k
    refine call_fn psPlaces osPlaces (S := []) W X.places.2 l room okPlaces (fun _ _ _ _ _ _ _ => rfl) rfl fun env h₁ t₁ A' R esc ecl hk ht F => ?_
    dsimp only [psPlaces, osPlaces, mkLc, List.map] at F
    refine xAsg (eList (sCons (eTuple (sCons (ld F (by walk_at "at") (sCons (ld F (by walk_at "at") (sNil ?_))))))))
    refine nTup F (zL (Nat.le_add_left 2 99998)) fun l1 g₁ h₂ F le₁ hl1 => ?_
    refine sNil (nLst F (zL (Nat.le_add_left 1 99999)) fun l2 g₂ h₃ F le₂ hl2 => ?_)
    refine stL F (by walk_at "put") fun h₄ t₂ F => ?_
    refine xIf (tNot (tVal (eCallB F W (esc ▸ glp_isi) X.isi (sCons (ld F (by walk_at "at") (sCons (ldB F W (esc ▸ glp_str) X.str (sNil ?_))))))))
    have le0 := le₁.trans le₂
    have first : Is g₂ (.ref l2) (.list [pyR (p, nd)]) := .list hl2 (.one (.tuple (hl1.up le₂) (.cons (hp.mono le0) (.one (hv.mono le0)))))
    cases nd with
    | leaf x =>
      rw [Nd.py_leaf] at hv
      obtain ⟨u, rfl⟩ := hv.of_str
      refine isiGo says_str.at0 fun t₂ => tBool (xNil ?_)
      refine xRet (ld F (by walk_at "at") ?_)
      refine k _ _ _ _ F.gw ?_
      simp only [places, List.map_cons, List.map_nil]
      exact first
    | node lb cs =>
      rw [Nd.py_node] at hv
      obtain ⟨a, vs, rfl, hl, hi⟩ := hv.of_list
      obtain ⟨v2, e2, i2⟩ := hi.get (i := 1) rfl
      obtain ⟨b, cvs, rfl, hlb, hib⟩ := i2.of_list
      have lv : cvs.length = cs.length := by rw [hib.len, List.length_map]
      have zc := len_sizs cs
      have z0 : sizs cs + 1 = (Nd.node lb cs).siz := by simp [Nd.siz]
      refine isiGo (let ⟨o, x, y, _⟩ := F.gl' (hl.up le0); (says_list_str x y).at0) fun t₃ => tBool ?_
      refine xFor (eCallT F W (esc ▸ glp_range) X.range (sCons (eCallB F W (esc ▸ glp_len) X.len (sCons (eSub (ld F (by walk_at "at") (eInt fun _ => ?_)))))))
      refine tItem (F.gl' (hl.up le0)) (by decide) (by decide) e2 rfl (sNil ?_)
      refine cLen (F.gl' (hlb.up le0)) (by omega) fun u₁ t₄ => sNil ?_
      refine rng1 F (by omega) (by omega) fun I h₅ t₅ hI F => ?_
      refine floop (σ := Value) (P := ritr 0 1 (cvs.length : Int).toNat) (n := (cvs.length : Int).toNat) (V := fun i v => ∃ u, v = .int (0 + 1 * i) u) (μI := fun _ => [])
        (lcI := fun a o => [(Str.ofString "node", some (.ref _)), (Str.ofString "place", some vp), (Str.ofString "found", some a), (Str.ofString "k", o)])
        (.ref l2) none (fun i a g => Is g a (.list ((p, Nd.node lb cs) :: placess (cs.take i) p 0 |>.map pyR))) R.handled F hI itrRange (by simpa [placess] using first) (fun a o v => by walk_at "put") ?_ ?_
      · intro i vi a' g' h' t' hi' hv' l' inv F
        obtain ⟨ui, rfl⟩ := hv'
        have hi'' : i < cs.length := by omega
        obtain ⟨vc, ec, ic⟩ := hib.get (i := i) (d := (cs[i]).py) (by simp [hi''])
        have lg := le0.trans l'
        obtain ⟨la, avs, rfl, hla, hia⟩ := inv.of_list
        obtain ⟨lp, pvs, rfl, hlp, hip⟩ := hp.of_tuple
        refine xAsg (eBin (ld F (by walk_at "at") (eCallF F W (esc ▸ glp_self) X.places (sCons (eSub (eSub (ld F (by walk_at "at") (eInt fun _ => ?_))))))))
        refine tItem (F.gl' (hl.up lg)) (by decide) (by decide) e2 rfl ?_
        refine ld F (by walk_at "at") ?_
        refine tItem (F.gl' (hlb.up lg)) (by omega) (by omega) (by rw [show (0 + 1 * (i : Int)).toNat = i by omega]; exact ec) rfl ?_
        refine sCons (eBin (ld F (by walk_at "at") (eTuple (sCons (ld F (by walk_at "at") (sNil ?_))))))
        refine nTup F (zL (Nat.le_add_left 1 99999)) fun l3 g₃ h₆ F le₃ hl3 => ?_
        have plen : pvs.length = p.length := by have := hip.len; simpa using this
        refine oAddT F (hlp.up (lg.trans le₃)) hl3 (by rw [plen, sizeLine_eq]; simp; omega) fun l4 g₄ h₇ F le₄ hl4 => ?_
        refine sNil ⟨F.kin W, ?_⟩
        have hm : cs[i] ∈ cs := List.getElem_mem hi''
        have hd' := dep_lt (l := lb) hm
        have hz' := siz_lt (l := lb) hm
        have up := (lg.trans le₃).trans le₄
        have isp : Is g₄ (.ref l4) (pyP (p ++ [i])) := by
          unfold pyP
          rw [List.map_append]
          refine .tuple hl4 ((hip.mono up).app (.one ?_))
          have : (0 + 1 * (i : Int)) = (i : Int) := by omega
          rw [this]; exact .int _ _
        refine ih cs[i] (by omega) (W.mono F.gw.le) (ic.mono up) isp (by omega) (by simp; omega) F.gw.sub (R.mono (by omega)) fun g₅ h₈ t₈ r G isr => ?_
        have F := F.call G
        obtain ⟨lr, rvs, rfl, hlr, hir⟩ := isr.of_list
        have len1 := hia.len
        have len2 := hir.len
        have pl1 := placess_len (cs.take i) p 0
        have pl2 := places_len cs[i] (p ++ [i])
        have st : sizs (cs.take i) ≤ sizs cs := by
          have := sizs_app (cs.take i) (cs.drop i)
          rw [List.take_append_drop] at this; omega
        have upa := (le₃.trans le₄).trans G.le
        refine oAddL F (F.gl' (hla.up upa)) (F.gl' hlr) (by rw [len1, len2, sizeLine_eq]; simp [pl1, pl2]; omega) fun l5 g₆ h₉ F le₆ hl5 => ?_
        refine stL F (by walk_at "put") fun h₁₀ t₁₀ F => xNil ?_
        refine Turn.next (g' := g₆) (.ref l5) (some (.int (0 + 1 * i) ui)) ?_ ?_ ?_
        · exact upa.trans le₆
        · exact F
        · have e1 : (p, Nd.node lb cs) :: placess (cs.take (i + 1)) p 0 = ((p, Nd.node lb cs) :: placess (cs.take i) p 0) ++ places cs[i] (p ++ [i]) := by
            rw [List.take_add_one, List.getElem?_eq_getElem hi'']
            simp only [Option.toList_some, placess_app, List.cons_append, placess, List.append_nil, List.length_take, Nat.zero_add]
            rw [Nat.min_eq_left (by omega)]
          show Is g₆ (.ref l5) (.list (((p, Nd.node lb cs) :: placess (cs.take (i + 1)) p 0).map pyR))
          rw [e1, List.map_append]
          exact .list hl5 ((hia.mono (upa.trans le₆)).app (hir.mono le₆))
      · intro a' o g' h' t' l' inv F
        refine xNil (xRet (ld F (by walk_at "at") ?_))
        refine k _ _ _ _ F.gw ?_
        rw [List.take_of_length_le (by omega)] at inv
        simp only [places]
        exact inv
end
end TL

end
section
open PySem PySem.W PyProof.Rows PySem.Calls
set_option maxRecDepth 100000
set_option linter.unusedVariables false
set_option linter.unusedSimpArgs false
set_option pp.deepTerms false
set_option pp.deepTerms.threshold 4
set_option pp.maxSteps 2000
namespace TL
open TL
local macro_rules | `(tactic| walk_at "at") => `(tactic| repeat (first | exact At.head | apply At.tail))
local macro_rules | `(tactic| walk_at "put") => `(tactic| repeat (first | exact Put.head | apply Put.tail))
local macro_rules | `(tactic| walk_at "m") => `(tactic| repeat (first | exact List.Mem.head _ | apply List.Mem.tail))
local macro_rules | `(tactic| walk_at "mput") => `(tactic| repeat (first | exact MPut.head | apply MPut.tail))
/-- the part at a place -/
def Nd.at : Nd → List Nat → Option Nd
  | n, [] => some n
  | .leaf _, _ :: _ => none
  | .node _ cs, i :: p => (cs[i]?).bind fun c => c.at p
/-- a part put at a place -/
def putN (x : Nd) : Nd → List Nat → Nd
  | _, [] => x
  | .leaf w, _ :: _ => .leaf w
  | .node l cs, i :: p => .node l (cs.set i (putN x (cs.getD i x) p))
theorem pyP_lay : ∀ p : List Nat, PyData.canLayAll0 (p.map fun (n : Nat) => .int n) = true
  | [] => by simp [PyData.canLayAll0]
  | n :: r => by simp [PyData.canLayAll0, PyData.canLay0, pyP_lay r]
theorem pyP_dep : ∀ p : List Nat, PyData.depthAll (p.map fun (n : Nat) => .int n) ≤ 1
  | [] => by simp [PyData.depthAll]
  | n :: r => by
    have := pyP_dep r
    simp only [List.map_cons, PyData.depthAll, PyData.depth]; omega
theorem shP (p : List Nat) : SeqAt.shaped (pyP p) = true := by
  have h1 := pyP_dep p
  have h2 : PyData.depth (pyP p) ≤ 64 := by simp only [pyP, PyData.depth]; omega
  show (PyData.canLay0 (pyP p) && decide (PyData.depth (pyP p) ≤ 64)) = true
  rw [Bool.and_eq_true]
  exact ⟨by simp only [pyP, PyData.canLay0]; exact pyP_lay p, decide_eq_true h2⟩
theorem nbP : ∀ p : List Nat, noB (pyP p) = true := by
  intro p
  simp only [pyP, noB]
  induction p with
  | nil => simp [noB.noBs]
  | cons n r ih => simp [noB.noBs, noB, ih]
theorem pyP_inj {p q : List Nat} (e : pyP p = pyP q) : p = q := by
  simp only [pyP, PyData.tuple.injEq] at e
  induction p generalizing q with
  | nil => cases q with | nil => rfl | cons a b => simp at e
  | cons n r ih =>
    cases q with
    | nil => simp at e
    | cons a b =>
      simp only [List.map_cons, List.cons.injEq, PyData.int.injEq] at e
      rw [ih e.2, Int.ofNat_inj.mp e.1]
section
variable {w : World} {A : Around} {g h : Heap} {c : Shared} {t : Tok} {Q : Value → Shared → Prop} {K : Frag} {mg mb : Str → Option Value} {d : Ad}
theorem glu_range : Gl (scopeOf (stI 19)) (Str.ofString "range") := by decide +kernel
theorem glu_len : Gl (scopeOf (stI 19)) (Str.ofString "len") := by decide +kernel
theorem kd_of {env : Env} {st : Stmt} {x : Str} (esc : env.scope = scopeOf st) (h : (scopeOf st).names.lookup x = some .cell) : env.kindOf x = some .cell := by show env.scope.names.lookup x = _; rw [esc]; exact h
abbrev csPut (L : Nat) : List (Str × Addr) := [(Str.ofString "new", L + 1 + 1 + 1), (Str.ofString "place", L + 1 + 1), (Str.ofString "node", L + 1)]
theorem csPut_eq (L : Nat) : cellsFrom (L + 1) (scopeOf (stI 19)).names [] = csPut L := by kernel_rfl
theorem kp1 : (scopeOf (stI 19)).names.lookup (Str.ofString "node") = some .cell := by decide +kernel
theorem kp2 : (scopeOf (stI 19)).names.lookup (Str.ofString "place") = some .cell := by decide +kernel
theorem kp3 : (scopeOf (stI 19)).names.lookup (Str.ofString "new") = some .cell := by decide +kernel
def PutSpec (w : World) (c : Shared) (K : Frag) (mg mb : Str → Option Value) (d : Ad) (p : List Nat) : Prop := ∀ (nd x : Nd) {A : Around} {g h : Heap} {t : Tok} {v vp vx : Value} {Q : Value → Shared → Prop}, Wg K mg mb g → Is g v nd.py → Is g vp (pyP p) → Is g vx x.py → (nd.at p).isSome = true → nd.siz ≤ 10000 → p.length ≤ 100 → Le g h → Room A (p.length + 1) →
    (∀ g' h' t' r, Gw [] g h g' h' → Is g' r (putN x nd p).py → Q r (St c h' t')) → Wp w A (call (.ref d.put) [v, vp, vx]) Q (St c h t)
theorem put_step (X : Wk K mg mb d) {p : List Nat} (ih : ∀ i p', p = i :: p' → PutSpec w c K mg mb d p') : PutSpec w c K mg mb d p := by
  intro nd x A g h t v vp vx Q W hv hp hx ha hz hl l room k
  refine call_fnC (S := []) [(Str.ofString "node", v), (Str.ofString "place", vp), (Str.ofString "new", vx)] [] csPut (fun L => [(L + 1 + 1 + 1, celO (some vx)), (L + 1 + 1, celO (some vp)), (L + 1, celO (some v))]) W X.put.2 l room (by decide +kernel) (fun _ _ _ _ _ _ _ => rfl) csPut_eq
    (fun L y hy => by
      simp only [List.mem_cons, List.not_mem_nil, or_false] at hy
      rcases hy with rfl | rfl | rfl
      · exact .inr ⟨kp1, rfl⟩
      · exact .inr ⟨kp2, rfl⟩
      · exact .inr ⟨kp3, rfl⟩) (fun p hp => nomatch hp) (fun L => by kernel_rfl) (fun L => (by decide +kernel : ([Str.ofString "new", Str.ofString "place", Str.ofString "node"] : List Str).Nodup)) fun env h₁ t₁ A' L R esc ecl hk F => ?_
  have kN := kd_of esc kp1
  have kP := kd_of esc kp2
  have kX := kd_of esc kp3
  refine xIf (tCmp (ldc F (C := L + 1 + 1) (by walk_at "m") kP (by rw [ecl]; rfl) (eTuple (sNil ?_))))
  refine nTup F (Nat.zero_le _) fun l1 g₁ h₂ F le₁ hl1 => ?_
  refine oEq R ((hp.mono le₁).mono F.gw.sub) (d' := pyP []) (Is.mono (.tuple hl1 .nil) F.gw.sub) (shP p) (shP []) (nbP p) (nbP []) fun r hr => tBool ?_
  cases p with
  | nil =>
    rw [hr.mpr rfl]
    refine xRet (ldc F (C := L + 1 + 1 + 1) (by walk_at "m") kX (by rw [ecl]; rfl) ?_)
    exact k _ _ _ _ F.drop1.drop1.drop1.gw (hx.mono le₁)
  | cons i p =>
    have hr0 : r = false := by
      cases r with
      | false => rfl
      | true => have := pyP_inj (hr.mp rfl); cases this
    subst hr0
    cases nd with
    | leaf x' => simp [Nd.at] at ha
    | node lb cs =>
      have ih₁ := ih i p rfl
      have hl' : p.length + 1 ≤ 100 := hl
      rw [Nd.py_node] at hv
      obtain ⟨a, vs, rfl, hla, hi⟩ := hv.of_list
      obtain ⟨v1, e1, i1⟩ := hi.get (i := 0) rfl
      obtain ⟨u1, rfl⟩ := i1.of_str
      obtain ⟨v2, e2, i2⟩ := hi.get (i := 1) rfl
      obtain ⟨b, cvs, rfl, hlb, hib⟩ := i2.of_list
      obtain ⟨lp, pvs, rfl, hlp, hip⟩ := hp.of_tuple
      have lv : cvs.length = cs.length := by rw [hib.len, List.length_map]
      have lpv : pvs.length = p.length + 1 := by have := hip.len; simpa using this
      have zc := len_sizs cs
      have z0 : sizs cs + 1 = (Nd.node lb cs).siz := by simp [Nd.siz]
      obtain ⟨ci, hci, hat⟩ : ∃ ci, cs[i]? = some ci ∧ (ci.at p).isSome = true := by
        simp only [Nd.at] at ha
        cases q : cs[i]? with
        | none => rw [q] at ha; simp at ha
        | some ci => rw [q] at ha; exact ⟨ci, rfl, ha⟩
      have hil : i < cs.length := by
        rcases Nat.lt_or_ge i cs.length with z | z
        · exact z
        · rw [List.getElem?_eq_none z] at hci; cases hci
      refine xNil (xRet (eList (sCons (eSub (ldc F (C := L + 1) (by walk_at "m") kN (by rw [ecl]; rfl) (eInt fun _ => ?_))))))
      refine tItem (F.gl' (hla.up le₁)) (by decide) (by decide) e1 rfl ?_
      refine sCons (eComp (cl := [(Str.ofString "place", L + 1 + 1), (Str.ofString "node", L + 1), (Str.ofString "new", L + 1 + 1 + 1)]) (closure_of (by rw [ecl]; kernel_rfl)) (by decide +kernel) (eCallT F W (esc ▸ glu_range) X.range (sCons (eCallB F W (esc ▸ glu_len) X.len (sCons (eSub (ldc F (C := L + 1) (by walk_at "m") kN (by rw [ecl]; rfl) (eInt fun _ => ?_))))))))
      refine tItem (F.gl' (hla.up le₁)) (by decide) (by decide) e2 rfl (sNil ?_)
      refine cLen (F.gl' (hlb.up le₁)) (by omega) fun u₁ t₄ => sNil ?_
      refine rng1 F (by omega) (by omega) fun I h₅ t₅ hI F => ?_
      refine cloop0 (σ := Unit) (P := ritr 0 1 (cvs.length : Int).toNat) (n := (cvs.length : Int).toNat) (V := fun i v => ∃ u, v = .int (0 + 1 * i) u) (μI := fun _ => [(L + 1 + 1 + 1, celO (some vx)), (L + 1 + 1, celO (some (.ref lp))), (L + 1, celO (some (.ref a)))]) ()
        (fun j outs _ g => IsAll g outs (((cs.set i (putN x ci p)).take j).map Nd.py)) R.handled (by decide +kernel) (zL (by omega)) F hI (fun _ _ _ _ => selfR) itrRange .nil ?_ ?_
      · intro j vj outs _ g' h' t' D C Lo hj hvj l' inv F
        obtain ⟨uj, rfl⟩ := hvj
        have hj' : j < cs.length := by omega
        obtain ⟨vj, ej, ij⟩ := hib.get (i := j) (d := (cs[j]).py) (by simp [hj'])
        obtain ⟨vi, ei, ii⟩ := hip.get (i := 0) (d := .int (i : Nat)) rfl
        obtain ⟨ui, rfl⟩ := ii.of_int
        have lg := le₁.trans l'
        have jj : (0 + 1 * (j : Int)) = (j : Int) := by omega
        refine eIf (tCmp (ld F (by walk_at "at") (eSub (ldc F (C := L + 1 + 1) (by walk_at "m") (kindC (by decide +kernel) (by rw [esc]; decide +kernel) kP) rfl (eInt fun _ => ?_)))))
        refine tItemU ((hlp.up lg).up F.gw.sub) (by decide) (by decide) ei rfl ?_
        refine oEqI (tBool ?_)
        have next : ∀ (y : Value) (g₂ : Heap) , Le g' g₂ → Is g₂ y ((cs.set i (putN x ci p))[j]'(by simp [hj'])).py → IsAll g₂ (outs ++ [y]) (((cs.set i (putN x ci p)).take (j + 1)).map Nd.py) := by
          intro y g₂ l₂ iy
          rw [List.take_add_one, List.getElem?_eq_getElem (by simp [hj']), List.map_append]
          exact (inv.mono l₂).app (.one iy)
        by_cases q : j = i
        · subst q
          have : ((0 + 1 * (j : Int)) == (j : Int)) = true := by rw [jj]; simp
          rw [this]
          show Wp w A' (eval _ _) _ _
          refine eCallF F W (glC (by decide +kernel)) X.put (sCons (eSub (eSub (ldc F (C := L + 1) (by walk_at "m") (kindC (by decide +kernel) (by rw [esc]; decide +kernel) kN) rfl (eInt fun _ => ?_)))))
          refine tItem (F.gl' (hla.up lg)) (by decide) (by decide) e2 rfl ?_
          refine ld F (by walk_at "at") ?_
          refine tItem (F.gl' (hlb.up lg)) (by omega) (by omega) (by rw [jj]; exact ej) rfl ?_
          refine sCons (eSub (ldc F (C := L + 1 + 1) (by walk_at "m") (kindC (by decide +kernel) (by rw [esc]; decide +kernel) kP) rfl (eSl (pSome (eInt fun _ => pNone ?_)))))
          obtain ⟨g₃, F, le₃, hsl, _⟩ := F.sliceH (.int 1 _) .none
          refine sliceT (vs := pvs) F (hlp.up (lg.trans le₃)) hsl (.int 1 _) .none (by rw [lpv, sizeLine_eq]; omega) fun l2 g₄ h₆ F le₄ hl2 => ?_
          rw [show cut (some 1) none pvs = pvs.drop 1 from cut_from pvs 1] at hl2
          refine sCons (ldc F (C := L + 1 + 1 + 1) (by walk_at "m") (kindC (by decide +kernel) (by rw [esc]; decide +kernel) kX) rfl (sNil ⟨F.kin W, ?_⟩))
          have up := (lg.trans le₃).trans le₄
          have ec : cs[j] = ci := by rw [List.getElem?_eq_getElem hj'] at hci; exact Option.some.inj hci
          have isp : Is g₄ (.ref l2) (pyP p) := .tuple hl2 (by have := (hip.mono up).drop 1; simpa using this)
          have hm : ci ∈ cs := ec ▸ List.getElem_mem hj'
          have hz' := siz_lt (l := lb) hm
          refine ih₁ ci x (W.mono F.gw.le) (by rw [← ec]; exact ij.mono up) isp (hx.mono up) hat (by omega) (by omega) F.gw.sub R fun g₅ h₇ t₇ r G isr => ?_
          refine Elt.mk' () ((le₃.trans le₄).trans G.le) (F.call G) (next r g₅ ((le₃.trans le₄).trans G.le) ?_)
          simpa using isr
        · have : ((0 + 1 * (j : Int)) == (i : Int)) = false := by rw [jj, beq_eq_false_iff_ne]; exact fun e => q (Int.ofNat_inj.mp e)
          rw [this]
          show Wp w A' (eval _ _) _ _
          refine eSub (eSub (ldc F (C := L + 1) (by walk_at "m") (kindC (by decide +kernel) (by rw [esc]; decide +kernel) kN) rfl (eInt fun _ => ?_)))
          refine tItem (F.gl' (hla.up lg)) (by decide) (by decide) e2 rfl ?_
          refine ld F (by walk_at "at") ?_
          refine tItem (F.gl' (hlb.up lg)) (by omega) (by omega) (by rw [jj]; exact ej) rfl ?_
          refine Elt.mk' () (Le.refl _) F (next vj g' (Le.refl _) ?_)
          rw [List.getElem_set_ne (by omega)]
          exact ij.mono lg
      · intro outs _ g' h' t' D l' inv F hD
        obtain ⟨g₃, oD, F, le₃, eD, nD, hoD⟩ := F.frz hD
        refine sNil (nLst F (zL (Nat.le_add_left 2 99998)) fun l7 g₄ h₁₀ F le₄ hl7 => ?_)
        refine k _ _ _ _ F.drop1.drop1.drop1.gw ?_
        have e3 : putN x (.node lb cs) (i :: p) = .node lb (cs.set i (putN x ci p)) := by
          simp only [putN, List.getD_eq_getElem?_getD, hci, Option.getD_some]
        rw [e3, Nd.py_node]
        rw [List.take_of_length_le (by simp; omega)] at inv
        refine .list hl7 (.cons (.str lb u1) (.one ?_))
        exact .list (vs := outs) ⟨oD, le₄ _ _ eD, by rw [hoD], nD, by rw [hoD]⟩ (inv.mono (le₃.trans le₄))
theorem put_spec (X : Wk K mg mb d) : ∀ p, PutSpec w c K mg mb d p
  | [] => put_step X fun i p' e => by cases e
  | i :: p => put_step X fun i p' e => by cases e; exact put_spec X _
end
end TL

end
section
open PySem PySem.W PyProof.Rows PySem.Calls
set_option maxRecDepth 100000
set_option linter.unusedVariables false
set_option linter.unusedSimpArgs false
set_option pp.deepTerms false
set_option pp.deepTerms.threshold 4
set_option pp.maxSteps 2000
namespace TL
open TL
local macro_rules | `(tactic| walk_at "at") => `(tactic| repeat (first | exact At.head | apply At.tail))
local macro_rules | `(tactic| walk_at "put") => `(tactic| repeat (first | exact Put.head | apply Put.tail))
local macro_rules | `(tactic| walk_at "m") => `(tactic| repeat (first | exact List.Mem.head _ | apply List.Mem.tail))
local macro_rules | `(tactic| walk_at "mput") => `(tactic| repeat (first | exact MPut.head | apply MPut.tail))
/-- every q begins with p -/
def agreeP (qs : List (List Nat)) (p : List Nat) : Bool := qs.all fun q => decide (q.take p.length = p)
def lowF : Nat → List (List Nat) → List Nat → List Nat
  | 0, _, p => p
  | n + 1, qs, p => if agreeP qs p = true then p else lowF n qs p.dropLast
section
variable {w : World} {A : Around} {g h : Heap} {c : Shared} {t : Tok} {Q : Value → Shared → Prop} {K : Frag} {mg mb : Str → Option Value} {d : Ad}
theorem gll_range : Gl (scopeOf (stI 20)) (Str.ofString "range") := by decide +kernel
theorem gll_len : Gl (scopeOf (stI 20)) (Str.ofString "len") := by decide +kernel
abbrev csLow (L : Nat) : List (Str × Addr) := [(Str.ofString "place", L + 1 + 1), (Str.ofString "words", L + 1)]
theorem csLow_eq (L : Nat) : cellsFrom (L + 1) (scopeOf (stI 20)).names [] = csLow L := by kernel_rfl
theorem kl1 : (scopeOf (stI 20)).names.lookup (Str.ofString "words") = some .cell := by decide +kernel
theorem kl2 : (scopeOf (stI 20)).names.lookup (Str.ofString "place") = some .cell := by decide +kernel
theorem kl3 : (scopeOf (stI 20)).names.lookup (Str.ofString "first") = some .local := by decide +kernel
theorem kl4 : (scopeOf (stI 20)).names.lookup (Str.ofString "last") = some .local := by decide +kernel
theorem lowest_spec (X : Wk K mg mb d) {rows : List (List Nat × Nd)} {vw : Value} {a b : Nat} {ua ub : Tok} (W : Wg K mg mb g) (hw : Is g vw (.list (rows.map pyR))) (hab : a < b) (hb : b ≤ rows.length) (hr : rows.length ≤ 10000) (hp : ∀ r ∈ rows, r.1.length ≤ 100) (l : Le g h) (room : Room A 2)
    (k : ∀ g' h' t' r p₀, Gw [] g h g' h' → rows[a]?.map (·.1) = some p₀ → Is g' r (pyP (lowF p₀.length (((rows.map (·.1)).drop a).take (b - a)) p₀)) → Q r (St c h' t')) : Wp w A (call (.ref d.lowest) [vw, .int a ua, .int b ub]) Q (St c h t) := by
  refine call_fnC (S := []) [(Str.ofString "words", vw), (Str.ofString "first", .int a ua), (Str.ofString "last", .int b ub)] [(Str.ofString "first", some (.int a ua)), (Str.ofString "last", some (.int b ub))] csLow (fun L => [(L + 1 + 1, celO none), (L + 1, celO (some vw))]) W X.lowest.2 l room (by
      show okFnC (stI 20) [Str.ofString "first", Str.ofString "last"] = true
      decide +kernel) (fun _ _ _ _ _ _ _ => rfl) csLow_eq
    (fun L y hy => by
      simp only [List.mem_cons, List.not_mem_nil, or_false] at hy
      rcases hy with rfl | rfl | rfl
      · exact .inr ⟨kl1, rfl⟩
      · exact .inl kl3
      · exact .inl kl4) (fun p hp => by
      simp only [List.mem_cons, List.not_mem_nil, or_false] at hp
      rcases hp with rfl | rfl <;> kernel_rfl) (fun L => by kernel_rfl) (fun L => (by decide +kernel : ([Str.ofString "place", Str.ofString "words"] : List Str).Nodup)) fun env h₁ t₁ A' L R esc ecl hk F => ?_
  have kW := kd_of esc kl1
  have kP := kd_of esc kl2
  obtain ⟨lw, wvs, rfl, hlw, hiw⟩ := hw.of_list
  have lenw : wvs.length = rows.length := by rw [hiw.len, List.length_map]
  obtain ⟨r0, er0⟩ : ∃ r0, rows[a]? = some r0 := ⟨rows[a]'(by omega), List.getElem?_eq_getElem (by omega)⟩
  have row : ∀ {j : Nat} {r : List Nat × Nd}, rows[j]? = some r → ∃ lt pv nv, wvs[j]? = some (.ref lt) ∧ g.IsTuple lt [pv, nv].toArray ∧ Is g pv (pyP r.1) ∧ Is g nv r.2.py := by
    intro j r e
    obtain ⟨v, ev, iv⟩ := hiw.get (i := j) (d := pyR r) (by rw [List.getElem?_map, e]; rfl)
    obtain ⟨lt, tvs, rfl, ht, hit⟩ := iv.of_tuple
    cases hit with
    | cons i1 r1 =>
      cases r1 with
      | cons i2 r2 =>
        cases r2
        exact ⟨lt, _, _, ev, ht, i1, i2⟩
  obtain ⟨lt0, pv0, nv0, ew0, ht0, ip0, in0⟩ := row er0
  have zr0 := hp r0 (List.mem_of_getElem? er0)
  refine xAsg (eSub (eSub (ldc F (C := L + 1) (by walk_at "m") kW (by rw [ecl]; rfl) (ld F (by walk_at "at") ?_))))
  refine tItem (F.gl' hlw) (by omega) (by omega) (by simpa using ew0) rfl ?_
  refine eInt fun _ => ?_
  refine tItemU (ht0.up F.gw.sub) (by decide) (by decide) rfl rfl ?_
  refine stC F (C := L + 1 + 1) (v₀ := none) (by walk_at "m") (by walk_at "mput") kP (by rw [ecl]; rfl) fun h₂ F => ?_
  refine xWhile (fun n s => ∃ g₁ h₁ t₁ vp p, s = St c h₁ t₁ ∧ Fm env [] g h g₁ [(L + 1 + 1, celO (some vp)), (L + 1, celO (some (.ref lw)))] [(Str.ofString "first", some (.int a ua)), (Str.ofString "last", some (.int b ub))] h₁ ∧ Is g₁ vp (pyP p) ∧ p.length = n ∧ n ≤ 100 ∧
      lowF n (((rows.map (·.1)).drop a).take (b - a)) p = lowF r0.1.length (((rows.map (·.1)).drop a).take (b - a)) r0.1) r0.1.length ⟨g, h₂, _, pv0, r0.1, rfl, F, ip0, rfl, zr0, rfl⟩ ?_
  rintro n s ⟨g₁, h₃, t₃, vp, p, rfl, F, isp, hn, hn', hlow⟩
  have le₁ := F.gw.le
  obtain ⟨lp, pvs, rfl, hlp, hip⟩ := isp.of_tuple
  have lpv : pvs.length = p.length := by have := hip.len; simpa using this
  refine tCmp (eCallB F W (esc ▸ gll_len) X.len (sCons (eComp (cl := [(Str.ofString "words", L + 1), (Str.ofString "place", L + 1 + 1)]) (closure_of (by rw [ecl]; kernel_rfl)) (by decide +kernel) (eCallT F W (esc ▸ gll_range) X.range (sCons (ld F (by walk_at "at") (sCons (ld F (by walk_at "at") (sNil ?_)))))))))
  refine rng2 F (by omega) (by omega) (by omega) (by omega) fun I h₄ t₄ hI F => ?_
  have nba : ((b : Int) - (a : Int)).toNat = b - a := by omega
  have nrow : ∀ j, j < b - a → ∃ r, rows[a + j]? = some r := fun j hj => ⟨rows[a + j]'(by omega), List.getElem?_eq_getElem (by omega)⟩
  have qat : ∀ j, j < b - a → ∀ r, rows[a + j]? = some r → (((rows.map (·.1)).drop a).take (b - a))[j]? = some r.1 := fun j hj r e => by
    rw [List.getElem?_take, if_pos hj, List.getElem?_drop, List.getElem?_map, e]; rfl
  refine cloop1 (σ := Unit) (P := ritr a 1 ((b : Int) - a).toNat) (n := ((b : Int) - a).toNat) (V := fun i v => ∃ u, v = .int ((a : Int) + 1 * i) u) (μI := fun _ => [(L + 1 + 1, celO (some (.ref lp))), (L + 1, celO (some (.ref lw)))]) ()
    (fun j outs _ _ => (outs = [] ↔ agreeP ((((rows.map (·.1)).drop a).take (b - a)).take j) p = true) ∧ outs.length ≤ j) R.handled (by decide +kernel) (zL (by omega)) F hI (fun _ _ _ _ => selfR) itrRange ⟨by simp [agreeP], Nat.zero_le _⟩ ?_ ?_
  · intro j vj outs _ g' h' t' D C Lo hj hvj l' inv ho F
    obtain ⟨uj, rfl⟩ := hvj
    have hj' : j < b - a := by omega
    obtain ⟨r, er⟩ := nrow j hj'
    obtain ⟨lt, pv, nv, ew, htj, ipj, inj⟩ := row er
    obtain ⟨lq, qvs, rfl, hlq, hiq⟩ := ipj.of_tuple
    have lqv : qvs.length = r.1.length := by have := hiq.len; simpa using this
    have zq := hp r (List.mem_of_getElem? er)
    have lg := le₁.trans l'
    have aj : ((a : Int) + 1 * (j : Int)) = ((a + j : Nat) : Int) := by omega
    refine tCmp (eSub (eSub (eSub (ldc F (C := L + 1) (by walk_at "m") (kindC (by decide +kernel) (by rw [esc]; decide +kernel) kW) rfl (ld F (by walk_at "at") ?_)))))
    refine tItem (F.gl' (hlw.up lg)) (by omega) (by omega) (by rw [aj, Int.toNat_natCast]; exact ew) rfl ?_
    refine eInt fun _ => ?_
    refine tItemU ((htj.up lg).up F.gw.sub) (by decide) (by decide) rfl rfl ?_
    refine eSl (pNone (pSome (eCallB F W (glC (by decide +kernel)) X.len (sCons (ldc F (C := L + 1 + 1) (by walk_at "m") (kindC (by decide +kernel) (by rw [esc]; decide +kernel) kP) rfl (sNil ?_))))))
    refine cLenU ((hlp.up l').up F.gw.sub) (by omega) fun u₁ t₅ => ?_
    obtain ⟨g₃, F, le₃, hsl, _⟩ := F.sliceH .none (.int pvs.length u₁)
    refine sliceT (vs := qvs) F (hlq.up (lg.trans le₃)) hsl .none (.int _ _) (zL (by omega)) fun l2 g₄ h₆ F le₄ hl2 => ?_
    rw [show cut none (some (pvs.length : Int)) qvs = qvs.take pvs.length from cut_to qvs _] at hl2
    refine ldc F (C := L + 1 + 1) (by walk_at "m") (kindC (by decide +kernel) (by rw [esc]; decide +kernel) kP) rfl ?_
    have up := (lg.trans le₃).trans le₄
    have isq : Is g₄ (.ref l2) (pyP (r.1.take p.length)) := by
      rw [lpv] at hl2
      unfold pyP
      rw [List.map_take]
      exact .tuple hl2 ((hiq.mono up).take _)
    refine oNe R (isq.mono F.gw.sub) ((isp.mono ((l'.trans le₃).trans le₄)).mono F.gw.sub) (shP _) (shP _) (nbP _) (nbP _) fun bb hbb => tBool ?_
    refine ⟨(), g₄, _, _, rfl, le₃.trans le₄, F, ?_⟩
    have e1 : (((rows.map (·.1)).drop a).take (b - a)).take (j + 1) = (((rows.map (·.1)).drop a).take (b - a)).take j ++ [r.1] := by
      rw [List.take_add_one, qat j hj' r er]; rfl
    have e2 : agreeP ((((rows.map (·.1)).drop a).take (b - a)).take (j + 1)) p = (agreeP ((((rows.map (·.1)).drop a).take (b - a)).take j) p && decide (r.1.take p.length = p)) := by
      rw [e1]; simp [agreeP, List.all_append]
    by_cases q : r.1.take p.length = p
    · have : bb = false := by
        cases bb with
        | false => rfl
        | true => exact absurd (by rw [q]) (hbb.mp rfl)
      subst this
      rw [if_neg (by decide)]
      refine ⟨?_, Nat.le_succ_of_le inv.2⟩
      rw [e2, decide_eq_true q, Bool.and_true]; exact inv.1
    · have : bb = true := hbb.mpr fun e => q (pyP_inj e)
      subst this
      rw [if_pos rfl]
      refine eInt fun _ => Elt.mk' () (Le.refl _) F ⟨?_, by simp; exact inv.2⟩
      rw [e2, decide_eq_false q, Bool.and_false]
      simp
  · intro outs _ g' h' t' D l' inv F hD
    refine sNil (cLen (F.ml (.head _)) (by have := inv.2; omega) fun u₁ t₅ => ?_)
    have F := F.drop1
    refine eInt fun _ => oGt (tBool ?_)
    have all : ((((rows.map (·.1)).drop a).take (b - a)).take ((b : Int) - a).toNat) = (((rows.map (·.1)).drop a).take (b - a)) := List.take_of_length_le (by rw [List.length_take]; omega)
    rw [all] at inv
    by_cases q : outs = []
    · subst q
      rw [show decide ((0 : Int) < (([] : List Value).length : Int)) = false by decide, if_neg (by decide)]
      refine xRet (ldc F (C := L + 1 + 1) (by walk_at "m") kP (by rw [ecl]; rfl) ?_)
      refine k _ _ _ _ r0.1 F.drop1.drop1.gw (by rw [er0]; rfl) ?_
      rw [← hlow]
      have ag := inv.1.mp rfl
      have : lowF n (((rows.map (·.1)).drop a).take (b - a)) p = p := by
        cases n with
        | zero => rfl
        | succ n => simp only [lowF, ag, if_true]
      rw [this]
      exact isp.mono l'
    · have pos : 0 < outs.length := List.length_pos_iff.mpr q
      rw [show decide ((0 : Int) < (outs.length : Int)) = true from decide_eq_true (by omega), if_pos rfl]
      have nag : ¬ agreeP (((rows.map (·.1)).drop a).take (b - a)) p = true := fun e => q (inv.1.mpr e)
      have hn0 : 0 < n := by
        rcases Nat.eq_zero_or_pos n with z | z
        · have : p = [] := List.length_eq_zero_iff.mp (by omega)
          subst this
          exact absurd (by simp [agreeP]) nag
        · exact z
      refine xAsg (eSub (ldc F (C := L + 1 + 1) (by walk_at "m") kP (by rw [ecl]; rfl) (eSl (pNone (pSome (eM1 fun u₂ t₆ => ?_))))))
      obtain ⟨g₃, F, le₃, hsl, _⟩ := F.sliceH .none (.int (-1) u₂)
      refine sliceT (vs := pvs) F (hlp.up (l'.trans le₃)) hsl .none (.int _ _) (zL (by omega)) fun l2 g₄ h₆ F le₄ hl2 => ?_
      rw [cut_init] at hl2
      refine stC F (C := L + 1 + 1) (v₀ := some (.ref lp)) (by walk_at "m") (by walk_at "mput") kP (by rw [ecl]; rfl) fun h₇ F => xNil ?_
      refine ⟨.inl rfl, n - 1, by omega, g₄, h₇, _, .ref l2, p.dropLast, rfl, F, ?_, by rw [List.length_dropLast]; omega, by omega, ?_⟩
      · unfold pyP
        rw [List.map_dropLast]
        have := (hip.mono ((l'.trans le₃).trans le₄)).take (pvs.length - 1)
        rw [← List.dropLast_eq_take, lpv] at this
        rw [List.dropLast_eq_take (l := List.map _ _), List.length_map]
        exact .tuple hl2 this
      · rw [← hlow]
        obtain ⟨n', rfl⟩ : ∃ n', n = n' + 1 := ⟨n - 1, by omega⟩
        exact (if_neg nag : lowF (n' + 1) (((rows.map (·.1)).drop a).take (b - a)) p = _).symm
end
end TL

end
section
open PySem PySem.W PyProof.Rows PySem.Calls
set_option maxRecDepth 100000
set_option linter.unusedVariables false
set_option linter.unusedSimpArgs false
set_option pp.deepTerms false
set_option pp.deepTerms.threshold 4
set_option pp.maxSteps 2000
namespace TL
open TL
local macro_rules | `(tactic| walk_at "at") => `(tactic| repeat (first | exact At.head | apply At.tail))
local macro_rules | `(tactic| walk_at "put") => `(tactic| repeat (first | exact Put.head | apply Put.tail))
local macro_rules | `(tactic| walk_at "m") => `(tactic| repeat (first | exact List.Mem.head _ | apply List.Mem.tail))
local macro_rules | `(tactic| walk_at "mput") => `(tactic| repeat (first | exact MPut.head | apply MPut.tail))
/-! trees in the heap -/
mutual
inductive Tr (g : Heap) (C : Addr) : Value → Nd → Prop
  | leaf (s : Str) (u : Tok) : Tr g C (.str s u) (.leaf s)
  | node {x dx : Addr} {ox od : Obj} {l : Str} {vs : List Value} {cs : List Nd} : g.get? x = some ox → treeO C dx vs ox → g.get? dx = some od → lblO l od → Trs g C vs cs → Tr g C (.ref x) (.node l cs)
inductive Trs (g : Heap) (C : Addr) : List Value → List Nd → Prop
  | nil : Trs g C [] []
  | cons {v : Value} {c : Nd} {vs : List Value} {cs : List Nd} : Tr g C v c → Trs g C vs cs → Trs g C (v :: vs) (c :: cs)
end
mutual
theorem Tr.mono {g h : Heap} {C : Addr} (l : Le g h) : ∀ {v : Value} {n : Nd}, Tr g C v n → Tr h C v n
  | _, _, .leaf s u => .leaf s u
  | _, _, .node a b d e f => .node (l _ _ a) b (l _ _ d) e (Trs.mono l f)
theorem Trs.mono {g h : Heap} {C : Addr} (l : Le g h) : ∀ {vs : List Value} {cs : List Nd}, Trs g C vs cs → Trs h C vs cs
  | _, _, .nil => .nil
  | _, _, .cons a b => .cons (Tr.mono l a) (Trs.mono l b)
end
theorem Trs.len {g : Heap} {C : Addr} : ∀ {vs : List Value} {cs : List Nd}, Trs g C vs cs → vs.length = cs.length
  | _, _, .nil => rfl
  | _, _, .cons _ b => by simp [Trs.len b]
theorem Trs.at {g : Heap} {C : Addr} : ∀ {vs : List Value} {cs : List Nd}, Trs g C vs cs → ∀ {i : Nat} {v : Value}, vs[i]? = some v → ∃ c, cs[i]? = some c ∧ Tr g C v c
  | _, _, .nil, i, v, h => by simp at h
  | _, _, .cons a b, 0, v, h => by simp at h; subst h; exact ⟨_, rfl, a⟩
  | _, _, .cons a b, i + 1, v, h => by simpa using Trs.at b (by simpa using h)
theorem Trs.get {g : Heap} {C : Addr} : ∀ {vs : List Value} {cs : List Nd}, Trs g C vs cs → ∀ {i : Nat} {c : Nd}, cs[i]? = some c → ∃ v, vs[i]? = some v ∧ Tr g C v c
  | _, _, .nil, i, v, h => by simp at h
  | _, _, .cons a b, 0, v, h => by simp at h; subst h; exact ⟨_, rfl, a⟩
  | _, _, .cons a b, i + 1, v, h => by simpa using Trs.get b (by simpa using h)
theorem Tr.of_leaf {g : Heap} {C : Addr} {v : Value} {s : Str} (h : Tr g C v (.leaf s)) : ∃ u, v = .str s u := by cases h; exact ⟨_, rfl⟩
/-- a tree's parts -/
structure TrN (g : Heap) (C x dx : Addr) (ox od : Obj) (l : Str) (vs : List Value) (cs : List Nd) : Prop where
  x_ : g.get? x = some ox
  o_ : treeO C dx vs ox
  d_ : g.get? dx = some od
  l_ : lblO l od
  c_ : Trs g C vs cs
theorem Tr.of_node {g : Heap} {C : Addr} {v : Value} {l : Str} {cs : List Nd} (h : Tr g C v (.node l cs)) : ∃ x dx ox od vs, v = .ref x ∧ TrN g C x dx ox od l vs cs := by
  cases h with
  | node a b d e f => exact ⟨_, _, _, _, _, rfl, a, b, d, e, f⟩
theorem TrN.inst {g h : Heap} {C x dx : Addr} {ox od : Obj} {l : Str} {vs : List Value} {cs : List Nd} (t : TrN g C x dx ox od l vs cs) (le : Le g h) : InstAt h x ox C (some od) := t.o_.inst (le _ _ t.x_) (le _ _ t.d_)
theorem TrN.mono {g h : Heap} {C x dx : Addr} {ox od : Obj} {l : Str} {vs : List Value} {cs : List Nd} (t : TrN g C x dx ox od l vs cs) (le : Le g h) : TrN h C x dx ox od l vs cs := ⟨le _ _ t.x_, t.o_, le _ _ t.d_, t.l_, t.c_.mono le⟩
theorem TrN.dict {g h : Heap} {C x dx : Addr} {ox od : Obj} {l : Str} {vs : List Value} {cs : List Nd} (t : TrN g C x dx ox od l vs cs) (le : Le g h) : ∃ dx, ox.dict = some dx ∧ h.get? dx = some od := by
  obtain ⟨n, e⟩ := t.o_
  exact ⟨dx, by rw [e], le _ _ t.d_⟩

/-- where the methods lie -/
structure Md where
  (init getitem setitem label set_label leaves height prods pos leafpos spanning eq : Addr)
  (pinit lhs rhs ninit symbol : Addr)
def FnD (K : Frag) (f : Addr) (st : Stmt) : Prop := ∃ oc od osl name qual T oT items n doc pm an cdv ct,
  K.lookup f = some ⟨oc, od, .func (fnOf name qual (argsOf st) (bodyOf st) (scopeOf st) (.ref T) .none doc pm an cdv ct), osl⟩ ∧ codeIn K cdv qual = true ∧ K.lookup T = some oT ∧ oT.data = .seq items n ∧ items = #[.none]
/-- a method of the class, a plain def -/
structure Mth (K : Frag) (C f : Addr) (name : Str) (st : Stmt) : Prop where
  find : findIn K (.ref C) name = some (some (.ref f))
  isf : isFn K (.ref f) = true
  fn : Fn K f st
structure TM (K : Frag) (d : Ad) (m : Md) : Prop where
  tree : TreeK K d.tree
  prod : PlainK K d.prod
  nont : PlainK K d.nont
  notS : isNotIn K "str" d.tree = true
  keepT : keepIn K (.ref d.tree) = true
  keepP : keepIn K (.ref d.prod) = true
  keepN : keepIn K (.ref d.nont) = true
  initF : findIn K (.ref d.tree) "__init__" = some (some (.ref m.init))
  initT : typeIn K (.ref m.init) = some (.type "function")
  initD : FnD K m.init (meth 5 0)
  eq : Mth K d.tree m.eq "__eq__" (meth 5 1)
  getitem : Mth K d.tree m.getitem "__getitem__" (meth 5 7)
  giFn : fnIn K m.getitem = true
  setitem : Mth K d.tree m.setitem "__setitem__" (meth 5 8)
  label : Mth K d.tree m.label "label" (meth 5 9)
  set_label : Mth K d.tree m.set_label "set_label" (meth 5 10)
  leaves : Mth K d.tree m.leaves "leaves" (meth 5 11)
  height : Mth K d.tree m.height "height" (meth 5 13)
  prods : Mth K d.tree m.prods "productions" (meth 5 16)
  pos : Mth K d.tree m.pos "pos" (meth 5 17)
  leafpos : Mth K d.tree m.leafpos "leaf_treeposition" (meth 5 18)
  spanning : Mth K d.tree m.spanning "treeposition_spanning_leaves" (meth 5 19)
  sym0 : findIn K (.ref d.nont) "_symbol" = some none
  lhs0 : findIn K (.ref d.prod) "_lhs" = some none
  rhs0 : findIn K (.ref d.prod) "_rhs" = some none
  gaN : plainGet K d.nont "symbol" = true
  gaP : plainGet K d.prod "lhs" = true
  pinit : Mth K d.prod m.pinit "__init__" (meth 3 0)
  lhs : Mth K d.prod m.lhs "lhs" (meth 3 1)
  rhs : Mth K d.prod m.rhs "rhs" (meth 3 2)
  ninit : Mth K d.nont m.ninit "__init__" (meth 2 0)
  symbol : Mth K d.nont m.symbol "symbol" (meth 2 1)
section
variable {w : World} {A : Around} {g h : Heap} {c : Shared} {t : Tok} {K : Frag} {mg mb : Str → Option Value} {d : Ad} {m : Md}
theorem code_fnD {f : Addr} {st : Stmt} {vals : List Value} {n : Nat} {R : Result → Shared → Prop} {S : List Addr} (ps os : List Str) (W : Wg K mg mb g) (fn : FnD K f st) (l : Le g h) (room : Room A (n + 1)) (ok : okFn st ps os = true)
    (hb : ∀ nm q T doc pm an cdv ct, ∃ kk : Option (Array Value) → Sem (List (Str × Value)), bindArgs (fnOf nm q (argsOf st) (bodyOf st) (scopeOf st) (.ref T) .none doc pm an cdv ct) ⟨vals, []⟩ = seqItems? (.ref T) >>= kk ∧ kk (some #[.none]) = pure (ps.zip vals)) (hl : ps.length = vals.length)
    (k : ∀ env h₁ t₁ A', Room A' n → env.scope = scopeOf st → env.cells = [] → Le h h₁ → Fm env S g h g [] (mkLc ps vals os) h₁ →
      Wp w A' (execs (bodyOf st) env) (fun fl s' => R (.ok (.ret (retOf fl))) s') (St c h₁ t₁)) :
    codeAny (model prg w) A (.call (.ref f) ⟨vals, []⟩) R (St c h t) := by
  obtain ⟨oc, od, osl, name, qual, T, oT, items, nn, doc, pm, an, cdv, ct, ho, hcd, hT, hTd, rfl⟩ := fn
  obtain ⟨kk, hb1, hb2⟩ := hb name qual T doc pm an cdv ct
  simp only [okFn, Bool.and_eq_true, beq_iff_eq, Bool.not_eq_true', List.all_eq_true, decide_eq_true_eq, bne_iff_ne, ne_eq] at ok
  obtain ⟨⟨⟨⟨⟨⟨e1, e2⟩, e3⟩, e4⟩, e5⟩, e6⟩, e7⟩ := ok
  have hloc : ∀ x ∈ ps.zip vals, (scopeOf st).names.lookup x.1 = some .local := fun x hx => (e7 x.1 (List.mem_append_left _ (List.of_mem_zip hx).1)).1
  refine codeAny_call_def (s := St c h t) (fd := fnOf name qual (argsOf st) (bodyOf st) (scopeOf st) (.ref T) .none doc pm an cdv ct) (body := bodyOf st) (binds := ps.zip vals) room.lt (l _ _ (W.k _ _ ho)) rfl (W.nolimit.keeps l)
    ((codeRec_of W.k hcd).keeps l) rfl (BindsTo.of_defaults rfl (l _ _ (W.k _ _ hT)) hTd hb1 hb2) e5 hloc (fun h₁ hn hk => ?_) e4 e3 e2
  refine (k (envOf qual (scopeOf st) h.objs.size f cdv) h₁ _ _ (room.deeper _) rfl rfl hk ?_).to (fun fl s' q => ?_)
  · have none_at : ∀ x : Heap, Le x h → x.get? h.objs.size = none := fun x lx => by
      cases q : x.get? h.objs.size with
      | none => rfl
      | some o => exact absurd (Heap.lt_size (lx _ _ q)) (Nat.lt_irrefl _)
    exact {
      gw := ⟨Le.refl g, fun b o e => hk b o (l b o e), fun a o _ e => hk a o e, fun a o e => .inl e, fun a e => by
        cases q : h.get? a with
        | none => rfl
        | some o => rw [hk a o q] at e; cases e⟩
      ns := ⟨_, hn, mkLc_is ps vals os hl e6⟩
      offL := none_at g l
      newL := none_at h (Le.refl h)
      mu := fun p hp => nomatch hp
      nd := by rw [mkLc_keys _ _ _ hl]; exact e6
      ndm := .nil
      kd := fun p hp => by
        have : p.1 ∈ ps ++ os := by rw [← mkLc_keys ps vals os hl]; exact List.mem_map_of_mem hp
        exact ⟨(e7 _ this).1, (e7 _ this).2⟩
      kf := e2
      gl := rfl
      bi := rfl }
  · cases fl <;> exact q

/-! Tree.__init__ -/
def psInit : List Str := ["self", "node", "children"]
theorem okInit : okFn (meth 5 0) psInit [] = true := by decide +kernel
theorem gli_isi : Gl (scopeOf (meth 5 0)) (Str.ofString "isinstance") := by decide +kernel
theorem gli_str : Gl (scopeOf (meth 5 0)) (Str.ofString "str") := by decide +kernel
theorem gli_list : Gl (scopeOf (meth 5 0)) (Str.ofString "list") := by decide +kernel
theorem init_spec (X : Wk K mg mb d) (Y : TM K d m) (W : Wg K mg mb g) {x dx l : Addr} {lb : Str} {u : Tok} {vs : List Value} {ox od : Obj} {R : Result → Shared → Prop} (le : Le g h) (room : Room A 2)
    (hx : h.get? x = some ox) (ho : treeO d.tree dx [] ox) (hd : h.get? dx = some od) (hod : dctO od) (gx : g.get? x = none) (gd : g.get? dx = none) (hne : x ≠ dx) (hl : g.IsList l vs.toArray) (hz : vs.length ≤ sizeLine)
    (k : ∀ h' t' ox' od', Gw [x, dx] g h g h' → h'.get? x = some ox' → treeO d.tree dx vs ox' → h'.get? dx = some od' → lblO lb od' → R (.ok (.ret .none)) (St c h' t')) :
    codeAny (model prg w) A (.call (.ref m.init) ⟨[.ref x, .str lb u, .ref l], []⟩) R (St c h t) := by
  refine code_fnD psInit [] (S := [x, dx]) W Y.initD le room okInit (fun _ _ _ _ _ _ _ _ => ⟨_, rfl, rfl⟩) rfl fun env h₁ t₁ A' R esc ecl hk F => ?_
  have F := F.own1 (hk _ _ hd) hod (.tail _ (.head _)) gd (F.notL hd) (fun p hp => nomatch hp)
  have F := F.own1 (hk _ _ hx) ho (.head _) gx (F.notL hx) (fun p hp => by rw [List.mem_singleton.mp hp]; exact Ne.symm hne)
  dsimp only [psInit, mkLc, List.map] at F
  refine xIf (tCmp (ld F (by walk_at "at") (eNone (oIsNoneF (tBool ?_)))))
  refine xIf (tVal (eCallB F W (esc ▸ gli_isi) X.isi (sCons (ld F (by walk_at "at") (sCons (ldB F W (esc ▸ gli_str) X.str (sNil ?_)))))))
  refine isiGo (let ⟨o, a, b, _⟩ := F.gl' hl; (says_list_str a b).at0) fun t₂ => tBool ?_
  refine xExpr F.kf (eMeth rfl rfl (by decide) (ldB F W (esc ▸ gli_list) X.list ?_))
  refine mT_list (F.kin W) (fc_init K) rfl fun t₃ => ?_
  refine cwB (sCons (ld F (by walk_at "at") (sCons (ld F (by walk_at "at") (sNil ?_)))))
  obtain ⟨ox', hx', ho', _⟩ := F.has (P := treeO d.tree dx []) (a := x) (by walk_at "m")
  obtain ⟨od', hd', hod', _⟩ := F.has (P := dctO) (a := dx) (by walk_at "m")
  have hlx : l ≠ x := fun e => by obtain ⟨o, a, _⟩ := hl; rw [e, gx] at a; cases a
  refine linT F (F.kin W) Y.tree (ho'.inst hx' hd') ho' (F.gl' hl) hlx (by walk_at "mput") hz fun h₂ F => ?_
  obtain ⟨ox', hx', ho', _⟩ := F.has (P := treeO d.tree dx vs) (a := x) (by walk_at "m")
  obtain ⟨od', hd', hod', _⟩ := F.has (P := dctO) (a := dx) (by walk_at "m")
  refine xSetAttr (ld F (by walk_at "at") (ld F (by walk_at "at") ?_))
  refine setLbl (l := lb) F (F.kin W) Y.tree (ho'.inst hx' hd') ho' hd' hod' (by walk_at "mput") fun h₃ t₄ F => xNil (xNil (xNil ?_))
  obtain ⟨ox', hx', ho', _⟩ := F.has (P := treeO d.tree dx vs) (a := x) (by walk_at "m")
  obtain ⟨od', hd', hod', _⟩ := F.has (P := lblO lb) (a := dx) (by walk_at "m")
  exact k _ _ _ _ F.drop1.drop1.gw hx' ho' hd' hod'
end
end TL

end
section
open PySem PySem.W PyProof.Rows PySem.Calls
set_option maxRecDepth 100000
set_option linter.unusedVariables false
set_option linter.unusedSimpArgs false
set_option pp.deepTerms false
set_option pp.deepTerms.threshold 4
set_option pp.maxSteps 2000
namespace TL
open TL
local macro_rules | `(tactic| walk_at "at") => `(tactic| repeat (first | exact At.head | apply At.tail))
local macro_rules | `(tactic| walk_at "put") => `(tactic| repeat (first | exact Put.head | apply Put.tail))
local macro_rules | `(tactic| walk_at "m") => `(tactic| repeat (first | exact List.Mem.head _ | apply List.Mem.tail))
local macro_rules | `(tactic| walk_at "mput") => `(tactic| repeat (first | exact MPut.head | apply MPut.tail))
/-! a tree with its places in the heap -/
inductive TT
  | leaf (s : Str) (u : Tok)
  | node (x dx : Addr) (l : Str) (cs : List TT)
def TT.val : TT → Value
  | .leaf s u => .str s u
  | .node x _ _ _ => .ref x
mutual
def TT.nd : TT → Nd
  | .leaf s _ => .leaf s
  | .node _ _ l cs => .node l (ndL cs)
def ndL : List TT → List Nd
  | [] => []
  | c :: cs => c.nd :: ndL cs
end
theorem ndL_map : ∀ cs : List TT, ndL cs = cs.map TT.nd
  | [] => by simp [ndL]
  | c :: cs => by simp [ndL, ndL_map cs]
mutual
def TT.mu (C : Addr) : TT → Mu
  | .leaf _ _ => []
  | .node x dx l cs => (x, treeO C dx (cs.map TT.val)) :: (dx, lblO l) :: muL C cs
def muL (C : Addr) : List TT → Mu
  | [] => []
  | c :: cs => c.mu C ++ muL C cs
end
theorem muL_app (C : Addr) : ∀ a b : List TT, muL C (a ++ b) = muL C a ++ muL C b
  | [], b => by simp [muL]
  | c :: a, b => by simp [muL, muL_app C a b]
mutual
theorem TT.tr {h : Heap} {C : Addr} : ∀ {T : TT}, (∀ p ∈ T.mu C, ∃ o, h.get? p.1 = some o ∧ p.2 o) → Tr h C T.val T.nd
  | .leaf s u, _ => by simp only [TT.nd]; exact .leaf s u
  | .node x dx l cs, H => by
    simp only [TT.mu] at H
    obtain ⟨ox, a, b⟩ := H _ (.head _)
    obtain ⟨od, e, f⟩ := H _ (.tail _ (.head _))
    simp only [TT.nd]
    exact .node a b e f (trL fun p hp => H p (.tail _ (.tail _ hp)))
theorem trL {h : Heap} {C : Addr} : ∀ {cs : List TT}, (∀ p ∈ muL C cs, ∃ o, h.get? p.1 = some o ∧ p.2 o) → Trs h C (cs.map TT.val) (ndL cs)
  | [], _ => by simp only [ndL, List.map_nil]; exact .nil
  | c :: cs, H => by
    simp only [muL] at H
    simp only [ndL, List.map_cons]
    exact .cons (TT.tr fun p hp => H p (List.mem_append_left _ hp)) (trL fun p hp => H p (List.mem_append_right _ hp))
end
/-- a new tree -/
structure FreshT (C : Addr) (h h' : Heap) (T : TT) : Prop where
  nd : ((T.mu C).map (·.1)).Nodup
  new : ∀ p ∈ T.mu C, h.get? p.1 = none
  has : ∀ p ∈ T.mu C, ∃ o, h'.get? p.1 = some o ∧ p.2 o
section
variable {env : Env} {S : List Addr} {g₀ h₀ g h hB gB : Heap} {μ μN μB : Mu} {lc lcB : Lc}
theorem Fm.adoptAll (B : Fm env S g₀ h₀ gB μB lcB hB) (F : Fm env S g₀ h₀ g μ lc h) (hμ : ∀ p ∈ μ, ∃ o, hB.get? p.1 = some o) (nd : (μN.map (·.1)).Nodup) (new : ∀ p ∈ μN, hB.get? p.1 = none) (hg : ∀ p ∈ μN, g.get? p.1 = none) (has : ∀ p ∈ μN, ∃ o, h.get? p.1 = some o ∧ p.2 o) :
    Fm env S g₀ h₀ g (μN ++ μ) lc h := by
  refine { F with mu := fun q hq => ?_, ndm := ?_ }
  · rcases List.mem_append.mp hq with hq | hq
    · obtain ⟨n1, n2, n3, n4⟩ := B.none_new (new q hq)
      exact ⟨has q hq, hg q hq, n2, .inr n3⟩
    · exact F.mu q hq
  · rw [List.map_append, List.nodup_append]
    refine ⟨nd, F.ndm, fun a ha b hb e => ?_⟩
    obtain ⟨p, hp, rfl⟩ := List.mem_map.mp ha
    obtain ⟨q, hq, rfl⟩ := List.mem_map.mp hb
    obtain ⟨o, ho⟩ := hμ q hq
    rw [← e, new p hp] at ho; cases ho
theorem Fm.fresh {C : Addr} {T : TT} (F : Fm env [] g₀ h₀ g (T.mu C) lc h) : FreshT C h₀ h T :=
  ⟨F.ndm, fun p hp => (F.mu p hp).2.2.2.resolve_left (fun z => nomatch z), fun p hp => (F.mu p hp).1⟩
end
section
variable {w : World} {A : Around} {env : Env} {S : List Addr} {g₀ h₀ g h : Heap} {μ : Mu} {lc : Lc} {c : Shared} {t : Tok} {Q : Value → Shared → Prop} {K : Frag} {mg mb : Str → Option Value} {d : Ad} {m : Md} {x : Str} {pos p : Pos}
/-- a class called -/
theorem eCallC {f : Addr} {e : Expr} {args : List Expr} (F : Fm env S g₀ h₀ g μ lc h) (W : Wg K mg mb g₀) (hx : Gl env.scope x) (hv : mg x = some (.ref f)) (hk : keepIn K (.ref f) = true)
    (k : Wp w A (spliced (backTo pos (starEach (e :: args) env))) (fun vs s₁ => K.In s₁.heap ∧ Wp w A (call (.ref f) vs) Q s₁) (St c h t)) (he : (e :: args).any isStar = false := by rfl) :
    Wp w A (eval (.Call (.Name x p) (e :: args) [] pos) env) Q (St c h t) := by
  have hp := he
  rw [List.any_cons, Bool.or_eq_false_iff] at hp
  refine ⟨wpAny_Call_Name_kw (ldG F W hx hv ?_).go⟩
  exact callWith_K W.k hk (k.to fun _ _ k => ⟨k.1, k.2.go⟩) (no_star hp.1) (no_stars hp.2)
theorem cTree (X : Wk K mg mb d) (Y : TM K d m) (F : Fm env S g₀ h₀ g μ lc h) (W : Wg K mg mb g₀) {l : Addr} {lb : Str} {u : Tok} {vs : List Value} (hl : h.IsList l vs.toArray) (hz : vs.length ≤ sizeLine) (room : Room A 3)
    (k : ∀ x dx h' t', Fm env S g₀ h₀ g ((x, treeO d.tree dx vs) :: (dx, lblO lb) :: μ) lc h' → Q (.ref x) (St c h' t')) : Wp w A (call (.ref d.tree) [.str lb u, .ref l]) Q (St c h t) := by
  refine makeT (F.kin W) Y.tree Y.initF Y.initT (n := 2) room fun A' R => ?_
  have F₁ := F.push (o := emptyDict) (P := dctO) rfl dctO.bare
  have F₂ := F₁.push (o := bareT d.tree h.objs.size) (P := treeO d.tree h.objs.size []) rfl ⟨_, rfl⟩
  rw [Heap.size_push] at F₂
  obtain ⟨ox, hx, ho, gx⟩ := F₂.has (.head _)
  obtain ⟨od, hd, hod, gd⟩ := F₂.has (.tail _ (.head _))
  have up : Le h ((h.push emptyDict).push (bareT d.tree h.objs.size)) := fun b o e => Heap.get?_push_of_some _ (Heap.get?_push_of_some _ e)
  have big : ∀ a, h.objs.size ≤ a → h.get? a = none := fun a ha => by
    cases q : h.get? a with
    | none => rfl
    | some o => exact absurd (Heap.lt_size q) (Nat.not_lt.mpr ha)
  refine init_spec (g := h) X Y (W.mono (F.gw.le.trans F.gw.sub)) up R hx ho hd hod (big _ (Nat.le_succ _)) (big _ (Nat.le_refl _)) (Nat.succ_ne_self _) hl hz fun h' t' ox' od' G e1 e2 e3 e4 => ⟨rfl, ?_⟩
  have G' := G.base F₂.gw.sub (fun a ha => by
    simp only [List.mem_cons, List.not_mem_nil, or_false] at ha
    rcases ha with rfl | rfl
    · exact gx
    · exact gd)
  have nd := F₂.ndm
  simp only [List.map_cons, List.nodup_cons, List.mem_cons, not_or] at nd
  refine k _ h.objs.size h' t' (F₂.callG G' (fun a ha => by
    simp only [List.mem_cons, List.not_mem_nil, or_false] at ha
    rcases ha with rfl | rfl <;> simp) rfl fun p hp => ?_)
  rcases List.mem_cons.mp hp with rfl | hp
  · exact .inr ⟨_, e1, e2⟩
  rcases List.mem_cons.mp hp with rfl | hp
  · exact .inr ⟨_, e3, e4⟩
  · refine .inl ⟨fun z => ?_, .tail _ (.tail _ hp)⟩
    simp only [List.mem_cons, List.not_mem_nil, or_false] at z
    have hm := List.mem_map_of_mem (f := (·.1)) hp
    rcases z with z | z
    · exact nd.1.2 (z ▸ hm)
    · exact nd.2.1 (z ▸ hm)

/-! _law_built -/
def psBuilt : List Str := ["node"]
theorem okBuilt : okFn (stI 12) psBuilt [] = true := by decide +kernel
theorem glb_isi : Gl (scopeOf (stI 12)) (Str.ofString "isinstance") := by decide +kernel
theorem glb_str : Gl (scopeOf (stI 12)) (Str.ofString "str") := by decide +kernel
theorem glb_tree : Gl (scopeOf (stI 12)) (Str.ofString "Tree") := by decide +kernel
theorem built_spec (X : Wk K mg mb d) (Y : TM K d m) : ∀ (n : Nat) (nd : Nd) {A : Around} {g h : Heap} {t : Tok} {v : Value} {Q : Value → Shared → Prop}, nd.dep ≤ n → Wg K mg mb g → Is g v nd.py → nd.siz ≤ 10000 → Le g h → Room A (n + 5) →
    (∀ h' t' T, Gw [] g h g h' → T.nd = nd → FreshT d.tree h h' T → Q T.val (St c h' t')) → Wp w A (call (.ref d.built) [v]) Q (St c h t) := by
  intro n
  induction n with
  | zero =>
    intro nd A g h t v Q hd W hv hz l room k
    cases nd with
    | node l cs => simp [Nd.dep] at hd
    | leaf x =>
      rw [Nd.py_leaf] at hv
      obtain ⟨u, rfl⟩ := hv.of_str
      refine call_fn psBuilt [] (S := []) W X.built.2 l room okBuilt (fun _ _ _ _ _ _ _ => rfl) rfl fun env h₁ t₁ A' R esc ecl hk ht F => ?_
      dsimp only [psBuilt, mkLc, List.map] at F
      refine xIf (tVal (eCallB F W (esc ▸ glb_isi) X.isi (sCons (ld F (by walk_at "at") (sCons (ldB F W (esc ▸ glb_str) X.str (sNil ?_)))))))
      refine isiGo says_str.at0 fun t₂ => tBool ?_
      refine xRet (ld F (by walk_at "at") ?_)
      exact k _ _ (.leaf x u) F.gw (by simp [TT.nd]) ⟨by simp [TT.mu], by simp [TT.mu], by simp [TT.mu]⟩
  | succ n ih =>
    intro nd A g h t v Q hd W hv hz l room k
    refine call_fn psBuilt [] (S := []) W X.built.2 l room okBuilt (fun _ _ _ _ _ _ _ => rfl) rfl fun env h₁ t₁ A' R esc ecl hk ht F => ?_
    dsimp only [psBuilt, mkLc, List.map] at F
    refine xIf (tVal (eCallB F W (esc ▸ glb_isi) X.isi (sCons (ld F (by walk_at "at") (sCons (ldB F W (esc ▸ glb_str) X.str (sNil ?_)))))))
    cases nd with
    | leaf x =>
      rw [Nd.py_leaf] at hv
      obtain ⟨u, rfl⟩ := hv.of_str
      refine isiGo says_str.at0 fun t₂ => tBool ?_
      refine xRet (ld F (by walk_at "at") ?_)
      exact k _ _ (.leaf x u) F.gw (by simp [TT.nd]) ⟨by simp [TT.mu], by simp [TT.mu], by simp [TT.mu]⟩
    | node lb cs =>
      rw [Nd.py_node] at hv
      obtain ⟨a, vs, rfl, hl, hi⟩ := hv.of_list
      obtain ⟨v1, e1, i1⟩ := hi.get (i := 0) rfl
      obtain ⟨v2, e2, i2⟩ := hi.get (i := 1) rfl
      obtain ⟨u1, rfl⟩ := i1.of_str
      obtain ⟨b, cvs, rfl, hlb, hib⟩ := i2.of_list
      have lv : cvs.length = cs.length := by rw [hib.len, List.length_map]
      have zc := len_sizs cs
      have z0 : sizs cs + 1 = (Nd.node lb cs).siz := by simp [Nd.siz]
      refine isiGo (let ⟨o, x, y, _⟩ := F.gl' hl; (says_list_str x y).at0) fun t₂ => tBool (xNil ?_)
      refine xRet (eCallC F W (esc ▸ glb_tree) X.treeC Y.keepT (sCons (eSub (ld F (by walk_at "at") (eInt fun _ => ?_)))))
      refine tItem (F.gl' hl) (by decide) (by decide) e1 rfl ?_
      refine sCons (eComp (cl := []) (closure_of (by rw [ecl]; decide +kernel)) (by decide +kernel) (eSub (ld F (by walk_at "at") (eInt fun _ => ?_))))
      refine tItem (F.gl' hl) (by decide) (by decide) e2 rfl ?_
      refine iLst F (F.gl' hlb) fun I h₂ t₈ hI F => ?_
      refine cloop0 (σ := List TT) (P := litr b) (n := cvs.length) (V := fun i v => cvs[i]? = some v) (μI := fun ts => muL d.tree ts) [] (fun i outs ts g' => outs = ts.map TT.val ∧ ts.map TT.nd = cs.take i ∧ g' = g) R.handled (by decide +kernel) (zL (by omega)) (by simpa [muL] using F) hI (fun _ _ _ _ => selfL) (itrSq (.of_list hlb)) ⟨rfl, rfl, rfl⟩ ?_ ?_
      · intro i v outs ts g' h' t' D C Lo hi hv l' inv F
        obtain ⟨rfl, hts, eg⟩ := inv
        have eg := eg.symm
        subst eg
        refine eCallF F W (glC (by decide +kernel)) X.built (sCons (ld F (by walk_at "at") (sNil ⟨F.kin W, ?_⟩)))
        obtain ⟨d', e', id'⟩ := hib.at hv
        rw [List.getElem?_map] at e'
        obtain ⟨cd, ec, rfl⟩ := Option.map_eq_some_iff.mp e'
        have hm := List.mem_of_getElem? ec
        have hd' := dep_lt (l := lb) hm
        have hz' := siz_lt (l := lb) hm
        refine ih cd (by omega) W id' (by omega) F.gw.sub R fun h'' t'' T G hT fr => ?_
        have F' := F.call G
        have F'' := F.adoptAll F' (fun p hp => let ⟨⟨o, a, _⟩, _⟩ := F.mu p hp; ⟨o, a⟩) fr.nd fr.new (fun p hp => (F.none_new (fr.new p hp)).1) fr.has
        refine Elt.mk' (ts ++ [T]) (Le.refl _) (F''.perm ?_) ⟨by simp, by rw [List.map_append, hts, List.take_add_one, ec]; simp [hT], rfl⟩
        rw [muL_app]
        simp only [muL, List.append_nil]
        refine List.perm_append_comm.trans ?_
        simp only [List.cons_append]
        exact .refl _
      · intro outs ts g' h' t' D l' inv F hD
        obtain ⟨rfl, hts, eg⟩ := inv
        have eg := eg.symm
        subst eg
        rw [List.take_of_length_le (by omega)] at hts
        refine sNil ⟨F.kin W, ?_⟩
        have lts : ts.length = cs.length := by rw [← hts, List.length_map]
        refine cTree X Y F W (F.ml (.head _)) (by rw [List.length_map, sizeLine_eq]; omega) (R.mono (by omega)) fun x dx h₃ t₃ F => ?_
        have F := (F.perm rot3.symm).drop1
        have F : Fm env [] g h g ((TT.node x dx lb ts).mu d.tree) [(Str.ofString "node", some (Value.ref a))] h₃ := by simpa [TT.mu] using F
        exact k h₃ t₃ (.node x dx lb ts) F.gw (by simp [TT.nd, ndL_map, hts]) F.fresh
end
end TL

end
section
open PySem PySem.W PyProof.Rows PySem.Calls
set_option maxRecDepth 100000
set_option linter.unusedVariables false
set_option linter.unusedSimpArgs false
set_option pp.deepTerms false
set_option pp.deepTerms.threshold 4
set_option pp.maxSteps 2000
namespace TL
open TL
local macro_rules | `(tactic| walk_at "at") => `(tactic| repeat (first | exact At.head | apply At.tail))
local macro_rules | `(tactic| walk_at "put") => `(tactic| repeat (first | exact Put.head | apply Put.tail))
local macro_rules | `(tactic| walk_at "m") => `(tactic| repeat (first | exact List.Mem.head _ | apply List.Mem.tail))
local macro_rules | `(tactic| walk_at "mput") => `(tactic| repeat (first | exact MPut.head | apply MPut.tail))
/-- the thing at a place, as the heap has it -/
inductive VAt (g : Heap) : Value → List Nat → Value → Prop
  | here (v : Value) : VAt g v [] v
  | down {x : Addr} {ox : Obj} {vs : List Value} {n i : Nat} {vi v : Value} {p : List Nat} : g.get? x = some ox → ox.data = .seq vs.toArray n → vs[i]? = some vi → VAt g vi p v → VAt g (.ref x) (i :: p) v
theorem VAt.det {g : Heap} {v a b : Value} {p : List Nat} (x : VAt g v p a) : VAt g v p b → a = b := by
  induction x with
  | here v => intro y; cases y; rfl
  | down h1 h2 h3 _ ih =>
    intro y
    cases y with
    | down g1 g2 g3 r =>
      rw [h1] at g1; cases g1
      rw [h2] at g2
      have : _ = _ := congrArg (fun d => match d with | Data.seq xs _ => xs.toList | _ => []) g2
      simp at this
      subst this
      rw [h3] at g3; cases g3
      exact ih r
theorem Tr.vat {g : Heap} {C : Addr} : ∀ {p : List Nat} {v : Value} {nd nd' : Nd}, Tr g C v nd → nd.at p = some nd' → ∃ v', VAt g v p v' ∧ Tr g C v' nd'
  | [], v, nd, nd', h, e => by cases nd <;> (simp [Nd.at] at e; subst e; exact ⟨v, .here v, h⟩)
  | i :: p, v, nd, nd', h, e => by
    cases nd with
    | leaf s => simp [Nd.at] at e
    | node l cs =>
      obtain ⟨x, dx, ox, od, vs, rfl, N⟩ := h.of_node
      simp only [Nd.at] at e
      obtain ⟨c, hc, e⟩ := Option.bind_eq_some_iff.mp e
      obtain ⟨vi, ei, ti⟩ := N.c_.get hc
      obtain ⟨v', a, b⟩ := ti.vat e
      obtain ⟨n, ed⟩ := isData N.o_
      exact ⟨v', .down N.x_ ed ei a, b⟩
theorem VAt.mono {g h : Heap} (l : Le g h) {v v' : Value} {p : List Nat} (x : VAt g v p v') : VAt h v p v' := by
  induction x with
  | here v => exact .here v
  | down a b d _ ih => exact .down (l _ _ a) b d ih
section
variable {w : World} {A : Around} {env : Env} {S : List Addr} {g₀ h₀ g h : Heap} {μ : Mu} {lc : Lc} {c : Shared} {t : Tok} {Q : Value → Shared → Prop} {K : Frag} {mg mb : Str → Option Value} {d : Ad} {m : Md} {pos p : Pos}
theorem mTr {x dx C f : Addr} {ox od : Obj} {l nm : Str} {vs : List Value} {cs : List Nd} {st : Stmt} {pl : Sem Bool} {Q : Value × List Value → Shared → Prop} (X : K.In h) (T : TreeK K C) (N : TrN h C x dx ox od l vs cs) (M : Mth K C f nm st) (hn : ("_label" : Str) ≠ nm) (k : Q (.ref f, [.ref x]) (St c h t)) : Wp w A (getMethod (.ref x) nm pl) Q (St c h t) :=
  get_meth X T (N.inst (Le.refl _)) N.l_ hn M.find M.isf (N.dict (Le.refl _)) k
theorem iTreeF {x dx C : Addr} {ox od : Obj} {l : Str} {vs : List Value} {cs : List Nd} (X : K.In h) (T : TreeK K C) (F : Fm env S g₀ h₀ g μ lc h) (N : TrN h C x dx ox od l vs cs)
    (k : ∀ I h' t', h₀.get? I = none → Fm env S g₀ h₀ g ((I, litr x 0) :: μ) lc h' → Q (.ref I) (St c h' t')) : Wp w A (pyIter (.ref x)) Q (St c h t) := by
  obtain ⟨a, b⟩ := F.walker0 (P := litr x 0) (o' := { cls := .type "list_iterator", data := .fields #[.ref x, .int 0 0] }) rfl ⟨rfl, rfl⟩
  exact iTreeW X T (N.inst (Le.refl _)) (k _ _ _ a b)
theorem TrN.sq {x dx C : Addr} {ox od : Obj} {l : Str} {vs : List Value} {cs : List Nd} (N : TrN g C x dx ox od l vs cs) : Sq g x vs := let ⟨n, e⟩ := isData N.o_; ⟨ox, n, N.x_, e⟩
/-- a new tuple, wholly told -/
theorem nTupX {vs : List Value} (F : Fm env S g₀ h₀ g μ lc h) (hz : vs.length ≤ sizeLine) (k : ∀ l g' h', Fm env S g₀ h₀ g' μ lc h' → Le g g' → g'.get? l = some { cls := .type "tuple", data := .seq vs.toArray } → Q (.ref l) (St c h' t)) : Wp w A (newTuple vs) Q (St c h t) := by
  obtain ⟨g', x, y, z⟩ := F.made (o := { cls := .type "tuple", data := .seq vs.toArray }) rfl
  exact ⟨wpAny_newObj_type (s := St c h t) (k _ _ _ x y z) (by show vs.toArray.size ≤ sizeLine; rw [List.size_toArray]; exact hz)⟩

/-! label -/
theorem okLabel : okFn (meth 5 9) [Str.ofString "self"] [] = true := by decide +kernel
theorem label_spec (Y : TM K d m) (W : Wg K mg mb g) {x dx : Addr} {ox od : Obj} {l : Str} {vs : List Value} {cs : List Nd} (N : TrN g d.tree x dx ox od l vs cs) (le : Le g h) (room : Room A 1)
    (k : ∀ h' t' u, Gw [] g h g h' → Q (.str l u) (St c h' t')) : Wp w A (call (.ref m.label) [.ref x]) Q (St c h t) := by
  refine call_fn [Str.ofString "self"] [] (S := []) W Y.label.fn le room okLabel (fun _ _ _ _ _ _ _ => rfl) rfl fun env h₁ t₁ A' R esc ecl hk ht F => ?_
  dsimp only [mkLc, List.map] at F
  refine xRet (eAttr (ld F (by walk_at "at") ?_))
  exact get_lbl (F.kin W) Y.tree (N.inst F.gw.sub) N.l_ fun u t' => k _ _ _ F.gw

/-! __getitem__ -/
def psGi : List Str := ["self", "index"]
theorem okGi : okFn (meth 5 7) psGi [] = true := by decide +kernel
theorem glg_isi : Gl (scopeOf (meth 5 7)) (Str.ofString "isinstance") := by decide +kernel
theorem glg_int : Gl (scopeOf (meth 5 7)) (Str.ofString "int") := by decide +kernel
theorem glg_slice : Gl (scopeOf (meth 5 7)) (Str.ofString "slice") := by decide +kernel
theorem glg_list : Gl (scopeOf (meth 5 7)) (Str.ofString "list") := by decide +kernel
theorem glg_tuple : Gl (scopeOf (meth 5 7)) (Str.ofString "tuple") := by decide +kernel
theorem glg_len : Gl (scopeOf (meth 5 7)) (Str.ofString "len") := by decide +kernel
theorem gi_int (X : Wk K mg mb d) (Y : TM K d m) (W : Wg K mg mb g) {x dx : Addr} {ox od : Obj} {l : Str} {vs : List Value} {cs : List Nd} (N : TrN g d.tree x dx ox od l vs cs) {i : Int} {u : Tok} {v : Value} (h0 : 0 ≤ i) (h1 : i < 2 ^ 63) (hv : vs[i.toNat]? = some v) (le : Le g h) (room : Room A 1)
    (k : ∀ h' t', Gw [] g h g h' → Q v (St c h' t')) : Wp w A (call (.ref m.getitem) [.ref x, .int i u]) Q (St c h t) := by
  refine call_fn psGi [] (S := []) W Y.getitem.fn le room okGi (fun _ _ _ _ _ _ _ => rfl) rfl fun env h₁ t₁ A' R esc ecl hk ht F => ?_
  dsimp only [psGi, mkLc, List.map] at F
  refine xIf (tVal (eCallB F W (esc ▸ glg_isi) X.isi (sCons (ld F (by walk_at "at") (sCons (eTuple (sCons (ldB F W (esc ▸ glg_int) X.int (sCons (ldB F W (esc ▸ glg_slice) X.slice (sNil ?_)))))))))))
  refine nTupX F (zL (Nat.le_add_left 2 99998)) fun tp g₁ h₂ F le₁ htp => ?_
  refine sNil (isiGo (says_tup (fun _ => rfl) (F.gw.sub _ _ htp) says_int_sl) fun t₂ => tBool ?_)
  refine xRet (eMeth rfl rfl (by decide) (ldB F W (esc ▸ glg_list) X.list ?_))
  refine mT_list (F.kin W) (fc_gi K) rfl fun t₃ => ?_
  refine cwB (sCons (ld F (by walk_at "at") (sCons (ld F (by walk_at "at") (sNil ?_)))))
  exact lgiT (F.kin W) Y.tree (N.inst (le₁.trans F.gw.sub)) N.o_ h0 h1 hv (k _ _ F.gw.drop)
theorem gi_place (X : Wk K mg mb d) (Y : TM K d m) : ∀ (p : List Nat) (nd nd' : Nd) {A : Around} {g h : Heap} {t : Tok} {v vp : Value} {Q : Value → Shared → Prop}, Wg K mg mb g → Tr g d.tree v nd → (∃ l cs, nd = .node l cs) → nd.at p = some nd' → Is g vp (pyP p) → p.length ≤ 100 → nd.siz ≤ 10000 → Le g h → Room A (2 * p.length + 4) →
    (∀ h' t' v', Gw [] g h g h' → VAt g v p v' → Tr g d.tree v' nd' → Q v' (St c h' t')) → ∃ x, v = .ref x ∧ Wp w A (call (.ref m.getitem) [.ref x, vp]) Q (St c h t) := by
  intro p
  induction p with
  | nil =>
    intro nd nd' A g h t v vp Q W hT hn ha hp hl hz le room k
    obtain ⟨lb, cs, rfl⟩ := hn
    obtain ⟨x, dx, ox, od, vs, rfl, N⟩ := hT.of_node
    refine ⟨x, rfl, ?_⟩
    obtain ⟨lp, pvs, rfl, hlp, hip⟩ := hp.of_tuple
    have lpv : pvs.length = 0 := hip.len
    obtain ⟨op, p1, p2, _⟩ := id hlp
    refine call_fn psGi [] (S := []) W Y.getitem.fn le room okGi (fun _ _ _ _ _ _ _ => rfl) rfl fun env h₁ t₁ A' R esc ecl hk ht F => ?_
    dsimp only [psGi, mkLc, List.map] at F
    refine xIf (tVal (eCallB F W (esc ▸ glg_isi) X.isi (sCons (ld F (by walk_at "at") (sCons (eTuple (sCons (ldB F W (esc ▸ glg_int) X.int (sCons (ldB F W (esc ▸ glg_slice) X.slice (sNil ?_)))))))))))
    refine nTupX F (zL (Nat.le_add_left 2 99998)) fun tp g₁ h₂ F le₁ htp => ?_
    refine sNil (isiGo (says_tup (T := "tuple") (fun _ => ⟨op, F.gw.sub _ _ (le₁ _ _ p1), p2⟩) (F.gw.sub _ _ htp) (says_tup_sl (F.gw.sub _ _ (le₁ _ _ p1)) p2)) fun t₂ => tBool ?_)
    refine xIf (tVal (eCallB F W (esc ▸ glg_isi) X.isi (sCons (ld F (by walk_at "at") (sCons (eTuple (sCons (ldB F W (esc ▸ glg_list) X.list (sCons (ldB F W (esc ▸ glg_tuple) X.tuple (sNil ?_)))))))))))
    refine nTupX F (zL (Nat.le_add_left 2 99998)) fun tp2 g₂ h₃ F le₂ htp2 => ?_
    have le12 := le₁.trans le₂
    refine sNil (isiGo (says_tup (T := "tuple") (fun _ => ⟨op, F.gw.sub _ _ (le12 _ _ p1), p2⟩) (F.gw.sub _ _ htp2) (says_tup_lt (F.gw.sub _ _ (le12 _ _ p1)) p2)) fun t₃ => tBool ?_)
    refine xIf (tCmp (eCallB F W (esc ▸ glg_len) X.len (sCons (ld F (by walk_at "at") (sNil ?_)))))
    refine cLenU ((hlp.up le12).up F.gw.sub) (by omega) fun u₁ t₄ => eInt fun _ => oEqI (tBool ?_)
    rw [lpv]
    refine xRet (ld F (by walk_at "at") ?_)
    simp only [Nd.at, Option.some.injEq] at ha
    subst ha
    exact k _ _ _ F.gw.drop (.here _) hT
  | cons i p ih =>
    intro nd nd' A g h t v vp Q W hT hn ha hp hl hz le room k
    obtain ⟨lb, cs, rfl⟩ := hn
    obtain ⟨x, dx, ox, od, vs, rfl, N⟩ := hT.of_node
    refine ⟨x, rfl, ?_⟩
    obtain ⟨lp, pvs, rfl, hlp, hip⟩ := hp.of_tuple
    have hl' : p.length + 1 ≤ 100 := hl
    have lpv : pvs.length = p.length + 1 := by have := hip.len; simpa using this
    obtain ⟨op, p1, p2, _⟩ := id hlp
    simp only [Nd.at] at ha
    obtain ⟨ci, hci, ha⟩ := Option.bind_eq_some_iff.mp ha
    obtain ⟨vi, evi, tvi⟩ := N.c_.get hci
    obtain ⟨w0, ew0, iw0⟩ := hip.get (i := 0) (d := .int (i : Nat)) rfl
    obtain ⟨u0, rfl⟩ := iw0.of_int
    obtain ⟨nn, edat⟩ := isData N.o_
    have hil : i < cs.length := by
      rcases Nat.lt_or_ge i cs.length with z | z
      · exact z
      · rw [List.getElem?_eq_none z] at hci; cases hci
    have zc := len_sizs cs
    have z0 : sizs cs + 1 = (Nd.node lb cs).siz := by simp [Nd.siz]
    refine call_fn psGi [] (S := []) (n := 2 * p.length + 5) W Y.getitem.fn le (room.mono (by simp only [List.length_cons]; omega)) okGi (fun _ _ _ _ _ _ _ => rfl) rfl fun env h₁ t₁ A' R esc ecl hk ht F => ?_
    dsimp only [psGi, mkLc, List.map] at F
    refine xIf (tVal (eCallB F W (esc ▸ glg_isi) X.isi (sCons (ld F (by walk_at "at") (sCons (eTuple (sCons (ldB F W (esc ▸ glg_int) X.int (sCons (ldB F W (esc ▸ glg_slice) X.slice (sNil ?_)))))))))))
    refine nTupX F (zL (Nat.le_add_left 2 99998)) fun tp g₁ h₂ F le₁ htp => ?_
    refine sNil (isiGo (says_tup (T := "tuple") (fun _ => ⟨op, F.gw.sub _ _ (le₁ _ _ p1), p2⟩) (F.gw.sub _ _ htp) (says_tup_sl (F.gw.sub _ _ (le₁ _ _ p1)) p2)) fun t₂ => tBool ?_)
    refine xIf (tVal (eCallB F W (esc ▸ glg_isi) X.isi (sCons (ld F (by walk_at "at") (sCons (eTuple (sCons (ldB F W (esc ▸ glg_list) X.list (sCons (ldB F W (esc ▸ glg_tuple) X.tuple (sNil ?_)))))))))))
    refine nTupX F (zL (Nat.le_add_left 2 99998)) fun tp2 g₂ h₃ F le₂ htp2 => ?_
    have le12 := le₁.trans le₂
    refine sNil (isiGo (says_tup (T := "tuple") (fun _ => ⟨op, F.gw.sub _ _ (le12 _ _ p1), p2⟩) (F.gw.sub _ _ htp2) (says_tup_lt (F.gw.sub _ _ (le12 _ _ p1)) p2)) fun t₃ => tBool ?_)
    refine xIf (tCmp (eCallB F W (esc ▸ glg_len) X.len (sCons (ld F (by walk_at "at") (sNil ?_)))))
    refine cLenU ((hlp.up le12).up F.gw.sub) (by omega) fun u₁ t₄ => eInt fun _ => oEqI (tBool ?_)
    rw [show ((pvs.length : Int) == 0) = false by rw [beq_eq_false_iff_ne]; omega]
    refine xIf (tCmp (eCallB F W (esc ▸ glg_len) X.len (sCons (ld F (by walk_at "at") (sNil ?_)))))
    refine cLenU ((hlp.up le12).up F.gw.sub) (by omega) fun u₂ t₅ => eInt fun _ => oEqI (tBool ?_)
    cases p with
    | nil =>
      rw [show ((pvs.length : Int) == 1) = true by rw [beq_iff_eq]; simp at lpv; omega]
      simp only [Nd.at, Option.some.injEq] at ha
      subst ha
      refine xRet (eSub (ld F (by walk_at "at") (eSub (ld F (by walk_at "at") (eInt fun _ => ?_)))))
      refine tItemU ((hlp.up le12).up F.gw.sub) (by decide) (by decide) ew0 rfl ?_
      refine tItemT (F.kin W) (N.inst (le12.trans F.gw.sub)) Y.getitem.find (beq_iff_eq.mp Y.getitem.isf) Y.giFn rfl ?_
      refine gi_int X Y (W.mono F.gw.le) (N.mono le12) (by omega) (by omega) (by simpa using evi) F.gw.sub (R.in1.mono (by omega)) fun h₄ t₆ G => ?_
      exact k _ _ vi (F.call G).gw.drop (.down N.x_ edat evi (.here _)) tvi
    | cons j p =>
      rw [show ((pvs.length : Int) == 1) = false by rw [beq_eq_false_iff_ne]; simp at lpv; omega]
      refine xRet (eSub (eSub (ld F (by walk_at "at") (eSub (ld F (by walk_at "at") (eInt fun _ => ?_)))) ))
      refine tItemU ((hlp.up le12).up F.gw.sub) (by decide) (by decide) ew0 rfl ?_
      refine tItemT (F.kin W) (N.inst (le12.trans F.gw.sub)) Y.getitem.find (beq_iff_eq.mp Y.getitem.isf) Y.giFn rfl ?_
      refine gi_int X Y (W.mono F.gw.le) (N.mono le12) (by omega) (by omega) (by simpa using evi) F.gw.sub (R.in1.mono (by omega)) fun h₄ t₆ G => ?_
      have F := F.call G
      refine eSub (ld F (by walk_at "at") (eSl (pSome (eInt fun _ => pNone ?_))))
      obtain ⟨g₃, F, le₃, hsl, _⟩ := F.sliceH (.int 1 _) .none
      refine sliceT (vs := pvs) F (hlp.up (le12.trans le₃)) hsl (.int 1 _) .none (zL (by omega)) fun l2 g₄ h₆ F le₄ hl2 => ?_
      rw [show cut (some 1) none pvs = pvs.drop 1 from cut_from pvs 1] at hl2
      have up := (le12.trans le₃).trans le₄
      have isp : Is g₄ (.ref l2) (pyP (j :: p)) := .tuple hl2 (by have := (hip.mono up).drop 1; simpa using this)
      have hn' : ∃ l cs, ci = .node l cs := by
        cases ci with
        | leaf s => simp [Nd.at] at ha
        | node l cs => exact ⟨l, cs, rfl⟩
      have hm := List.mem_of_getElem? hci
      have hz' := siz_lt (l := lb) hm
      obtain ⟨lbc, csc, rfl⟩ := hn'
      obtain ⟨xc, dxc, oxc, odc, vsc, rfl, Nc⟩ := tvi.of_node
      obtain ⟨v0, va0, tv0⟩ := tvi.vat ha
      have kk := fun tt => ih (.node lbc csc) nd' (A := A'.in1) (t := tt) (h := h₆) (Q := Q) (W.mono F.gw.le) (tvi.mono up) ⟨_, _, rfl⟩ ha isp (by omega) (by omega) F.gw.sub (R.in1.mono (by simp only [List.length_cons]; omega)) fun h₇ t₇ v' G va tv => by
        have e := va.det (va0.mono up)
        subst e
        exact k _ _ _ (F.call G).gw.drop (.down N.x_ edat evi va0) tv0
      refine tItemT (F.kin W) (Nc.inst (up.trans F.gw.sub)) Y.getitem.find (beq_iff_eq.mp Y.getitem.isf) Y.giFn rfl ?_
      obtain ⟨x', e', kk⟩ := kk _
      cases e'
      exact kk
end
end TL

end
section
open PySem PySem.W PyProof.Rows PySem.Calls
set_option maxRecDepth 100000
set_option linter.unusedVariables false
set_option linter.unusedSimpArgs false
set_option pp.deepTerms false
set_option pp.deepTerms.threshold 4
set_option pp.maxSteps 2000
namespace TL
open TL
local macro_rules | `(tactic| walk_at "at") => `(tactic| repeat (first | exact At.head | apply At.tail))
local macro_rules | `(tactic| walk_at "put") => `(tactic| repeat (first | exact Put.head | apply Put.tail))
local macro_rules | `(tactic| walk_at "m") => `(tactic| repeat (first | exact List.Mem.head _ | apply List.Mem.tail))
local macro_rules | `(tactic| walk_at "mput") => `(tactic| repeat (first | exact MPut.head | apply MPut.tail))
mutual
def lvs : Nd → List Str
  | .leaf s => [s]
  | .node _ cs => lvsL cs
def lvsL : List Nd → List Str
  | [] => []
  | c :: cs => lvs c ++ lvsL cs
end
theorem lvsL_app : ∀ a b : List Nd, lvsL (a ++ b) = lvsL a ++ lvsL b
  | [], b => by simp [lvsL]
  | c :: a, b => by simp [lvsL, lvsL_app a b]
mutual
theorem lvs_len : ∀ n : Nd, (lvs n).length ≤ n.siz
  | .leaf s => by simp [lvs, Nd.siz]
  | .node l cs => by have := lvsL_len cs; simp only [lvs, Nd.siz]; omega
theorem lvsL_len : ∀ cs : List Nd, (lvsL cs).length ≤ sizs cs
  | [] => by simp [lvsL, sizs]
  | c :: cs => by have := lvs_len c; have := lvsL_len cs; simp only [lvsL, sizs, List.length_append]; omega
end
mutual
def hgt : Nd → Nat
  | .leaf _ => 1
  | .node _ cs => hgts cs + 1
def hgts : List Nd → Nat
  | [] => 0
  | c :: cs => max (hgt c) (hgts cs)
end
theorem hgts_app : ∀ a b : List Nd, hgts (a ++ b) = max (hgts a) (hgts b)
  | [], b => by simp [hgts]
  | c :: a, b => by simp only [List.cons_append, hgts, hgts_app a b]; omega
/-! words with their labels -/
mutual
def tagsN : Nd → List (Str × Str)
  | .leaf _ => []
  | .node l cs => tagsL l cs
def tagsL : Str → List Nd → List (Str × Str)
  | _, [] => []
  | l, .leaf s :: cs => (s, l) :: tagsL l cs
  | l, .node l' ds :: cs => tagsL l' ds ++ tagsL l cs
end
theorem tagsL_app : ∀ (l : Str) (a b : List Nd), tagsL l (a ++ b) = tagsL l a ++ tagsL l b
  | l, [], b => by simp [tagsL]
  | l, .leaf s :: a, b => by simp [tagsL, tagsL_app l a b]
  | l, .node l' ds :: a, b => by simp [tagsL, tagsL_app l a b]
mutual
theorem tagsN_len : ∀ n : Nd, (tagsN n).length ≤ n.siz
  | .leaf s => by simp [tagsN, Nd.siz]
  | .node l cs => by have := tagsL_len l cs; simp only [tagsN, Nd.siz]; omega
theorem tagsL_len : ∀ (l : Str) (cs : List Nd), (tagsL l cs).length ≤ sizs cs
  | l, [] => by simp [tagsL, sizs]
  | l, .leaf s :: cs => by have := tagsL_len l cs; simp only [tagsL, sizs, List.length_cons, Nd.siz]; omega
  | l, .node l' ds :: cs => by have := tagsL_len l' ds; have := tagsL_len l cs; simp only [tagsL, sizs, List.length_append, Nd.siz]; omega
end
def pyT (r : Str × Str) : PyData := .tuple [.str r.1, .str r.2]
theorem hgt_siz_le : ∀ n : Nat, ∀ nd : Nd, nd.siz ≤ n → hgt nd ≤ n := by
  intro n
  induction n with
  | zero => intro nd h; have := siz_pos nd; omega
  | succ n ih =>
    intro nd h
    cases nd with
    | leaf s => simp only [hgt]; omega
    | node l cs =>
      simp only [hgt, Nd.siz] at *
      have : ∀ ds : List Nd, sizs ds ≤ n → hgts ds ≤ n := by
        intro ds
        induction ds with
        | nil => intro _; exact Nat.zero_le _
        | cons d ds ihd =>
          intro hz
          simp only [sizs] at hz
          simp only [hgts]
          have := ih d (by omega); have := ihd (by omega); omega
      have := this cs (by omega); omega
section
variable {w : World} {A : Around} {env : Env} {S : List Addr} {g₀ h₀ g h : Heap} {μ : Mu} {lc : Lc} {c : Shared} {t : Tok} {Q : Value → Shared → Prop} {K : Frag} {mg mb : Str → Option Value} {d : Ad} {m : Md} {pos p : Pos}
/-! leaves -/
def psSelf : List Str := ["self"]
def osLeaves : List Str := ["leaves", "child"]
theorem okLeaves : okFn (meth 5 11) psSelf osLeaves = true := by decide +kernel
theorem glv_isi : Gl (scopeOf (meth 5 11)) (Str.ofString "isinstance") := by decide +kernel
theorem glv_tree : Gl (scopeOf (meth 5 11)) (Str.ofString "Tree") := by decide +kernel
theorem leaves_spec (X : Wk K mg mb d) (Y : TM K d m) : ∀ (n : Nat) {A : Around} {g h : Heap} {t : Tok} {x dx : Addr} {ox od : Obj} {l : Str} {vs : List Value} {cs : List Nd} {Q : Value → Shared → Prop}, (Nd.node l cs).dep ≤ n → Wg K mg mb g → TrN g d.tree x dx ox od l vs cs → sizs cs ≤ 10000 → Le g h → Room A (n + 1) →
    (∀ g' h' t' r, Gw [] g h g' h' → Is g' r (.list ((lvsL cs).map .str)) → Q r (St c h' t')) → Wp w A (call (.ref m.leaves) [.ref x]) Q (St c h t) := by
  intro n
  induction n with
  | zero => intro A g h t x dx ox od l vs cs Q hd; simp [Nd.dep] at hd
  | succ n ih =>
    intro A g h t x dx ox od l vs cs Q hd W N hz le room k
    refine call_fn psSelf osLeaves (S := []) W Y.leaves.fn le room okLeaves (fun _ _ _ _ _ _ _ => rfl) rfl fun env h₁ t₁ A' R esc ecl hk ht F => ?_
    dsimp only [psSelf, osLeaves, mkLc, List.map] at F
    have lv := N.c_.len
    have zc := len_sizs cs
    refine xAsg (eList (sNil (nLstM F (Nat.zero_le _) fun rl h₂ hrl F => ?_)))
    refine stL F (by walk_at "put") fun h₃ t₃ F => ?_
    refine xFor (ld F (by walk_at "at") ?_)
    refine iTreeF (F.kin W) Y.tree F (N.mono F.gw.sub) fun I h₄ t₄ hI F => ?_
    refine floop (σ := List Value) (P := litr x) (n := vs.length) (V := fun i v => vs[i]? = some v) (μI := fun a => [(rl, lst a)]) (lcI := fun a o => [(Str.ofString "self", some (.ref x)), (Str.ofString "leaves", some (.ref rl)), (Str.ofString "child", o)])
      [] none (fun i a _ => StrAll a (lvsL (cs.take i))) R.handled F hI (itrSq N.sq) .nil (fun a o v => by walk_at "put") ?_ ?_
    · intro i vi a g' h' t' hi hv l' inv F
      obtain ⟨ci, hci, ti⟩ := N.c_.at hv
      have hm := List.mem_of_getElem? hci
      have hd' := dep_lt (l := l) hm
      have hz' := siz_le hm
      have etake : lvsL (cs.take (i + 1)) = lvsL (cs.take i) ++ lvs ci := by
        rw [List.take_add_one, hci, lvsL_app]; simp [lvsL]
      have hlen : (lvsL (cs.take i)).length ≤ 10000 := by
        have h1 := lvsL_len (cs.take i)
        have h2 := sizs_app (cs.take i) (cs.drop i)
        rw [List.take_append_drop] at h2; omega
      have ilen : a.length = (lvsL (cs.take i)).length := by have := (inv.is (g := g)).len; simpa using this
      refine xIf (tVal (eCallB F W (esc ▸ glv_isi) X.isi (sCons (ld F (by walk_at "at") (sCons (ldG F W (esc ▸ glv_tree) X.treeC (sNil ?_)))))))
      cases ci with
      | leaf s =>
        obtain ⟨u, rfl⟩ := ti.of_leaf
        refine isiGo (says_str_cls (F.kin W) Y.notS).at0 fun t₅ => tBool ?_
        refine xExpr F.kf (eMeth rfl rfl (by decide) (ld F (by walk_at "at") (mLst F (l := rl) (vs := a) (by walk_at "m") slAppend tyAppend (cwB (sCons (ld F (by walk_at "at") (sNil ?_)))))))
        refine cAppend F (l := rl) (vs := a) (v := .str s u) (by walk_at "m") (by walk_at "mput") (zL (by omega)) fun h₅ F => xNil (xNil ?_)
        refine Turn.next (g' := g') (a ++ [.str s u]) (some (.str s u)) ?_ ?_ ?_
        · exact Le.refl _
        · exact F
        · rw [etake]
          simp only [lvs]
          exact inv.app (.cons .nil)
      | node lc' ds =>
        obtain ⟨xc, dxc, oxc, odc, vsc, rfl, Nc⟩ := ti.of_node
        refine isiGo (says_self (F.kin W) (Nc.inst (l'.trans F.gw.sub))).at0 fun t₅ => tBool ?_
        refine xExpr F.kf (eMeth rfl rfl (by decide) (ld F (by walk_at "at") (mLst F (l := rl) (vs := a) (by walk_at "m") PySem.F.slot_list_extend PySem.F.type_list_extend (cwB (sCons (eMeth rfl rfl (by decide) (ld F (by walk_at "at") ?_)))))))
        refine mTr (F.kin W) Y.tree (Nc.mono (l'.trans F.gw.sub)) Y.leaves (by decide +kernel) (cwF0 (F.kin W) (Fn.keep Y.leaves.fn) ?_)
        simp only [Nd.siz] at hz'
        refine ih (by omega) (W.mono F.gw.le) (Nc.mono l') (by omega) F.gw.sub R fun g₅ h₅ t₆ r G isr => ?_
        have F := F.call G
        obtain ⟨lr, rvs, rfl, hlr, hir⟩ := isr.of_list
        have rs := StrAll.of_is hir
        have rlen := hir.len
        have l2 := lvsL_len ds
        rw [List.length_map] at rlen
        refine sNil (cExtend F (l := rl) (vs := a) (us := rvs) (by walk_at "m") (by walk_at "mput") (F.gl' hlr) (zL (by omega)) fun h₆ F => xNil (xNil ?_))
        refine Turn.next (g' := g₅) (a ++ rvs) (some (.ref xc)) ?_ ?_ ?_
        · exact G.le
        · exact F
        · rw [etake]
          simp only [lvs]
          exact inv.app rs
    · intro a o g' h' t' l' inv F
      refine xRet (ld F (by walk_at "at") ?_)
      obtain ⟨g₃, oD, F, le₃, eD, nD, hoD⟩ := F.frz hrl
      rw [List.take_of_length_le (by omega)] at inv
      exact k _ _ _ _ F.gw (.list (vs := a) ⟨oD, eD, by rw [hoD], nD, by rw [hoD]⟩ inv.is)
/-! height -/
def osHeight : List Str := ["max_child_height", "child"]
theorem okHeight : okFn (meth 5 13) psSelf osHeight = true := by decide +kernel
theorem glh_isi : Gl (scopeOf (meth 5 13)) (Str.ofString "isinstance") := by decide +kernel
theorem glh_tree : Gl (scopeOf (meth 5 13)) (Str.ofString "Tree") := by decide +kernel
theorem glh_max : Gl (scopeOf (meth 5 13)) (Str.ofString "max") := by decide +kernel
theorem height_spec (X : Wk K mg mb d) (Y : TM K d m) : ∀ (n : Nat) {A : Around} {g h : Heap} {t : Tok} {x dx : Addr} {ox od : Obj} {l : Str} {vs : List Value} {cs : List Nd} {Q : Value → Shared → Prop}, (Nd.node l cs).dep ≤ n → Wg K mg mb g → TrN g d.tree x dx ox od l vs cs → sizs cs ≤ 10000 → Le g h → Room A (n + 1) →
    (∀ h' t' u, Gw [] g h g h' → Q (.int (hgt (.node l cs)) u) (St c h' t')) → Wp w A (call (.ref m.height) [.ref x]) Q (St c h t) := by
  intro n
  induction n with
  | zero => intro A g h t x dx ox od l vs cs Q hd; simp [Nd.dep] at hd
  | succ n ih =>
    intro A g h t x dx ox od l vs cs Q hd W N hz le room k
    refine call_fn psSelf osHeight (S := []) W Y.height.fn le room okHeight (fun _ _ _ _ _ _ _ => rfl) rfl fun env h₁ t₁ A' R esc ecl hk ht F => ?_
    dsimp only [psSelf, osHeight, mkLc, List.map] at F
    have lv := N.c_.len
    have zc := len_sizs cs
    refine xAsg (eInt fun t₂ => ?_)
    refine stL F (by walk_at "put") fun h₃ t₃ F => ?_
    refine xFor (ld F (by walk_at "at") ?_)
    refine iTreeF (F.kin W) Y.tree F (N.mono F.gw.sub) fun I h₄ t₄ hI F => ?_
    refine floop (σ := Value) (P := litr x) (n := vs.length) (V := fun i v => vs[i]? = some v) (μI := fun _ => []) (lcI := fun a o => [(Str.ofString "self", some (.ref x)), (Str.ofString "max_child_height", some a), (Str.ofString "child", o)])
      (.int 0 _) none (fun i a _ => ∃ u, a = .int (hgts (cs.take i) : Nat) u) R.handled F hI (itrSq N.sq) ⟨_, rfl⟩ (fun a o v => by walk_at "put") ?_ ?_
    · intro i vi a g' h' t' hi hv l' inv F
      obtain ⟨ua, rfl⟩ := inv
      obtain ⟨ci, hci, ti⟩ := N.c_.at hv
      have hm := List.mem_of_getElem? hci
      have hd' := dep_lt (l := l) hm
      have hz' := siz_le hm
      have etake : hgts (cs.take (i + 1)) = max (hgts (cs.take i)) (hgt ci) := by
        rw [List.take_add_one, hci, hgts_app]; simp [hgts]
      refine xIf (tVal (eCallB F W (esc ▸ glh_isi) X.isi (sCons (ld F (by walk_at "at") (sCons (ldG F W (esc ▸ glh_tree) X.treeC (sNil ?_)))))))
      cases ci with
      | leaf s =>
        obtain ⟨u, rfl⟩ := ti.of_leaf
        refine isiGo (says_str_cls (F.kin W) Y.notS).at0 fun t₅ => tBool ?_
        refine xAsg (eCallB F W (esc ▸ glh_max) X.max (sCons (ld F (by walk_at "at") (sCons (eInt fun _ => sNil ?_)))))
        refine cMax R.handled F fun u₁ h₅ t₆ F => ?_
        refine stL F (by walk_at "put") fun h₆ t₇ F => xNil (xNil ?_)
        refine Turn.next (g' := g') (.int (max (hgts (cs.take i) : Nat) 1) u₁) (some (.str s u)) ?_ ?_ ?_
        · exact Le.refl _
        · exact F
        · refine ⟨u₁, ?_⟩
          rw [etake]
          congr 1
          simp only [hgt]; omega
      | node lc' ds =>
        obtain ⟨xc, dxc, oxc, odc, vsc, rfl, Nc⟩ := ti.of_node
        refine isiGo (says_self (F.kin W) (Nc.inst (l'.trans F.gw.sub))).at0 fun t₅ => tBool ?_
        refine xAsg (eCallB F W (esc ▸ glh_max) X.max (sCons (ld F (by walk_at "at") (sCons (eMeth rfl rfl (by decide) (ld F (by walk_at "at") ?_))))))
        refine mTr (F.kin W) Y.tree (Nc.mono (l'.trans F.gw.sub)) Y.height (by decide +kernel) (cwF0 (F.kin W) (Fn.keep Y.height.fn) ?_)
        simp only [Nd.siz] at hz'
        refine ih (by omega) (W.mono F.gw.le) (Nc.mono l') (by omega) F.gw.sub R fun h₅ t₆ u₁ G => ?_
        have F := F.call G
        refine sNil (cMax R.handled F fun u₂ h₆ t₇ F => ?_)
        refine stL F (by walk_at "put") fun h₇ t₈ F => xNil (xNil ?_)
        refine Turn.next (g' := g') (.int (max (hgts (cs.take i) : Nat) (hgt (.node lc' ds) : Nat)) u₂) (some (.ref xc)) ?_ ?_ ?_
        · exact Le.refl _
        · exact F
        · refine ⟨u₂, ?_⟩
          rw [etake]
          congr 1
          omega
    · intro a o g' h' t' l' inv F
      obtain ⟨ua, rfl⟩ := inv
      refine (xRet (eBin (eInt fun _ => ld F (by walk_at "at") (oAdd fun u₁ t₅ => ?_))))
      have := k _ t₅ u₁ F.gw.drop
      rw [List.take_of_length_le (by omega)]
      rw [show (1 : Int) + ((hgts cs : Nat) : Int) = ((hgt (.node l cs) : Nat) : Int) by simp only [hgt]; omega]
      exact this
/-! pos -/
def osPos : List Str := ["pos", "child"]
theorem okPos : okFn (meth 5 17) psSelf osPos = true := by decide +kernel
theorem glo_isi : Gl (scopeOf (meth 5 17)) (Str.ofString "isinstance") := by decide +kernel
theorem glo_tree : Gl (scopeOf (meth 5 17)) (Str.ofString "Tree") := by decide +kernel
theorem pos_spec (X : Wk K mg mb d) (Y : TM K d m) : ∀ (n : Nat) {A : Around} {g h : Heap} {t : Tok} {x dx : Addr} {ox od : Obj} {l : Str} {vs : List Value} {cs : List Nd} {Q : Value → Shared → Prop}, (Nd.node l cs).dep ≤ n → Wg K mg mb g → TrN g d.tree x dx ox od l vs cs → sizs cs ≤ 10000 → Le g h → Room A (n + 1) →
    (∀ g' h' t' r, Gw [] g h g' h' → Is g' r (.list ((tagsL l cs).map pyT)) → Q r (St c h' t')) → Wp w A (call (.ref m.pos) [.ref x]) Q (St c h t) := by
  intro n
  induction n with
  | zero => intro A g h t x dx ox od l vs cs Q hd; simp [Nd.dep] at hd
  | succ n ih =>
    intro A g h t x dx ox od l vs cs Q hd W N hz le room k
    refine call_fn psSelf osPos (S := []) W Y.pos.fn le room okPos (fun _ _ _ _ _ _ _ => rfl) rfl fun env h₁ t₁ A' R esc ecl hk ht F => ?_
    dsimp only [psSelf, osPos, mkLc, List.map] at F
    have lv := N.c_.len
    have zc := len_sizs cs
    refine xAsg (eList (sNil (nLstM F (Nat.zero_le _) fun rl h₂ hrl F => ?_)))
    refine stL F (by walk_at "put") fun h₃ t₃ F => ?_
    refine xFor (ld F (by walk_at "at") ?_)
    refine iTreeF (F.kin W) Y.tree F (N.mono F.gw.sub) fun I h₄ t₄ hI F => ?_
    refine floop (σ := List Value) (P := litr x) (n := vs.length) (V := fun i v => vs[i]? = some v) (μI := fun a => [(rl, lst a)]) (lcI := fun a o => [(Str.ofString "self", some (.ref x)), (Str.ofString "pos", some (.ref rl)), (Str.ofString "child", o)])
      [] none (fun i a g => IsAll g a ((tagsL l (cs.take i)).map pyT)) R.handled F hI (itrSq N.sq) (by simp only [List.take_zero, tagsL]; exact .nil) (fun a o v => by walk_at "put") ?_ ?_
    · intro i vi a g' h' t' hi hv l' inv F
      obtain ⟨ci, hci, ti⟩ := N.c_.at hv
      have hm := List.mem_of_getElem? hci
      have hd' := dep_lt (l := l) hm
      have hz' := siz_le hm
      have etake : tagsL l (cs.take (i + 1)) = tagsL l (cs.take i) ++ tagsL l [ci] := by
        rw [List.take_add_one, hci, tagsL_app]; rfl
      have hlen : (tagsL l (cs.take i)).length ≤ 10000 := by
        have h1 := tagsL_len l (cs.take i)
        have h2 := sizs_app (cs.take i) (cs.drop i)
        rw [List.take_append_drop] at h2; omega
      have ilen : a.length = (tagsL l (cs.take i)).length := by have := inv.len; simpa using this
      refine xIf (tVal (eCallB F W (esc ▸ glo_isi) X.isi (sCons (ld F (by walk_at "at") (sCons (ldG F W (esc ▸ glo_tree) X.treeC (sNil ?_)))))))
      cases ci with
      | leaf s =>
        obtain ⟨u, rfl⟩ := ti.of_leaf
        refine isiGo (says_str_cls (F.kin W) Y.notS).at0 fun t₅ => tBool ?_
        refine xExpr F.kf (eMeth rfl rfl (by decide) (ld F (by walk_at "at") (mLst F (l := rl) (vs := a) (by walk_at "m") slAppend tyAppend (cwB (sCons (eTuple (sCons (ld F (by walk_at "at") (sCons (eAttr (ld F (by walk_at "at") ?_)))))))))))
        refine get_lbl (F.kin W) Y.tree (N.inst (l'.trans F.gw.sub)) N.l_ fun u₂ t₆ => sNil ?_
        refine nTup F (zL (Nat.le_add_left 2 99998)) fun lt g₂ h₅ F le₂ hlt => sNil ?_
        refine cAppend F (l := rl) (vs := a) (v := .ref lt) (by walk_at "m") (by walk_at "mput") (zL (by omega)) fun h₅ F => xNil (xNil ?_)
        refine Turn.next (g' := g₂) (a ++ [.ref lt]) (some (.str s u)) ?_ ?_ ?_
        · exact le₂
        · exact F
        · rw [etake, List.map_append]
          simp only [tagsL, List.map_cons, List.map_nil, pyT]
          exact (inv.mono le₂).app (.one (.tuple hlt (.cons (.str s u) (.one (.str l u₂)))))
      | node lc' ds =>
        obtain ⟨xc, dxc, oxc, odc, vsc, rfl, Nc⟩ := ti.of_node
        refine isiGo (says_self (F.kin W) (Nc.inst (l'.trans F.gw.sub))).at0 fun t₅ => tBool ?_
        refine xExpr F.kf (eMeth rfl rfl (by decide) (ld F (by walk_at "at") (mLst F (l := rl) (vs := a) (by walk_at "m") PySem.F.slot_list_extend PySem.F.type_list_extend (cwB (sCons (eMeth rfl rfl (by decide) (ld F (by walk_at "at") ?_)))))))
        refine mTr (F.kin W) Y.tree (Nc.mono (l'.trans F.gw.sub)) Y.pos (by decide +kernel) (cwF0 (F.kin W) (Fn.keep Y.pos.fn) ?_)
        simp only [Nd.siz] at hz'
        refine ih (by omega) (W.mono F.gw.le) (Nc.mono l') (by omega) F.gw.sub R fun g₅ h₅ t₆ r G isr => ?_
        have F := F.call G
        obtain ⟨lr, rvs, rfl, hlr, hir⟩ := isr.of_list
        have rlen := hir.len
        have l2 := tagsL_len lc' ds
        rw [List.length_map] at rlen
        refine sNil (cExtend F (l := rl) (vs := a) (us := rvs) (by walk_at "m") (by walk_at "mput") (F.gl' hlr) (zL (by omega)) fun h₆ F => xNil (xNil ?_))
        refine Turn.next (g' := g₅) (a ++ rvs) (some (.ref xc)) ?_ ?_ ?_
        · exact G.le
        · exact F
        · rw [etake, List.map_append]
          simp only [tagsL, List.append_nil]
          exact (inv.mono G.le).app hir
    · intro a o g' h' t' l' inv F
      refine xRet (ld F (by walk_at "at") ?_)
      obtain ⟨g₃, oD, F, le₃, eD, nD, hoD⟩ := F.frz hrl
      rw [List.take_of_length_le (by omega)] at inv
      exact k _ _ _ _ F.gw (.list (vs := a) ⟨oD, eD, by rw [hoD], nD, by rw [hoD]⟩ (inv.mono le₃))
end
end TL

end
section
open PySem PySem.W PyProof.Rows PySem.Calls
set_option maxRecDepth 100000
set_option linter.unusedVariables false
set_option linter.unusedSimpArgs false
set_option pp.deepTerms false
set_option pp.deepTerms.threshold 4
set_option pp.maxSteps 2000
namespace TL
open TL
local macro_rules | `(tactic| walk_at "at") => `(tactic| repeat (first | exact At.head | apply At.tail))
local macro_rules | `(tactic| walk_at "put") => `(tactic| repeat (first | exact Put.head | apply Put.tail))
local macro_rules | `(tactic| walk_at "m") => `(tactic| repeat (first | exact List.Mem.head _ | apply List.Mem.tail))
local macro_rules | `(tactic| walk_at "mput") => `(tactic| repeat (first | exact MPut.head | apply MPut.tail))
section
variable {w : World} {A : Around} {env : Env} {S : List Addr} {g₀ h₀ g h : Heap} {μ : Mu} {lc : Lc} {c : Shared} {t : Tok} {Q : Value → Shared → Prop} {K : Frag} {mg mb : Str → Option Value} {d : Ad} {m : Md} {pos p : Pos}
theorem glw_isi : Gl (scopeOf (stI 15)) (Str.ofString "isinstance") := by decide +kernel
theorem glw_str : Gl (scopeOf (stI 15)) (Str.ofString "str") := by decide +kernel
theorem glw_range : Gl (scopeOf (stI 15)) (Str.ofString "range") := by decide +kernel
theorem glw_len : Gl (scopeOf (stI 15)) (Str.ofString "len") := by decide +kernel
abbrev csWr (L : Nat) : List (Str × Addr) := [(Str.ofString "part", L + 1)]
theorem csWr_eq (L : Nat) : cellsFrom (L + 1) (scopeOf (stI 15)).names [] = csWr L := by kernel_rfl
theorem kw1 : (scopeOf (stI 15)).names.lookup (Str.ofString "part") = some .cell := by decide +kernel
theorem written_spec (X : Wk K mg mb d) (Y : TM K d m) : ∀ (n : Nat) (nd : Nd) {A : Around} {g h : Heap} {t : Tok} {v : Value} {Q : Value → Shared → Prop}, nd.dep ≤ n → Wg K mg mb g → Tr g d.tree v nd → nd.ok = true → nd.siz ≤ 10000 → Le g h → Room A (n + 5) →
    (∀ h' t' u, Gw [] g h g h' → Q (.str nd.text u) (St c h' t')) → Wp w A (call (.ref d.written) [v]) Q (St c h t) := by
  intro n
  induction n with
  | zero =>
    intro nd A g h t v Q hd W hT ok hz l room k
    cases nd with
    | node l cs => simp [Nd.dep] at hd
    | leaf x =>
      obtain ⟨u, rfl⟩ := hT.of_leaf
      refine call_fnC (S := []) [(Str.ofString "part", .str x u)] [] csWr (fun L => [(L + 1, celO (some (.str x u)))]) W X.written.2 l room (by decide +kernel) (fun _ _ _ _ _ _ _ => rfl) csWr_eq
        (fun L y hy => by
          simp only [List.mem_cons, List.not_mem_nil, or_false] at hy
          subst hy; exact .inr ⟨kw1, rfl⟩) (fun p hp => nomatch hp) (fun L => by kernel_rfl) (fun L => (by decide +kernel : ([Str.ofString "part"] : List Str).Nodup)) fun env h₁ t₁ A' L R esc ecl hk F => ?_
      have kP := kd_of esc kw1
      refine xIf (tVal (eCallB F W (esc ▸ glw_isi) X.isi (sCons (ldc F (C := L + 1) (by walk_at "m") kP (by rw [ecl]; rfl) (sCons (ldB F W (esc ▸ glw_str) X.str (sNil ?_)))))))
      refine isiGo says_str.at0 fun t₂ => tBool ?_
      refine xRet (ldc F (C := L + 1) (by walk_at "m") kP (by rw [ecl]; rfl) ?_)
      simp only [Nd.text] at k
      exact k _ _ _ F.gw
  | succ n ih =>
    intro nd A g h t v Q hd W hT ok hz l room k
    refine call_fnC (S := []) [(Str.ofString "part", v)] [] csWr (fun L => [(L + 1, celO (some v))]) W X.written.2 l room (by decide +kernel) (fun _ _ _ _ _ _ _ => rfl) csWr_eq
      (fun L y hy => by
        simp only [List.mem_cons, List.not_mem_nil, or_false] at hy
        subst hy; exact .inr ⟨kw1, rfl⟩) (fun p hp => nomatch hp) (fun L => by kernel_rfl) (fun L => (by decide +kernel : ([Str.ofString "part"] : List Str).Nodup)) fun env h₁ t₁ A' L R esc ecl hk F => ?_
    have kP := kd_of esc kw1
    refine xIf (tVal (eCallB F W (esc ▸ glw_isi) X.isi (sCons (ldc F (C := L + 1) (by walk_at "m") kP (by rw [ecl]; rfl) (sCons (ldB F W (esc ▸ glw_str) X.str (sNil ?_)))))))
    cases nd with
    | leaf x =>
      obtain ⟨u, rfl⟩ := hT.of_leaf
      refine isiGo says_str.at0 fun t₂ => tBool ?_
      refine xRet (ldc F (C := L + 1) (by walk_at "m") kP (by rw [ecl]; rfl) ?_)
      simp only [Nd.text] at k
      exact k _ _ _ F.gw
    | node lb cs =>
      obtain ⟨x, dx, ox, od, vs, rfl, N⟩ := hT.of_node
      have lv := N.c_.len
      have zc := len_sizs cs
      have z0 : sizs cs + 1 = (Nd.node lb cs).siz := by simp [Nd.siz]
      have zt := text_len (.node lb cs) ok
      have okl : okS lb = true := by simp only [Nd.ok, Bool.and_eq_true] at ok; exact ok.1
      have okc : oks cs = true := by simp only [Nd.ok, Bool.and_eq_true] at ok; exact ok.2
      have zl : lb.length ≤ 4 := by simp only [okS, Bool.and_eq_true, decide_eq_true_eq] at okl; exact okl.1.2
      have zs := texts_len cs okc
      have one : (Str.ofString "(").length = 1 := by decide +kernel
      have one' : (Str.ofString ")").length = 1 := by decide +kernel
      have one'' : (Str.ofString " ").length = 1 := by decide +kernel
      have nil' : (Str.ofString "").length = 0 := by decide +kernel
      refine isiGo (says_tree_str (F.kin W) Y.tree (N.inst F.gw.sub)).at0 fun t₂ => tBool (xNil ?_)
      refine xRet (eBin (eBin (eBin (eStr fun t₃ => eMeth rfl rfl (by decide) (ldc F (C := L + 1) (by walk_at "m") kP (by rw [ecl]; rfl) ?_)))))
      refine mTr (F.kin W) Y.tree (N.mono F.gw.sub) Y.label (by decide +kernel) (cwF0 (F.kin W) (Fn.keep Y.label.fn) ?_)
      refine label_spec Y W N F.gw.sub (R.mono (by omega)) fun h₃ t₄ u₁ G => ?_
      have F := F.call G
      refine oCat (by rw [one, sizeLine_eq]; omega) fun u₂ t₅ => ?_
      refine eMeth rfl rfl (by decide) (eStr fun t₆ => mJoin (cwB (sCons (eComp (cl := [(Str.ofString "part", L + 1)]) (closure_of (by rw [ecl]; kernel_rfl)) (by decide +kernel) (eCallT F W (esc ▸ glw_range) X.range (sCons (eCallB F W (esc ▸ glw_len) X.len (sCons (ldc F (C := L + 1) (by walk_at "m") kP (by rw [ecl]; rfl) (sNil ?_))))))))))
      refine cLenT (F.kin W) Y.tree (N.inst F.gw.sub) N.o_ (by omega) fun u₃ t₇ => sNil ?_
      refine rng1 F (by omega) (by omega) fun I h₄ t₈ hI F => ?_
      refine cloop0 (σ := Unit) (P := ritr 0 1 (vs.length : Int).toNat) (n := (vs.length : Int).toNat) (V := fun i v => ∃ u, v = .int (0 + 1 * i) u) (μI := fun _ => [(L + 1, celO (some (.ref x)))]) () (fun i outs _ _ => StrAll outs ((texts cs).take i)) R.handled (by decide +kernel) (zL (by omega)) F hI (fun _ _ _ _ => selfR) itrRange .nil ?_ ?_
      · intro i v outs _ g' h' t' D C Lo hi hv l' inv F
        obtain ⟨ui, rfl⟩ := hv
        have hi' : i < cs.length := by omega
        obtain ⟨vi, evi, tvi⟩ := N.c_.get (i := i) (c := cs[i]) (List.getElem?_eq_getElem hi')
        refine eBin (eStr fun t₉ => eCallF F W (glC (by decide +kernel)) X.written (sCons (eSub (ldc F (C := L + 1) (by walk_at "m") (kindC (by decide +kernel) (by rw [esc]; decide +kernel) kP) rfl (ld F (by walk_at "at") ?_)))))
        refine tItemT (F.kin W) (N.inst (l'.trans F.gw.sub)) Y.getitem.find (beq_iff_eq.mp Y.getitem.isf) Y.giFn rfl ?_
        refine gi_int X Y (W.mono F.gw.le) (N.mono l') (by omega) (by omega) (by rw [show (0 + 1 * (i : Int)).toNat = i by omega]; exact evi) F.gw.sub (R.in1.mono (by omega)) fun h₅ t₁₀ G => ?_
        have F := F.call G
        refine sNil ⟨F.kin W, ?_⟩
        have hm : cs[i] ∈ cs := List.getElem_mem hi'
        have hd' := dep_lt (l := lb) hm
        have hz' := siz_lt (l := lb) hm
        refine ih cs[i] (by omega) (W.mono F.gw.le) (tvi.mono l') (ok_mem ok hm) (by omega) F.gw.sub R fun h₆ t₁₁ u₄ G => ?_
        have zt' := text_len cs[i] (ok_mem ok hm)
        refine oCat (by rw [one'', sizeLine_eq]; omega) fun u₅ t₁₂ => ?_
        refine Elt.mk' () (Le.refl _) (F.call G) ?_
        have : (texts cs).take (i + 1) = (texts cs).take i ++ [Str.ofString " " ++ cs[i].text] := by
          rw [List.take_add_one, texts_map, List.getElem?_map, List.getElem?_eq_getElem hi']; rfl
        rw [this]
        exact inv.app (.cons .nil)
      · intro outs _ g' h' t' D l' inv F hD
        rw [List.take_of_length_le (by rw [texts_map, List.length_map]; omega)] at inv
        refine sNil ?_
        refine cJoin (F.ml (.head _)) inv (by rw [nil']; omega) fun u₃ t₉ => ?_
        have jl := join_len (texts cs)
        refine oCat (by rw [Str.len_app, one, sizeLine_eq]; omega) fun u₄ t₁₀ => ?_
        refine eStr fun t₁₁ => ?_
        refine oCat (by rw [Str.len_app, Str.len_app, one, one', sizeLine_eq]; omega) fun u₅ t₁₂ => ?_
        simp only [Nd.text] at k
        exact k _ _ _ F.drop1.drop1.gw.drop
end
end TL

end
section
open PySem PySem.W PyProof.Rows PySem.Calls Builtin Builtin.ObjectAttr
set_option maxRecDepth 100000
set_option linter.unusedVariables false
set_option linter.unusedSimpArgs false
set_option pp.deepTerms false
set_option pp.deepTerms.threshold 4
set_option pp.maxSteps 2000
namespace TL
open TL
local macro_rules | `(tactic| walk_at "m") => `(tactic| repeat (first | exact List.Mem.head _ | apply List.Mem.tail))
local macro_rules | `(tactic| walk_at "mput") => `(tactic| repeat (first | exact MPut.head | apply MPut.tail))
section
variable {w : World} {A : Around} {env : Env} {Sx : List Addr} {g₀ h₀ g h : Heap} {μ : Mu} {lc : Lc} {c : Shared} {t : Tok} {Q : Value → Shared → Prop} {K : Frag} {mg mb : Str → Option Value} {d : Ad} {m : Md} {pos p : Pos}
theorem extLoop {I S x : Addr} {vs : List Value} {R : Result → Shared → Prop} (hh : A.handled = none) (hI : h₀.get? I = none) (hs : Sq g x vs) (hz : vs.length ≤ 100000) : ∀ (k i : Nat) (h : Heap) (t : Tok), vs.length - i = k → i ≤ vs.length → Fm env Sx g₀ h₀ g ((I, litr x i) :: (S, lst (vs.take i)) :: μ) lc h →
    (∀ h' t', Fm env Sx g₀ h₀ g ((S, lst vs) :: μ) lc h' → R (.ok (.ret .none)) (St c h' t')) → codeAny (model prg w) A (.builtin "list.extend.loop" ⟨[.ref S, .ref I, .none], []⟩) R (St c h t) := by
  intro k
  induction k with
  | zero =>
    intro i h t hk hi F kk
    have e : i = vs.length := by omega
    subst e
    refine codeAny_builtin PySem.F.entry_extend_loop ?_
    rw [Around.under_plainId PySem.F.plain_extend_loop _]
    show wpAny _ A.in1 (pyNext (.ref I) >>= _) _ _ _
    obtain ⟨o, ho, hp, _⟩ := F.has (.head _)
    refine wpAny_bind (((itrSq (w := w) (I := I) hs).done A.in1 c h t _ hh F.gw.sub ⟨o, ho, hp⟩ fun h' t' hx => ?_).any)
    have F' := F.walked hI hx
    rw [List.take_length] at F'
    exact wpAny_pure (kk h' t' F')
  | succ k ih =>
    intro i h t hk hi F kk
    have hlt : i < vs.length := by omega
    refine codeAny_builtin PySem.F.entry_extend_loop ?_
    rw [Around.under_plainId PySem.F.plain_extend_loop _]
    show wpAny _ A.in1 (pyNext (.ref I) >>= _) _ _ _
    obtain ⟨o, ho, hp, _⟩ := F.has (.head _)
    refine wpAny_bind (((itrSq (w := w) (I := I) hs).item A.in1 c h t i _ hh hlt F.gw.sub ⟨o, ho, hp⟩ fun v h' t' o' hv hsb ho' hp' => ?_).any)
    have F' := F.upd MPut.head hsb ho' hp'
    obtain ⟨⟨oS, hS, nS, rfl⟩, _⟩ := F'.mu (S, lst (vs.take i)) (.tail _ (.head _))
    show wpAny _ A.in1 (updateSeq S (·.push v) >>= _) _ _ _
    have e2 : (vs.take i).toArray.push v = (vs.take (i + 1)).toArray := by
      rw [List.take_add_one, hv]; simp
    refine wpAny_bind (wpAny_updateSeq (hz := by simp [sizeLine_eq]; omega) (_hz' := by simp [sizeLine_eq]; omega) hS rfl ?_)
    refine wpAny_pure ⟨plainId_quiet PySem.F.plain_extend_loop _, ?_⟩
    exact ih (i + 1) _ _ (by omega) hlt (F'.turned (l := S) (vs := vs.take i) (vs' := vs.take (i + 1)) (.tail _ (.head _)) (.tail .head) e2) kk
theorem silent_len : (fun c => c) true = true := rfl
theorem any_ref {C : Addr} : (["set", "frozenset", "dict", "dict_keys", "dict_values", "dict_items"] : List String).any (fun s => Value.ref C == .type s) = false := by
  simp only [List.any_cons, List.any_nil]; rfl
theorem asInt_int (n : Int) (u : Tok) : asInt? (.int n u) = pure (some n) := by kernel_rfl
theorem cListT {x dx C : Addr} {ox od : Obj} {l : Str} {vs : List Value} {cs : List Nd} (X : K.In g) (T : TreeK K C) (F : Fm env Sx g₀ h₀ g μ lc h) (N : TrN g C x dx ox od l vs cs) (hh : A.handled = none) (hz : vs.length ≤ 100000)
    (k : ∀ l h' t', h₀.get? l = none → Fm env Sx g₀ h₀ g ((l, lst vs) :: μ) lc h' → Q (.ref l) (St c h' t')) : Wp w A (call (.type "list") [.ref x]) Q (St c h t) := by
  refine ⟨callType_codes (Q₁ := fun obj s₁ => obj = .ref h.objs.size ∧ s₁ = St c (h.push { cls := .type "list", data := .seq #[] }) t) PySem.F.called_list (PySem.F.typeCall_list_1 _) PySem.F.entry_list_init
    (code_list_new _ ⟨rfl, rfl⟩) fun obj s₁ h₁ => ?_⟩
  obtain ⟨rfl, rfl⟩ := h₁
  obtain ⟨n1, n2, n3, n4⟩ := F.none_new (none_size h)
  have F₁ := F.push (o := { cls := .type "list", data := .seq #[] }) (P := lst []) rfl ⟨_, rfl⟩
  obtain ⟨⟨oS, hS, nS, eS⟩, _⟩ := F₁.mu _ (.head _)
  have hS' : (h.push { cls := .type "list", data := .seq #[] }).get? h.objs.size = some { cls := .type "list", data := .seq #[] } := Heap.get?_push_size _ rfl
  have hne : x ≠ h.objs.size := fun e => by have := F.gw.sub _ _ N.x_; rw [e, none_size] at this; cases this
  refine ⟨⟨_, hS', rfl⟩, PySem.F.args_list_init_2 _ _, ?_⟩
  show wpAny _ _ (do let old ← Builtin.List.listItems (.ref h.objs.size); Builtin.List.listUpdate (.ref h.objs.size) (fun _ => #[]); letGo old.toList.reverse; Builtin.List.listExtendWith (.ref h.objs.size) (.ref x) .none) _ _ _
  refine wpAny_bind ?_
  unfold Builtin.List.listItems
  refine wpAny_bind (wpAny_seqItems hS' rfl (wpAny_pure ?_))
  show wpAny _ _ (updateSeq h.objs.size (fun _ => #[]) >>= fun _ => letGo (#[] : Array Value).toList.reverse >>= fun _ => Builtin.List.listExtendWith (.ref h.objs.size) (.ref x) .none) _ _ _
  refine wpAny_bind (wpAny_updateSeq hS' rfl ?_)
  have F₂ := F₁.turned (f := fun _ => #[]) (vs' := []) (.head _) .head rfl
  refine wpAny_bind (wpAny_letGo ?_)
  unfold Builtin.List.listExtendWith
  have I := N.inst F₂.gw.sub
  have X₂ := X.keeps F₂.gw.sub
  have LT := I.type (M := model prg w)
  refine wpAny_bind (LT.at ?_)
  have h1 : (Builtin.List.listSameRef (.ref h.objs.size) (.ref x) || Value.ref C == Value.type "list" || Value.ref C == Value.type "tuple") = false := by
    have : (h.objs.size == x) = false := by simpa using (Ne.symm hne)
    simp [Builtin.List.listSameRef, this]
  try dsimp only
  rw [h1, if_neg (by decide)]
  refine wpAny_bind ((iTreeF X₂ T F₂ (N.mono F₂.gw.sub) fun I' h₃ t₃ hI F₃ => ?_).any)
  refine wpAny_bind (wpAny_holding ?_)
  have I₃ := N.inst F₃.gw.sub
  have X₃ := X.keeps F₃.gw.sub
  have L0 := I₃.type (M := model prg w)
  have L1 := looks_findIn (M := model prg w) X₃ T.ln
  have L2 := tree_sub (M := model prg w) X₃ T I₃
  unfold Builtin.List.listLengthHint specialOf
  refine wpAny_bind (wpAny_bind (L0.at (L1.at ?_)))
  try dsimp only
  rw [split_llen]
  try dsimp only
  refine wpAny_bind (L2.at ?_)
  try dsimp only
  rw [if_neg (by decide)]
  rw [if_pos (by decide +kernel)]
  refine wpAny_bind (L0.at ?_)
  try dsimp only
  refine wpAny_bind ((cLenT (A := A.in1.in1) X₃ T I₃ N.o_ (by omega) fun u₄ t₄ => ?_).any)
  rw [asInt_int]
  refine wpAny_bind (wpAny_pure ?_)
  try dsimp only
  refine wpAny_pure ?_
  have F₃' : Fm env Sx g₀ h₀ g ((I', litr x 0) :: (h.objs.size, lst (vs.take 0)) :: μ) lc h₃ := F₃
  have fin : ∀ h₅ t₅, Fm env Sx g₀ h₀ g ((I', litr x 0) :: (h.objs.size, lst (vs.take 0)) :: μ) lc h₅ → wpAny (model prg w) A.in1.in1 (again (.builtin "list.extend.loop" ⟨[.ref h.objs.size, .ref I', .none], []⟩))
      (fun fin s' => match fin with
        | .done f => wants (fun r s₂ => r = .none ∧ Q (.ref h.objs.size) s₂) (fun _ _ => False) (.ok f) s'
        | .again c' => c'.quiet = true ∧ codeAny (model prg w) A.in1 c' (wants (fun r s₂ => r = .none ∧ Q (.ref h.objs.size) s₂) (fun _ _ => False)) s')
      (fun e s' => wants (fun r s₂ => r = .none ∧ Q (.ref h.objs.size) s₂) (fun _ _ => False) (.error e) s') (St c h₅ t₅) := fun h₅ t₅ F₅ =>
    wpAny_pure ⟨plainId_quiet PySem.F.plain_extend_loop _, extLoop (A := A.in1) hh hI N.sq hz _ 0 h₅ t₅ rfl (Nat.zero_le _) F₅ fun h₆ t₆ F₆ => ⟨rfl, k _ h₆ t₆ n3 F₆⟩⟩
  have any0 : (([("set" : String), "frozenset", "dict", "dict_keys", "dict_values", "dict_items"].any fun s => Value.ref C == .type s)) = false := any_ref
  cases hb : ((vs.length : Int) != 0) with
  | false =>
    rw [if_neg (by
      rw [Bool.false_or]
      show ¬ ((["set", "frozenset", "dict", "dict_keys", "dict_values", "dict_items"].any fun s => Value.ref C == .type s) = true)
      rw [any0]; decide)]
    exact fin _ _ F₃'
  | true =>
    rw [if_pos (by rfl)]
    refine wpAny_bind (wpAny_rule ?_)
    refine wpAny_bind ?_
    unfold Builtin.List.listTouch
    obtain ⟨⟨o4, h4, n4', rfl⟩, _⟩ := F₃'.mu (h.objs.size, lst (vs.take 0)) (.tail _ (.head _))
    show wpAny _ _ (updateSeq h.objs.size (·.push .none) >>= fun _ => updateSeq h.objs.size (·.pop)) _ _ _
    refine wpAny_bind (wpAny_updateSeq (hz := by simp) (_hz' := by simp [sizeLine_eq]) h4 rfl ?_)
    have F₄ := F₃'.turned (l := h.objs.size) (vs := vs.take 0) (vs' := [.none]) (f := (·.push .none)) (.tail _ (.head _)) (.tail .head) rfl
    obtain ⟨⟨o5, h5, n5, rfl⟩, _⟩ := F₄.mu (h.objs.size, lst [.none]) (.tail _ (.head _))
    refine wpAny_updateSeq (hz := by simp [sizeLine_eq]) (_hz' := by simp) h5 rfl ?_
    have F₅ := F₄.turned (l := h.objs.size) (vs := [.none]) (vs' := vs.take 0) (f := (·.pop)) (.tail _ (.head _)) (.tail .head) rfl
    exact fin _ _ F₅
end
end TL

end
section
open PySem PySem.W PyProof.Rows PySem.Calls Builtin Builtin.ObjectAttr PySem.SeqAt
open AutoSeq1 (wpAny_loadPart')
open MeetsSeq MeetsSeq2 MeetsSeq3 SeqRoads2
set_option maxRecDepth 100000
set_option linter.unusedVariables false
set_option linter.unusedSimpArgs false
set_option pp.deepTerms false
set_option pp.deepTerms.threshold 4
set_option pp.maxSteps 2000
namespace TL
open TL
local macro_rules | `(tactic| walk_at "at") => `(tactic| repeat (first | exact At.head | apply At.tail))
local macro_rules | `(tactic| walk_at "put") => `(tactic| repeat (first | exact Put.head | apply Put.tail))
local macro_rules | `(tactic| walk_at "m") => `(tactic| repeat (first | exact List.Mem.head _ | apply List.Mem.tail))
local macro_rules | `(tactic| walk_at "mput") => `(tactic| repeat (first | exact MPut.head | apply MPut.tail))
/-- a == b inside a container says r, and the heap only grows -/
def EqG (w : World) (c : Shared) (A : Around) (g : Heap) (a b : Value) (r : Bool) : Prop :=
  ∀ (h : Heap) (t : Tok), Le g h → Wp w A (eqBool a b) (fun b' s' => ∃ h' t', s' = St c h' t' ∧ Le h h' ∧ b' = r) (St c h t)
theorem EqG.mono {w : World} {c : Shared} {A : Around} {g g' : Heap} {a b : Value} {r : Bool} (x : EqG w c A g a b r) (l : Le g g') : EqG w c A g' a b r := fun h t le => x h t (l.trans le)
section
variable {w : World} {A : Around} {env : Env} {S : List Addr} {g₀ h₀ g h : Heap} {μ : Mu} {lc : Lc} {c : Shared} {t : Tok} {Q : Value → Shared → Prop} {K : Frag} {mg mb : Str → Option Value} {d : Ad} {m : Md} {pos p : Pos}
theorem eqG_str {x y : Str} {i j : Tok} : EqG w c A g (.str x i) (.str y j) (x == y) := fun h t _ => ⟨EqAt.str_str x i y j prg w _ _ ⟨h, t, rfl, Le.refl _, rfl⟩⟩
theorem eqLoop {l b : Addr} {vs us : List Value} (hl : g.IsList l vs.toArray) (hb : g.IsList b us.toArray) (hlen : vs.length = us.length) {e : Nat → Bool} (he : ∀ j x y, vs[j]? = some x → us[j]? = some y → EqG w c A.in1 g x y (e j)) :
    ∀ (k i : Nat) (h : Heap) (t : Tok) (R : Result → Shared → Prop), vs.length - i = k → Le g h → (∀ h' t', Le h h' → R (.ok (.ret (.bool (((List.range vs.length).drop i).all e)))) (St c h' t')) →
    codeAny (model prg w) A (.builtin "list.__eq__.loop" ⟨[.ref l, .ref b, rawInt i, rawInt 2], []⟩) R (St c h t) := by
  obtain ⟨⟨cls, dd, data, sl⟩, ho, hc, n, hd⟩ := id hl
  obtain ⟨⟨cls2, dd2, data2, sl2⟩, ho2, hc2, n2, hd2⟩ := id hb
  simp only at hc hd hc2 hd2
  subst hc hd hc2 hd2
  intro k
  induction k with
  | zero =>
    intro i h t R hk le kk
    refine codeAny_builtin entry_eq_loop ?_
    rw [Around.under_plainId plain_eq_loop _]
    have hl1 := le _ _ ho
    have hb1 := le _ _ ho2
    wp_walk using wpAny_loadPart' hl1, wpAny_loadPart' hb1
    have hi1 : vs.toArray[((i : Nat) : Int).toNat]? = none := by simp; omega
    have hi2 : us.toArray[((i : Nat) : Int).toNat]? = none := by simp; omega
    have hdr : (List.range vs.length).drop i = [] := by simp; omega
    rw [hdr] at kk
    rw [hi1, hi2]
    wp_walk using wpAny_loadPart' hl1, wpAny_loadPart' hb1
    show R (.ok (.ret (.bool (vs.toArray.size == us.toArray.size)))) _
    have : (vs.toArray.size == us.toArray.size) = true := by simp [hlen]
    rw [this]
    exact kk h t (Le.refl _)
  | succ k ih =>
    intro i h t R hk le kk
    refine codeAny_builtin entry_eq_loop ?_
    rw [Around.under_plainId plain_eq_loop _]
    have hl1 := le _ _ ho
    have hb1 := le _ _ ho2
    have hlt : i < vs.length := by omega
    have hlt2 : i < us.length := by omega
    wp_walk using wpAny_loadPart' hl1, wpAny_loadPart' hb1
    have hi1 : vs.toArray[((i : Nat) : Int).toNat]? = some vs[i] := by simp [hlt]
    have hi2 : us.toArray[((i : Nat) : Int).toNat]? = some us[i] := by simp [hlt2]
    have hdr : (List.range vs.length).drop i = i :: (List.range vs.length).drop (i + 1) := by simp [List.drop_eq_getElem_cons, hlt]
    have hcs : ((i : Int) + 1) = ((i + 1 : Nat) : Int) := by push_cast; rfl
    rw [hdr, List.all_cons] at kk
    rw [hi1, hi2]
    refine wpAny_bind ((he i _ _ (List.getElem?_eq_getElem hlt) (List.getElem?_eq_getElem hlt2) h t le).to fun b' s' q => ?_)
    obtain ⟨h', t', rfl, le', rfl⟩ := q
    have hl2 := le' _ _ hl1
    have hb2 := le' _ _ hb1
    cases hb' : e i with
    | true =>
      rw [hb'] at kk
      wp_walk
      rw [hcs]
      exact ⟨plainId_quiet plain_eq_loop _, ih (i + 1) h' t' R (by omega) (le.trans le') fun h₃ t₃ l₃ => by simpa using kk h₃ t₃ (le'.trans l₃)⟩
    | false =>
      rw [hb'] at kk
      wp_walk using wpAny_loadPart' hl2, wpAny_loadPart' hb2
      rw [hi1, hi2]
      wp_walk
      simpa using kk h' t' le'
theorem rcLists {l b : Addr} {vs us : List Value} (hl : g.IsList l vs.toArray) (hb : g.IsList b us.toArray) (hlen : vs.length = us.length) (hu : A.units < cLine) {e : Nat → Bool} (he : ∀ j x y, vs[j]? = some x → us[j]? = some y → EqG w c A.in1 g x y (e j)) (le : Le g h)
    (k : ∀ h' t', Le h h' → Q (.bool ((List.range vs.length).all e)) (St c h' t')) : Wp w A (richCompare .Eq (.ref l) (.ref b)) Q (St c h t) := by
  have hl' := hl.up le
  have hb' := hb.up le
  have ha : (St c h t).TypeIs (.ref l) "list" := hl'.typeIs
  have hbt : (St c h t).TypeIs (.ref b) "list" := hb'.typeIs
  obtain ⟨⟨cls, dd, data, sl⟩, ho, hc, n, hd⟩ := id hl'
  obtain ⟨⟨cls2, dd2, data2, sl2⟩, ho2, hc2, n2, hd2⟩ := id hb'
  simp only at hc hd hc2 hd2
  subst hc hd hc2 hd2
  refine ⟨wpAny_richCompare_same_room (op := .Eq) ha hbt PySem.F.slot_list_eq (wpAny_call (codeAny_call_builtin PySem.F.slot_list_eq.plain PySem.F.entry_list_eq (PySem.F.slot_list_eq.check _ _ _ _ _ _ _ _ ha (PySem.F.args_list_eq_2 _ _) ?_))) hu⟩
  have f3 := AutoSeq1.sub_list_list
  have hne : ¬ (vs.toArray.size != us.toArray.size) = true := by simp [hlen]
  wp_walk using wpAny_loadPart' ho, wpAny_loadPart' ho2
  refine ⟨plainId_quiet plain_eq_loop _, eqLoop hl hb hlen he _ 0 h t _ rfl le fun h' t' l' => ⟨(fun x => nomatch x), ?_⟩⟩
  simpa using k h' t' l'
theorem eqG_lists {l b : Addr} {vs us : List Value} (hne : l ≠ b) (hl : g.IsList l vs.toArray) (hb : g.IsList b us.toArray) (hlen : vs.length = us.length) (hu : A.units < cLine) {e : Nat → Bool} (he : ∀ j x y, vs[j]? = some x → us[j]? = some y → EqG w c A.in1 g x y (e j)) :
    EqG w c A g (.ref l) (.ref b) ((List.range vs.length).all e) := fun h t le => by
  refine ⟨?_⟩
  unfold eqBool
  refine wpAny_holding ?_
  refine wpAny_ite_split (fun hab => absurd (by have := eq_of_beq hab; injection this) hne) (fun _ => ?_)
  refine wpAny_bind ((rcLists hl hb hlen hu he le fun h' t' l' => ?_).any)
  exact wpAny_truthy_bool ⟨h', t', rfl, l', rfl⟩
/-- two pairs -/
theorem rcPairs {l b : Addr} {a1 a2 b1 b2 : Value} {r1 r2 : Bool} (hl : g.IsTuple l [a1, a2].toArray) (hb : g.IsTuple b [b1, b2].toArray) (hu : A.units < cLine) (e1 : EqG w c A.in1 g a1 b1 r1) (e2 : EqG w c A.in1 g a2 b2 r2) (le : Le g h)
    (k : ∀ h' t', Le h h' → Q (.bool (r1 && r2)) (St c h' t')) : Wp w A (compareOp .Eq (.ref l) (.ref b)) Q (St c h t) := by
  have hl' := hl.up le
  have hb' := hb.up le
  have ha : (St c h t).TypeIs (.ref l) "tuple" := (show IsTup _ _ _ from hl').typeIs
  have hbt : (St c h t).TypeIs (.ref b) "tuple" := (show IsTup _ _ _ from hb').typeIs
  obtain ⟨⟨cls, dd, data, sl⟩, ho, hc, n, hd⟩ := id hl'
  obtain ⟨⟨cls2, dd2, data2, sl2⟩, ho2, hc2, n2, hd2⟩ := id hb'
  simp only at hc hd hc2 hd2
  subst hc hd hc2 hd2
  refine ⟨?_⟩
  show wpAny _ _ (richCompare .Eq (.ref l) (.ref b)) _ _ _
  refine wpAny_richCompare_same_room (op := .Eq) ha hbt PySem.F.slot_tuple_eq (wpAny_call (codeAny_call_builtin PySem.F.slot_tuple_eq.plain PySem.F.entry_tuple_eq (PySem.F.slot_tuple_eq.check _ _ _ _ _ _ _ _ ha (PySem.F.args_tuple_eq_2 _ _) ?_))) hu
  have f2 := AutoSeq1.sub_tuple_tuple
  have hz : [a1, a2].toArray.toList.zip [b1, b2].toArray.toList = [(a1, b1), (a2, b2)] := rfl
  wp_walk using wpAny_loadPart' ho, wpAny_loadPart' ho2, wpAny_forIn_list _ (fun rest b s' => b.1 = none ∧ ∃ h' t', s' = St c h' t' ∧ Le h h' ∧ (rest = [(a1, b1), (a2, b2)] ∨ (rest = [(a2, b2)] ∧ r1 = true) ∨ (rest = [] ∧ r1 = true ∧ r2 = true))) _
  case turn =>
    rintro ⟨y, x⟩ rest b s' ⟨hb', h', t', rfl, le', hz⟩
    rcases hz with hz | ⟨hz, q1⟩ | ⟨hz, _⟩
    · injection hz with e1' e2'
      injection e1' with ey ex
      subst ey ex e2'
      refine wpAny_bind ((e1 h' t' (le.trans le')).to fun b' s' q => ?_)
      obtain ⟨h'', t'', rfl, le'', rfl⟩ := q
      cases b' with
      | true =>
        wp_walk
        exact ⟨rfl, h'', t'', rfl, le'.trans le'', .inr (.inl ⟨rfl, rfl⟩)⟩
      | false =>
        wp_walk
        exact ⟨(fun x => nomatch x), k h'' t'' (le'.trans le'')⟩
    · injection hz with e1' e2'
      injection e1' with ey ex
      subst ey ex e2'
      refine wpAny_bind ((e2 h' t' (le.trans le')).to fun b' s' q => ?_)
      obtain ⟨h'', t'', rfl, le'', rfl⟩ := q
      cases b' with
      | true =>
        wp_walk
        exact ⟨rfl, h'', t'', rfl, le'.trans le'', .inr (.inr ⟨rfl, q1, rfl⟩)⟩
      | false =>
        wp_walk
        exact ⟨(fun x => nomatch x), by have := k h'' t'' (le'.trans le''); rwa [Bool.and_false] at this⟩
    · cases hz
  case fin =>
    rintro ⟨b1', b2'⟩ s' ⟨hb', h', t', rfl, le', hz⟩
    simp only at hb'
    subst hb'
    rcases hz with hz | ⟨hz, _⟩ | ⟨_, q1, q2⟩
    · cases hz
    · cases hz
    · subst q1 q2
      wp_walk
      exact ⟨(fun x => nomatch x), k h' t' le'⟩
  case h =>
    exact ⟨rfl, h, t, rfl, Le.refl _, .inl hz⟩
end
end TL

end
section
open PySem PySem.W PyProof.Rows PySem.Calls Builtin Builtin.ObjectAttr PySem.SeqAt
set_option maxRecDepth 100000
set_option linter.unusedVariables false
set_option linter.unusedSimpArgs false
set_option pp.deepTerms false
set_option pp.deepTerms.threshold 4
set_option pp.maxSteps 2000
namespace TL
open TL
local macro_rules | `(tactic| walk_at "at") => `(tactic| repeat (first | exact At.head | apply At.tail))
local macro_rules | `(tactic| walk_at "put") => `(tactic| repeat (first | exact Put.head | apply Put.tail))
local macro_rules | `(tactic| walk_at "m") => `(tactic| repeat (first | exact List.Mem.head _ | apply List.Mem.tail))
local macro_rules | `(tactic| walk_at "mput") => `(tactic| repeat (first | exact MPut.head | apply MPut.tail))
/-- equal or not -/
noncomputable def eqD {α : Type} (a b : α) : Bool := @decide (a = b) (Classical.propDecidable _)
theorem eqD_iff {α : Type} {a b : α} : eqD a b = true ↔ a = b := by unfold eqD; exact @decide_eq_true_iff _ (Classical.propDecidable _)
theorem eqD_eq {α : Type} {a b : α} {r : Bool} (h : r = true ↔ a = b) : r = eqD a b := by
  cases r with
  | true => exact (eqD_iff.mpr (h.mp rfl)).symm
  | false =>
    cases q : eqD a b with
    | false => rfl
    | true => exact absurd (h.mpr (eqD_iff.mp q)) (by decide)
mutual
def sameSh : Nd → Nd → Bool
  | .leaf _, .leaf _ => true
  | .node _ cs, .node _ ds => sameL cs ds
  | .leaf _, .node _ _ => false
  | .node _ _, .leaf _ => false
def sameL : List Nd → List Nd → Bool
  | [], [] => true
  | c :: cs, d :: ds => sameSh c d && sameL cs ds
  | [], _ :: _ => false
  | _ :: _, [] => false
end
mutual
theorem sameSh_refl : ∀ n : Nd, sameSh n n = true
  | .leaf _ => by simp [sameSh]
  | .node _ cs => by simp only [sameSh]; exact sameL_refl cs
theorem sameL_refl : ∀ cs : List Nd, sameL cs cs = true
  | [] => by simp [sameL]
  | c :: cs => by simp only [sameL, sameSh_refl c, sameL_refl cs, Bool.and_self]
end
theorem sameL_len : ∀ {cs ds : List Nd}, sameL cs ds = true → cs.length = ds.length
  | [], [], _ => rfl
  | c :: cs, d :: ds, h => by simp only [sameL, Bool.and_eq_true] at h; simp [sameL_len h.2]
  | [], _ :: _, h => by simp [sameL] at h
  | _ :: _, [], h => by simp [sameL] at h
theorem sameL_at : ∀ {cs ds : List Nd}, sameL cs ds = true → ∀ {i : Nat} {c d : Nd}, cs[i]? = some c → ds[i]? = some d → sameSh c d = true
  | [], _, _, i, c, d, h1, _ => by simp at h1
  | c :: cs, [], h, _, _, _, _, _ => by simp [sameL] at h
  | c :: cs, d :: ds, h, 0, c', d', h1, h2 => by
    simp only [sameL, Bool.and_eq_true] at h
    simp at h1 h2; subst h1 h2; exact h.1
  | c :: cs, d :: ds, h, i + 1, c', d', h1, h2 => by
    simp only [sameL, Bool.and_eq_true] at h
    exact sameL_at h.2 (by simpa using h1) (by simpa using h2)
theorem lblO.det {l l' : Str} {od : Obj} (a : lblO l od) (b : lblO l' od) : l = l' := by
  obtain ⟨_, _, _, _, rfl⟩ := a
  obtain ⟨_, _, _, _, e⟩ := b
  have := congrArg (fun o : Obj => match o.data with | .dict es _ => es.toList.map (fun en : DictEntry => en.val) | _ => []) e
  simp [dictOf] at this
  exact this.1
mutual
theorem Tr.det {g : Heap} {C : Addr} : ∀ {v : Value} {n n' : Nd}, Tr g C v n → Tr g C v n' → n = n'
  | _, .leaf s, n', a, b => by
    obtain ⟨u, rfl⟩ := a.of_leaf
    cases b; rfl
  | _, .node l cs, n', a, b => by
    cases a with
    | node a1 a2 a3 a4 a5 =>
      cases b with
      | node b1 b2 b3 b4 b5 =>
        rw [a1] at b1; cases b1
        obtain ⟨k1, e1⟩ := a2
        obtain ⟨k2, e2⟩ := b2
        rw [e1] at e2
        injection e2 with _ hd hdat
        injection hd with hd
        subst hd
        have hv : _ = _ := congrArg (fun x => match x with | Data.seq xs _ => xs.toList | _ => []) hdat
        simp at hv
        subst hv
        rw [a3] at b3; cases b3
        rw [a4.det b4, Trs.det a5 b5]
theorem Trs.det {g : Heap} {C : Addr} : ∀ {vs : List Value} {cs cs' : List Nd}, Trs g C vs cs → Trs g C vs cs' → cs = cs'
  | _, [], _, a, b => by cases a; cases b; rfl
  | _, c :: cs, _, a, b => by
    cases a with
    | cons a1 a2 =>
      cases b with
      | cons b1 b2 => rw [Tr.det a1 b1, Trs.det a2 b2]
end
section
variable {w : World} {A : Around} {env : Env} {S : List Addr} {g₀ h₀ g h : Heap} {μ : Mu} {lc : Lc} {c : Shared} {t : Tok} {Q : Value → Shared → Prop} {K : Frag} {mg mb : Str → Option Value} {d : Ad} {m : Md} {pos p : Pos}
/-- == between two things of a class with an __eq__ of its own -/
theorem cmpT {x y C f : Addr} {ox od oy od2 : Obj} {b : Bool} (X : K.In h) (I : InstAt h x ox C (some od)) (I2 : InstAt h y oy C (some od2)) (hs : findIn K (.ref C) "__eq__" = some (some (.ref f))) (hf : isFn K (.ref f) = true) (hu : A.units < cLine)
    (k : Wp w A (call (.ref f) [.ref x, .ref y]) (fun v s' => v = .bool b ∧ Q v s') (St c h t)) : Wp w A (richCompare .Eq (.ref x) (.ref y)) Q (St c h t) := by
  have one : wpAny (model prg w) A (tryCompare (.ref x) "__eq__" (.ref y)) (fun r s' => ∃ v, r = some v ∧ Q v s') (fun _ _ => False) (St c h t) := by
    unfold tryCompare
    refine wpAny_bind (ifBound_K (s := St c h t) X I hs hf (k.to fun v s' hv => ?_))
    obtain ⟨rfl, hv⟩ := hv
    exact wpAny_pure ⟨_, rfl, hv⟩
  have L1 := I.type (M := model prg w)
  have L2 := I2.type (M := model prg w)
  refine ⟨?_⟩
  unfold richCompare
  simp only [oneThing_ref]
  refine wpAny_holding (wpAny_bind (wpAny_cRoomFor hu ?_))
  refine wpAny_bind (L1.at (wpAny_bind (L2.at ?_)))
  rw [if_neg (by simp)]
  refine wpAny_bind (wpAny_pure ?_)
  simp only [Bool.false_eq_true, if_false]
  refine wpAny_bind (wpAny_mono one (fun r s' z => ?_) fun _ _ e => e)
  obtain ⟨v, rfl, hq⟩ := z
  exact wpAny_pure hq
theorem leaf_eqD {s s' : Str} : (s == s') = eqD (Nd.leaf s) (Nd.leaf s') := eqD_eq (by rw [beq_iff_eq]; exact ⟨fun e => by rw [e], fun e => by cases e; rfl⟩)
theorem all_eqD {cs ds : List Nd} (hl : cs.length = ds.length) : ((List.range cs.length).all fun j => eqD cs[j]? ds[j]?) = eqD cs ds := by
  refine eqD_eq ?_
  rw [List.all_eq_true]
  constructor
  · intro h
    refine List.ext_getElem? fun j => ?_
    rcases Nat.lt_or_ge j cs.length with q | q
    · exact eqD_iff.mp (h j (List.mem_range.mpr q))
    · rw [List.getElem?_eq_none q, List.getElem?_eq_none (hl ▸ q)]
  · intro h j _
    exact eqD_iff.mpr (by rw [h])
def psEq : List Str := ["self", "other"]
theorem okEq : okFn (meth 5 1) psEq [] = true := by decide +kernel
theorem gle_list : Gl (scopeOf (meth 5 1)) (Str.ofString "list") := by decide +kernel
theorem eq_spec (X : Wk K mg mb d) (Y : TM K d m) : ∀ (n : Nat) {A : Around} {g h : Heap} {t : Tok} {x dx y dy : Addr} {ox od oy ody : Obj} {l l' : Str} {vs us : List Value} {cs ds : List Nd} {Q : Value → Shared → Prop}, (Nd.node l cs).dep ≤ n → sameL cs ds = true → Wg K mg mb g → TrN g d.tree x dx ox od l vs cs → TrN g d.tree y dy oy ody l' us ds → sizs cs ≤ 10000 → Le g h → Room A (5 * n + 1) →
    (∀ h' t', Le h h' → Q (.bool (eqD (Nd.node l cs) (Nd.node l' ds))) (St c h' t')) → Wp w A (call (.ref m.eq) [.ref x, .ref y]) Q (St c h t) := by
  intro n
  induction n with
  | zero => intro A g h t x dx y dy ox od oy ody l l' vs us cs ds Q hd; simp [Nd.dep] at hd
  | succ n ih =>
    intro A g h t x dx y dy ox od oy ody l l' vs us cs ds Q hd sh W N N2 hz le room k
    refine call_fn psEq [] (S := []) (n := 5 * n + 5) W Y.eq.fn le room okEq (fun _ _ _ _ _ _ _ => rfl) rfl fun env h₁ t₁ A' R esc ecl hk ht F => ?_
    dsimp only [psEq, mkLc, List.map] at F
    have lv := N.c_.len
    have lu := N2.c_.len
    have ll := sameL_len sh
    have zc := len_sizs cs
    refine xRet (eAnd (eCmp (eAttr (ld F (by walk_at "at") ?_))))
    refine get_cls (F.kin W) Y.tree (N.inst F.gw.sub) fun t₂ => ?_
    refine eAttr (ld F (by walk_at "at") ?_)
    refine get_cls (F.kin W) Y.tree (N2.inst F.gw.sub) fun t₃ => ?_
    refine oIsSelf (tBool ?_)
    rw [if_pos rfl]
    refine eBoolOne (eCmp (eTuple (sCons (eAttr (ld F (by walk_at "at") ?_)))))
    refine get_lbl (F.kin W) Y.tree (N.inst F.gw.sub) N.l_ fun u₁ t₄ => ?_
    refine sCons (eCallT F W (esc ▸ gle_list) X.list (sCons (ld F (by walk_at "at") (sNil ?_))))
    refine cListT (W.mono F.gw.le).k Y.tree F N R.handled (by omega) fun D1 h₂ t₅ hD1 F => ?_
    obtain ⟨g₁, o1, F, le₁, e1, n1, ho1⟩ := F.frz hD1
    refine sNil (nTup F (zL (Nat.le_add_left 2 99998)) fun T1 g₂ h₃ F le₂ hT1 => ?_)
    have le12 := le₁.trans le₂
    refine eTuple (sCons (eAttr (ld F (by walk_at "at") ?_)))
    refine get_lbl (F.kin W) Y.tree (N2.inst (le12.trans F.gw.sub)) N2.l_ fun u₂ t₆ => ?_
    refine sCons (eCallT F W (esc ▸ gle_list) X.list (sCons (ld F (by walk_at "at") (sNil ?_))))
    refine cListT (W.mono F.gw.le).k Y.tree F (N2.mono le12) R.handled (by omega) fun D2 h₄ t₇ hD2 F => ?_
    have g2D2 := (F.has (P := lst us) (.head _)).choose_spec.2.2
    obtain ⟨g₃, o2, F, le₃, e2, n2, ho2⟩ := F.frz hD2
    refine sNil (nTup F (zL (Nat.le_add_left 2 99998)) fun T2 g₄ h₅ F le₄ hT2 => ?_)
    have hD1' : g₄.IsList D1 vs.toArray := ⟨o1, le₄ _ _ (le₃ _ _ (le₂ _ _ e1)), by rw [ho1], n1, by rw [ho1]⟩
    have hD2' : g₄.IsList D2 us.toArray := ⟨o2, le₄ _ _ e2, by rw [ho2], n2, by rw [ho2]⟩
    have hne : D1 ≠ D2 := fun e => by
      have := le₂ _ _ e1
      rw [e, g2D2] at this; cases this
    have up : Le g g₄ := (le12.trans le₃).trans le₄
    have hu2 : A'.in1.units < cLine := by have := R.in1.units; show _ < 9900; omega
    refine rcPairs (hT1.up (le₃.trans le₄)) hT2 (by have := R.units; show _ < 9900; omega) (eqG_str (x := l) (y := l')) (eqG_lists hne hD1' hD2' (by omega) hu2 (e := fun j => eqD cs[j]? ds[j]?) fun j v u hv hu => ?_) F.gw.sub fun h₆ t₈ le₆ => ?_
    · obtain ⟨ci, hci, ti⟩ := N.c_.at hv
      obtain ⟨di, hdi, ti2⟩ := N2.c_.at hu
      have shj := sameL_at sh hci hdi
      have hm := List.mem_of_getElem? hci
      have hd' := dep_lt (l := l) hm
      have hz' := siz_le hm
      have eo : eqD cs[j]? ds[j]? = eqD ci di := by
        refine (eqD_eq ?_).symm
        rw [hci, hdi, eqD_iff]
        exact ⟨fun e => by rw [e], fun e => Option.some.inj e⟩
      rw [eo]
      cases ci with
      | leaf s =>
        cases di with
        | node _ _ => simp [sameSh] at shj
        | leaf s' =>
          obtain ⟨w1, rfl⟩ := ti.of_leaf
          obtain ⟨w2, rfl⟩ := ti2.of_leaf
          rw [← leaf_eqD]
          exact eqG_str
      | node lc cs' =>
        cases di with
        | leaf _ => simp [sameSh] at shj
        | node ld ds' =>
          simp only [sameSh] at shj
          obtain ⟨xc, dxc, oxc, odc, vsc, rfl, Nc⟩ := ti.of_node
          obtain ⟨yc, dyc, oyc, odyc, usc, rfl, Nc2⟩ := ti2.of_node
          intro hh tt lle
          have gl := up.trans lle
          refine ⟨?_⟩
          unfold eqBool
          refine wpAny_holding ?_
          refine wpAny_ite_split (fun hab => ?_) (fun _ => ?_)
          · have : xc = yc := by have := eq_of_beq hab; injection this
            subst this
            have := ti.det ti2
            rw [eqD_iff.mpr this]
            exact wpAny_bind (wpAny_rule (wpAny_pure ⟨hh, tt, rfl, Le.refl _, rfl⟩))
          · simp only [Nd.siz] at hz'
            have R2 : Room A'.in1.in1 (5 * n + 1) := (R.mono (by omega : 5 * n + 3 ≤ _)).in1.in1
            refine wpAny_bind ((cmpT (A := A'.in1.in1) (W.k.keeps gl) (Nc.inst gl) (Nc2.inst gl) Y.eq.find Y.eq.isf (by have := R2.units; show _ < 9900; omega) (ih (by omega) shj (W.mono up) (Nc.mono up) (Nc2.mono up) (by omega) lle R2 fun h₇ t₉ l₇ => ⟨rfl, ?_⟩)).any)
            exact wpAny_truthy_bool ⟨h₇, t₉, rfl, l₇, rfl⟩
    · have e3 : (l == l' && (List.range vs.length).all fun j => eqD cs[j]? ds[j]?) = eqD (Nd.node l cs) (Nd.node l' ds) := by
        rw [lv, all_eqD ll]
        refine eqD_eq ?_
        rw [Bool.and_eq_true, beq_iff_eq, eqD_iff]
        exact ⟨fun ⟨a, b⟩ => by rw [a, b], fun e => by cases e; exact ⟨rfl, rfl⟩⟩
      rw [e3]
      exact k h₆ t₈ (fun b o e => le₆ b o (F.gw.all b o e))
end
end TL

end
section
open PySem PySem.W PyProof.Rows PySem.Calls Builtin Builtin.ObjectAttr
set_option maxRecDepth 100000
set_option linter.unusedVariables false
set_option linter.unusedSimpArgs false
set_option pp.deepTerms false
set_option pp.deepTerms.threshold 4
set_option pp.maxSteps 2000
namespace TL
open TL
local macro_rules | `(tactic| walk_at "at") => `(tactic| repeat (first | exact At.head | apply At.tail))
local macro_rules | `(tactic| walk_at "put") => `(tactic| repeat (first | exact Put.head | apply Put.tail))
local macro_rules | `(tactic| walk_at "m") => `(tactic| repeat (first | exact List.Mem.head _ | apply List.Mem.tail))
local macro_rules | `(tactic| walk_at "mput") => `(tactic| repeat (first | exact MPut.head | apply MPut.tail))
/-! plain instances -/
inductive Ent : List (Str × Value) → List DictEntry → Prop
  | nil : Ent [] []
  | cons {hs : Int} {nm : Str} {k : Tok} {v : Value} {kvs : List (Str × Value)} {es : List DictEntry} : Ent kvs es → Ent ((nm, v) :: kvs) (⟨hs, .str nm k, v⟩ :: es)
/-- a dict that binds kvs -/
def dO (kvs : List (Str × Value)) (od : Obj) : Prop := ∃ es n, od = dictOf es n ∧ Ent kvs es
theorem Ent.noRef {kvs : List (Str × Value)} {es : List DictEntry} (h : Ent kvs es) : es.any (·.refKey) = false := by
  induction h with
  | nil => rfl
  | cons _ ih => rw [List.any_cons, ih]; rfl
theorem Ent.get {kvs : List (Str × Value)} {es : List DictEntry} (h : Ent kvs es) (name : Str) : getL name es = some (kvs.lookup name) := by
  have nr := h.noRef
  unfold getL
  rw [nr]
  clear nr
  induction h with
  | nil => rfl
  | @cons hs nm k v kvs es _ ih =>
    by_cases q : nm = name
    · subst q
      have : (Value.str nm k).isStr nm = true := by simp [Value.isStr]
      simp [List.find?_cons, this, List.lookup_cons]
    · have h1 : (Value.str nm k).isStr name = false := by simp [Value.isStr, q]
      have h2 : (name == nm) = false := by simpa using (Ne.symm q)
      rw [List.find?_cons, h1, List.lookup_cons, h2]
      exact ih
theorem Ent.add {kvs : List (Str × Value)} {es : List DictEntry} (h : Ent kvs es) {name : Str} (hn : kvs.lookup name = none) (hs : Int) (k : Tok) (v : Value) : Ent (kvs ++ [(name, v)]) (putL name hs (.str name k) v es) := by
  induction h with
  | nil => exact .cons .nil
  | @cons hs' nm k' v' kvs es _ ih =>
    have q : nm ≠ name := fun e => by subst e; simp [List.lookup_cons] at hn
    have h2 : (name == nm) = false := by simpa using (Ne.symm q)
    have h1 : (Value.str nm k').isStr name = false := by simp [Value.isStr, q]
    rw [List.lookup_cons, h2] at hn
    simp only [putL, h1, Bool.false_eq_true, if_false]
    exact .cons (ih hn)
theorem dO.look {kvs : List (Str × Value)} {od : Obj} (L : dO kvs od) (name : Str) : lookIn name od = some (kvs.lookup name) := by
  obtain ⟨es, n, rfl, h⟩ := L
  rw [lookIn_dict]; exact h.get name
theorem dO.bare : dO [] emptyDict := ⟨[], _, rfl, .nil⟩
/-- a plain object -/
def plO (C dx : Addr) (o : Obj) : Prop := o = instObj C dx
theorem plO.inst {h : Heap} {C x dx : Addr} {od : Obj} (h1 : h.get? x = some (instObj C dx)) (h2 : h.get? dx = some od) : InstAt h x (instObj C dx) C (some od) := ⟨h1, rfl, rfl, h2⟩
section
variable {w : World} {A : Around} {env : Env} {S : List Addr} {g₀ h₀ g h : Heap} {μ μ' : Mu} {lc : Lc} {c : Shared} {t : Tok} {Q : Value → Shared → Prop} {K : Frag} {mg mb : Str → Option Value} {d : Ad} {m : Md} {pos p : Pos} {C x dx : Addr} {od : Obj} {kvs : List (Str × Value)} {name : Str} {v : Value}
theorem find_plain (T : PlainK K C) (hn : findIn K (.ref C) name = some none) (L : dO kvs od) (e : kvs.lookup name = some v) : findObj K C (some od) name = some (.value v) := by
  obtain ⟨cd, h1, h2, h3⟩ := T.cd
  unfold findObj
  rw [h1, Option.bind_some, hn]
  simp only [Option.bind_some]
  unfold PySem.W.ownOf
  rw [h3, if_pos rfl]
  dsimp only
  rw [L.look, e]
  rfl
/-- x.name, of its own dict -/
theorem get_plain {expr : Bool} (X : K.In h) (T : PlainK K C) (h1 : h.get? x = some (instObj C dx)) (h2 : h.get? dx = some od) (hn : findIn K (.ref C) name = some none) (L : dO kvs od) (e : kvs.lookup name = some v) (hh : handedIn v = true) (k : ∀ t', Q v (St c h t')) : Wp w A (getAttr (.ref x) name expr) Q (St c h t) :=
  ⟨get_value (s := St c h t) X (plO.inst h1 h2) T.ga (find_plain T hn L e) hh (k _)⟩
/-- x.name = v, a name not bound yet -/
theorem set_plainN {Q : Unit → Shared → Prop} (F : Fm env S g₀ h₀ g μ lc h) (X : K.In h) (T : PlainK K C) (h1 : h.get? x = some (instObj C dx)) (h2 : h.get? dx = some od) (hn : findIn K (.ref C) name = some none) (L : dO kvs od) (e : kvs.lookup name = none) (hz : kvs.length ≤ 100)
    (p : MPut μ dx (dO (kvs ++ [(name, v)])) μ') (k : ∀ h' t', Fm env S g₀ h₀ g μ' lc h' → Q () (St c h' t')) : Wp w A (setAttr (.ref x) name v) Q (St c h t) := by
  obtain ⟨cd, hc, hm, hh⟩ := T.cd
  have I := plO.inst h1 h2
  have po : plainOver K C = true := by unfold plainOver; rw [hc]; show onlyObject cd.mro = true; rw [hm]; rfl
  have ht : takerIn K C name = some none := by unfold takerIn; rw [hn]; rfl
  refine ⟨set_plain (s := St c h t) X I T.sa (osa_open (s := St c h (t + 1)) X I po ht fun b => ?_)⟩
  obtain ⟨es, n, rfl, E⟩ := L
  refine wpAny_bind (wpAny_pure (wpAny_bind (wpAny_bind (wpAny_loadPart h1 (wpAny_bind ((looks_clsIn X hc).at ?_))))))
  rw [hh]
  refine wpAny_pure (a := some dx) (wpAny_bind (wpAny_pure (wpAny_bind ?_)))
  unfold nsSet
  refine wpAny_bind (wpAny_bind (wpAny_askSetting (wpAny_pure (wpAny_bind (wpAny_mkText (wpAny_bind (wpAny_loadPart h2 ?_)))))))
  have c0 : (!es.toArray.any (·.key.isStr name) && es.toArray.any (·.refKey)) = false := by
    rw [← Array.any_toList, ← Array.any_toList]
    rw [show es.toArray.toList = es from rfl, E.noRef, Bool.and_false]
  show wpAny _ _ (if aRefKeyMayBeTheName name es.toArray = true then _ else _) _ _ _
  rw [aRefKeyMayBeTheName_at, c0]
  refine wpAny_updatePart h2 ?_
  have e1 : Obj.putName name (PyData.keyHash w.params name) (.str name (t + 1)) v (dictOf es n) = dictOf (putL name (PyData.keyHash w.params name) (.str name (t + 1)) v es) (PySem.W.putN name es n) := putName_dict ..
  have E' := E.add e (PyData.keyHash w.params name) (t + 1) v
  have live : (Obj.putName name (PyData.keyHash w.params name) (.str name (t + 1)) v (dictOf es n)).isFreed = false := by rw [e1]; rfl
  have D' := Heap.get?_update_self (Obj.putName name (PyData.keyHash w.params name) (.str name (t + 1)) v) h2 live
  have elen : ∀ {kvs : List (Str × Value)} {es : List DictEntry}, Ent kvs es → es.length = kvs.length := fun h => by
    induction h with
    | nil => rfl
    | cons _ ih => simp [ih]
  have zl := elen E'
  refine wpAny_bind (wpAny_lookBehind D' (by rw [e1]; exact pastItsLine_dict (by rw [List.size_toArray, zl, sizeLine_eq]; simp; omega)) ?_)
  exact wpAny_pure (k _ _ (F.upd p (Heap.SameBut.update ..) D' ⟨_, _, e1, E'⟩))
theorem canon_oga : (Manifest.canonical "object.__getattribute__" != "object.__getattribute__") = false := by decide +kernel
/-- a method met on a plain object -/
theorem mPl {f : Addr} {pl : Sem Bool} {Q : Value × List Value → Shared → Prop} {st : Stmt} (X : K.In h) (T : PlainK K C) (h1 : h.get? x = some (instObj C dx)) (h2 : h.get? dx = some od) (L : dO kvs od) (M : Mth K C f name st) (e : kvs.lookup name = none) (k : Q (.ref f, [.ref x]) (St c h t)) : Wp w A (getMethod (.ref x) name pl) Q (St c h t) := by
  have I := plO.inst h1 h2
  have L0 := I.type (M := model prg w)
  have L1 := looks_findIn (M := model prg w) X T.ga
  have L2 := looks_findIn (M := model prg w) X T.gm
  have L3 := looks_findIn (M := model prg w) X M.find
  have L4 := looks_typeIn (M := model prg w) X (beq_iff_eq.mp M.isf)
  refine ⟨?_⟩
  unfold getMethod specialOf
  refine wpAny_bind (wpAny_bind (L0.at (L1.at ?_)))
  try dsimp only
  rw [canon_oga, if_neg (by decide)]
  refine wpAny_bind (wpAny_bind (L0.at (L2.at ?_)))
  try dsimp only
  rw [if_neg (by decide)]
  refine wpAny_bind (wpAny_bind (L0.at (L3.at ?_)))
  try dsimp only
  refine wpAny_bind (L4.at ?_)
  rw [if_neg (by decide)]
  refine wpAny_bind (wpAny_loadPart h1 ?_)
  have LK := L.look name
  rw [e] at LK
  refine wpAny_bind (wpAny_bind (wpAny_loadPart h2 ?_))
  rw [nsLook_of LK]
  refine wpAny_pure ?_
  simp only [Option.isSome_none, Bool.false_eq_true, if_false]
  exact wpAny_bind (wpAny_rule (wpAny_pure k))
/-- a plain class called -/
theorem makeP {f : Addr} {st : Stmt} {vals : List Value} (X : K.In h) (T : PlainK K C) (M : Mth K C f "__init__" st) {n : Nat} (room : Room A (n + 1))
    (k : ∀ A', Room A' n → codeAny (model prg w) A' (.call (.ref f) ⟨.ref (h.objs.size + 1) :: vals, []⟩) (fun r s' => r = .ok (.ret .none) ∧ Q (.ref (h.objs.size + 1)) s') (St c ((h.push emptyDict).push (instObj C h.objs.size)) t)) :
    Wp w A (call (.ref C) vals) Q (St c h t) := by
  have hf := beq_iff_eq.mp M.isf
  refine ⟨wpAny_call (make_core (makes_of X T.makes) (looks_findIn X M.find) (fun self => bind_fn X self hf) (.inl rfl) ?_)⟩
  refine codeAny_mono (k _ ⟨room.1, ?_, ?_⟩) fun r s' z => ?_
  · have := room.2; show A.depth + 1 + 4 * n ≤ 990; omega
  · have := room.3; show A.units + 1 + 50 * n ≤ 9800; omega
  obtain ⟨rfl, z⟩ := z
  exact ⟨rfl, z⟩
end
end TL

end
section
open PySem PySem.W PyProof.Rows PySem.Calls Builtin Builtin.ObjectAttr
set_option maxRecDepth 100000
set_option linter.unusedVariables false
set_option linter.unusedSimpArgs false
set_option pp.deepTerms false
set_option pp.deepTerms.threshold 4
set_option pp.maxSteps 2000
namespace TL
open TL
local macro_rules | `(tactic| walk_at "at") => `(tactic| repeat (first | exact At.head | apply At.tail))
local macro_rules | `(tactic| walk_at "put") => `(tactic| repeat (first | exact Put.head | apply Put.tail))
local macro_rules | `(tactic| walk_at "m") => `(tactic| repeat (first | exact List.Mem.head _ | apply List.Mem.tail))
local macro_rules | `(tactic| walk_at "mput") => `(tactic| repeat (first | exact MPut.head | apply MPut.tail))
inductive All2 {α β : Type} (R : α → β → Prop) : List α → List β → Prop
  | nil : All2 R [] []
  | cons {a : α} {b : β} {as : List α} {bs : List β} : R a b → All2 R as bs → All2 R (a :: as) (b :: bs)
theorem All2.imp {α β : Type} {R R' : α → β → Prop} {as : List α} {bs : List β} (h : All2 R as bs) (i : ∀ a b, R a b → R' a b) : All2 R' as bs := by
  induction h with
  | nil => exact .nil
  | cons a _ ih => exact .cons (i _ _ a) ih
theorem All2.app {α β : Type} {R : α → β → Prop} {as as' : List α} {bs bs' : List β} (h : All2 R as bs) (h' : All2 R as' bs') : All2 R (as ++ as') (bs ++ bs') := by
  induction h with
  | nil => exact h'
  | cons a _ ih => exact .cons a ih
theorem All2.len {α β : Type} {R : α → β → Prop} {as : List α} {bs : List β} (h : All2 R as bs) : as.length = bs.length := by
  induction h with
  | nil => rfl
  | cons _ _ ih => simp [ih]
theorem All2.at {α β : Type} {R : α → β → Prop} {as : List α} {bs : List β} (h : All2 R as bs) : ∀ {i : Nat} {a : α}, as[i]? = some a → ∃ b, bs[i]? = some b ∧ R a b := by
  induction h with
  | nil => intro i a e; simp at e
  | cons r _ ih =>
    intro i a e
    cases i with
    | zero => simp at e; subst e; exact ⟨_, rfl, r⟩
    | succ i => simpa using ih (by simpa using e)
theorem All2.get {α β : Type} {R : α → β → Prop} {as : List α} {bs : List β} (h : All2 R as bs) : ∀ {i : Nat} {b : β}, bs[i]? = some b → ∃ a, as[i]? = some a ∧ R a b := by
  induction h with
  | nil => intro i a e; simp at e
  | cons r _ ih =>
    intro i a e
    cases i with
    | zero => simp at e; subst e; exact ⟨_, rfl, r⟩
    | succ i => simpa using ih (by simpa using e)
/-- what stands right in a rule -/
inductive Sy
  | w (s : Str)
  | n (l : Str)
def syN : Nd → Sy
  | .leaf s => .w s
  | .node l _ => .n l
mutual
def rulesN : Nd → List (Str × List Sy)
  | .leaf _ => []
  | .node l cs => (l, cs.map syN) :: rulesL cs
def rulesL : List Nd → List (Str × List Sy)
  | [] => []
  | c :: cs => rulesN c ++ rulesL cs
end
theorem rulesL_app : ∀ a b : List Nd, rulesL (a ++ b) = rulesL a ++ rulesL b
  | [], b => by simp [rulesL]
  | c :: a, b => by simp [rulesL, rulesL_app a b]
mutual
theorem rulesN_len : ∀ n : Nd, (rulesN n).length ≤ n.siz
  | .leaf _ => by simp [rulesN, Nd.siz]
  | .node l cs => by have := rulesL_len cs; simp only [rulesN, Nd.siz, List.length_cons]; omega
theorem rulesL_len : ∀ cs : List Nd, (rulesL cs).length ≤ sizs cs
  | [] => by simp [rulesL, sizs]
  | c :: cs => by have := rulesN_len c; have := rulesL_len cs; simp only [rulesL, sizs, List.length_append]; omega
end
def NtO (g : Heap) (N : Addr) (v : Value) (l : Str) : Prop := ∃ x dx od u, v = .ref x ∧ g.get? x = some (instObj N dx) ∧ g.get? dx = some od ∧ dO [("_symbol", .str l u)] od
def SyO (g : Heap) (N : Addr) (v : Value) : Sy → Prop
  | .w s => ∃ u, v = .str s u
  | .n l => NtO g N v l
def PrO (g : Heap) (d : Ad) (v : Value) (r : Str × List Sy) : Prop := ∃ x dx od vl tp rs, v = .ref x ∧ g.get? x = some (instObj d.prod dx) ∧ g.get? dx = some od ∧ dO [("_lhs", vl), ("_rhs", .ref tp)] od ∧ NtO g d.nont vl r.1 ∧ g.IsTuple tp rs.toArray ∧ All2 (SyO g d.nont) rs r.2
theorem NtO.mono {g g' : Heap} {N : Addr} {v : Value} {l : Str} (x : NtO g N v l) (le : Le g g') : NtO g' N v l := let ⟨a, b, od, u, e, h1, h2, h3⟩ := x; ⟨a, b, od, u, e, le _ _ h1, le _ _ h2, h3⟩
theorem SyO.mono {g g' : Heap} {N : Addr} {v : Value} {s : Sy} (x : SyO g N v s) (le : Le g g') : SyO g' N v s := by
  cases s with
  | w s => exact x
  | n l => exact NtO.mono x le
theorem PrO.mono {g g' : Heap} {d : Ad} {v : Value} {r : Str × List Sy} (x : PrO g d v r) (le : Le g g') : PrO g' d v r :=
  let ⟨a, b, od, vl, tp, rs, e, h1, h2, h3, h4, h5, h6⟩ := x
  ⟨a, b, od, vl, tp, rs, e, le _ _ h1, le _ _ h2, h3, h4.mono le, h5.up le, h6.imp fun _ _ z => z.mono le⟩
section
variable {w : World} {A : Around} {env : Env} {S : List Addr} {g₀ h₀ g h : Heap} {μ μ' : Mu} {lc : Lc} {c : Shared} {t : Tok} {Q : Value → Shared → Prop} {K : Frag} {mg mb : Str → Option Value} {d : Ad} {m : Md} {pos p : Pos}
/-! Nonterminal -/
theorem okNinit : okFn (meth 2 0) [Str.ofString "self", Str.ofString "symbol"] [] = true := by decide +kernel
theorem ninit_spec (Y : TM K d m) (W : Wg K mg mb g) {x dx : Addr} {l : Str} {u : Tok} {R : Result → Shared → Prop} (le : Le g h) (room : Room A 1) (hx : h.get? x = some (instObj d.nont dx)) (hd : h.get? dx = some emptyDict) (gx : g.get? x = none) (gd : g.get? dx = none) (hne : x ≠ dx)
    (k : ∀ h' t' od', Gw [x, dx] g h g h' → h'.get? x = some (instObj d.nont dx) → h'.get? dx = some od' → dO [("_symbol", .str l u)] od' → R (.ok (.ret .none)) (St c h' t')) : codeAny (model prg w) A (.call (.ref m.ninit) ⟨[.ref x, .str l u], []⟩) R (St c h t) := by
  refine code_fn [Str.ofString "self", Str.ofString "symbol"] [] (S := [x, dx]) W Y.ninit.fn le room okNinit (fun _ _ _ _ _ _ _ => rfl) rfl fun env h₁ t₁ A' R esc ecl hk ht F => ?_
  have F := F.own1 (P := dO []) (hk _ _ hd) dO.bare (.tail _ (.head _)) gd (F.notL hd) (fun p hp => nomatch hp)
  have F := F.own1 (P := plO d.nont dx) (hk _ _ hx) rfl (.head _) gx (F.notL hx) (fun p hp => by rw [List.mem_singleton.mp hp]; exact Ne.symm hne)
  dsimp only [mkLc, List.map] at F
  refine xSetAttr (ld F (by walk_at "at") (ld F (by walk_at "at") ?_))
  refine set_plainN F (F.kin W) Y.nont (hk _ _ hx) (hk _ _ hd) Y.sym0 dO.bare rfl (by decide) (by walk_at "mput") fun h₂ t₂ F => xNil ?_
  obtain ⟨ox', hx', ho', _⟩ := F.has (P := plO d.nont dx) (a := x) (by walk_at "m")
  obtain ⟨od', hd', hod', _⟩ := F.has (P := dO ([] ++ [(Str.ofString "_symbol", .str l u)])) (a := dx) (by walk_at "m")
  exact k _ _ _ F.drop1.drop1.gw (ho' ▸ hx') hd' hod'
theorem pushes (F : Fm env S g₀ h₀ g μ lc h) (C : Addr) : Fm env S g₀ h₀ g ((h.objs.size + 1, plO C h.objs.size) :: (h.objs.size, fun o => o = emptyDict) :: μ) lc ((h.push emptyDict).push (instObj C h.objs.size)) := by
  have F₁ := F.push (o := emptyDict) (P := fun o => o = emptyDict) rfl rfl
  have F₂ := F₁.push (o := instObj C h.objs.size) (P := plO C h.objs.size) rfl rfl
  rwa [Heap.size_push] at F₂
theorem cNt (Y : TM K d m) (F : Fm env S g₀ h₀ g μ lc h) (W : Wg K mg mb g₀) {l : Str} {u : Tok} (room : Room A 2) (k : ∀ g' h' t' v, Fm env S g₀ h₀ g' μ lc h' → Le g g' → NtO g' d.nont v l → Q v (St c h' t')) : Wp w A (call (.ref d.nont) [.str l u]) Q (St c h t) := by
  refine makeP (F.kin W) Y.nont Y.ninit (n := 1) room fun A' R => ?_
  have F₂ := pushes F d.nont
  obtain ⟨ox, hx, ho, gx⟩ := F₂.has (.head _)
  obtain ⟨od, hd, hod, gd⟩ := F₂.has (.tail _ (.head _))
  cases ho
  subst hod
  have nn := F₂.mu _ (.head _)
  refine ninit_spec Y (W.mono F.gw.le) F₂.gw.sub R hx hd gx gd (Nat.succ_ne_self _) fun h' t' od' G e1 e2 e3 => ⟨rfl, ?_⟩
  have nd := F₂.ndm
  simp only [List.map_cons, List.nodup_cons, List.mem_cons, not_or] at nd
  have hn1 : h₀.get? (h.objs.size + 1) = none := F.gw.live _ (by
    cases q : h.get? (h.objs.size + 1) with
    | none => rfl
    | some o => exact absurd (Heap.lt_size q) (Nat.not_lt.mpr (Nat.le_succ _)))
  have hn2 : h₀.get? h.objs.size = none := F.gw.live _ (none_size h)
  have F₃ : Fm env S g₀ h₀ g ((h.objs.size + 1, plO d.nont h.objs.size) :: (h.objs.size, dO [("_symbol", .str l u)]) :: μ) lc h' := F₂.callG G (fun a ha => by
    simp only [List.mem_cons, List.not_mem_nil, or_false] at ha
    rcases ha with rfl | rfl <;> simp) rfl fun p hp => by
    rcases List.mem_cons.mp hp with rfl | hp
    · exact .inr ⟨_, e1, rfl⟩
    rcases List.mem_cons.mp hp with rfl | hp
    · exact .inr ⟨_, e2, e3⟩
    · refine .inl ⟨fun z => ?_, .tail _ (.tail _ hp)⟩
      simp only [List.mem_cons, List.not_mem_nil, or_false] at z
      have hm := List.mem_map_of_mem (f := (·.1)) hp
      rcases z with z | z
      · exact nd.1.2 (z ▸ hm)
      · exact nd.2.1 (z ▸ hm)
  obtain ⟨g₁, o1, F₄, le₁, q1, rfl⟩ := F₃.frz hn1
  obtain ⟨g₂, o2, F₅, le₂, q2, q3⟩ := F₄.frz hn2
  exact k g₂ h' t' _ F₅ (le₁.trans le₂) ⟨_, _, o2, u, rfl, le₂ _ _ q1, q2, q3⟩
theorem okSymbol : okFn (meth 2 1) [Str.ofString "self"] [] = true := by decide +kernel
theorem symbol_spec (Y : TM K d m) (W : Wg K mg mb g) {v : Value} {l : Str} (N : NtO g d.nont v l) (le : Le g h) (room : Room A 1) (k : ∀ h' t' u, Gw [] g h g h' → Q (.str l u) (St c h' t')) : Wp w A (call (.ref m.symbol) [v]) Q (St c h t) := by
  obtain ⟨x, dx, od, u, rfl, h1, h2, L⟩ := N
  refine call_fn [Str.ofString "self"] [] (S := []) W Y.symbol.fn le room okSymbol (fun _ _ _ _ _ _ _ => rfl) rfl fun env h₁ t₁ A' R esc ecl hk ht F => ?_
  dsimp only [mkLc, List.map] at F
  refine xRet (eAttr (ld F (by walk_at "at") ?_))
  exact get_plain (F.kin W) Y.nont (F.gw.sub _ _ h1) (F.gw.sub _ _ h2) Y.sym0 L rfl rfl fun t' => k _ _ _ F.gw
/-! Production -/
def psPinit : List Str := ["self", "lhs", "rhs"]
theorem okPinit : okFn (meth 3 0) psPinit [] = true := by decide +kernel
theorem gpi_isi : Gl (scopeOf (meth 3 0)) (Str.ofString "isinstance") := by decide +kernel
theorem gpi_str : Gl (scopeOf (meth 3 0)) (Str.ofString "str") := by decide +kernel
theorem gpi_tuple : Gl (scopeOf (meth 3 0)) (Str.ofString "tuple") := by decide +kernel
theorem pinit_spec (X : Wk K mg mb d) (Y : TM K d m) (W : Wg K mg mb g) {x dx l : Addr} {vl : Value} {rs : List Value} {R : Result → Shared → Prop} (le : Le g h) (room : Room A 2) (hx : h.get? x = some (instObj d.prod dx)) (hd : h.get? dx = some emptyDict) (gx : g.get? x = none) (gd : g.get? dx = none) (hne : x ≠ dx) (hl : g.IsList l rs.toArray) (hz : rs.length ≤ 100000) (hv : handedIn vl = true)
    (k : ∀ g' h' t' od' tp, Gw [x, dx] g h g' h' → h'.get? x = some (instObj d.prod dx) → h'.get? dx = some od' → dO [("_lhs", vl), ("_rhs", .ref tp)] od' → g'.IsTuple tp rs.toArray → R (.ok (.ret .none)) (St c h' t')) : codeAny (model prg w) A (.call (.ref m.pinit) ⟨[.ref x, vl, .ref l], []⟩) R (St c h t) := by
  refine code_fn psPinit [] (S := [x, dx]) W Y.pinit.fn le room okPinit (fun _ _ _ _ _ _ _ => rfl) rfl fun env h₁ t₁ A' R esc ecl hk ht F => ?_
  have F := F.own1 (P := dO []) (hk _ _ hd) dO.bare (.tail _ (.head _)) gd (F.notL hd) (fun p hp => nomatch hp)
  have F := F.own1 (P := plO d.prod dx) (hk _ _ hx) rfl (.head _) gx (F.notL hx) (fun p hp => by rw [List.mem_singleton.mp hp]; exact Ne.symm hne)
  dsimp only [psPinit, mkLc, List.map] at F
  refine xIf (tVal (eCallB F W (esc ▸ gpi_isi) X.isi (sCons (ld F (by walk_at "at") (sCons (ldB F W (esc ▸ gpi_str) X.str (sNil ?_)))))))
  refine isiGo (let ⟨o, a, b, _⟩ := F.gl' hl; (says_list_str a b).at0) fun t₂ => tBool (xNil ?_)
  refine xSetAttr (ld F (by walk_at "at") (ld F (by walk_at "at") ?_))
  refine set_plainN F (F.kin W) Y.prod (hk _ _ hx) (hk _ _ hd) Y.lhs0 dO.bare rfl (by decide) (by walk_at "mput") fun h₂ t₂ F => ?_
  refine xSetAttr (eCallT F W (esc ▸ gpi_tuple) X.tuple (sCons (ld F (by walk_at "at") (sNil ?_))))
  refine ⟨call_tuple_list (s := St c h₂ t₂) (F.gl' hl) (fun h₃ up => ?_) (by simp [sizeLine_eq]; omega)⟩
  have F := F.ext up
  obtain ⟨g₁, F, le₁, q1⟩ := F.made (o := { cls := .type "tuple", data := .seq rs.toArray }) rfl
  refine ld F (by walk_at "at") ?_
  obtain ⟨ox', hx', ho', _⟩ := F.has (P := plO d.prod dx) (a := x) (by walk_at "m")
  obtain ⟨od', hd', hod', _⟩ := F.has (P := dO ([] ++ [(Str.ofString "_lhs", vl)])) (a := dx) (by walk_at "m")
  refine set_plainN F (F.kin W) Y.prod (ho' ▸ hx') hd' Y.rhs0 hod' (by kernel_rfl) (by simp) (by walk_at "mput") fun h₄ t₄ F => xNil ?_
  obtain ⟨ox', hx', ho', _⟩ := F.has (P := plO d.prod dx) (a := x) (by walk_at "m")
  obtain ⟨od', hd', hod', _⟩ := F.has (P := dO ([] ++ [(Str.ofString "_lhs", vl)] ++ [(Str.ofString "_rhs", .ref h₃.objs.size)])) (a := dx) (by walk_at "m")
  exact k _ _ _ _ _ F.drop1.drop1.gw (ho' ▸ hx') hd' hod' ⟨_, q1, rfl, _, rfl⟩
theorem cPr (X : Wk K mg mb d) (Y : TM K d m) (F : Fm env S g₀ h₀ g μ lc h) (W : Wg K mg mb g₀) {l : Addr} {vl : Value} {lb : Str} {rs : List Value} {sy : List Sy} (N : NtO g d.nont vl lb) (hl : g.IsList l rs.toArray) (hs : All2 (SyO g d.nont) rs sy) (hz : rs.length ≤ 100000) (room : Room A 3)
    (k : ∀ g' h' t' v, Fm env S g₀ h₀ g' μ lc h' → Le g g' → PrO g' d v (lb, sy) → Q v (St c h' t')) : Wp w A (call (.ref d.prod) [vl, .ref l]) Q (St c h t) := by
  refine makeP (F.kin W) Y.prod Y.pinit (n := 2) room fun A' R => ?_
  have F₂ := pushes F d.prod
  obtain ⟨ox, hx, ho, gx⟩ := F₂.has (.head _)
  obtain ⟨od, hd, hod, gd⟩ := F₂.has (.tail _ (.head _))
  cases ho
  subst hod
  have hv : handedIn vl = true := by obtain ⟨x, dx, od, u, rfl, _⟩ := N; rfl
  refine pinit_spec X Y (W.mono F.gw.le) F₂.gw.sub R hx hd gx gd (Nat.succ_ne_self _) hl hz hv fun g' h' t' od' tp G e1 e2 e3 e4 => ⟨rfl, ?_⟩
  have nd := F₂.ndm
  simp only [List.map_cons, List.nodup_cons, List.mem_cons, not_or] at nd
  have hn1 : h₀.get? (h.objs.size + 1) = none := F.gw.live _ (by
    cases q : h.get? (h.objs.size + 1) with
    | none => rfl
    | some o => exact absurd (Heap.lt_size q) (Nat.not_lt.mpr (Nat.le_succ _)))
  have hn2 : h₀.get? h.objs.size = none := F.gw.live _ (none_size h)
  have F₃ : Fm env S g₀ h₀ g' ((h.objs.size + 1, plO d.prod h.objs.size) :: (h.objs.size, dO [("_lhs", vl), ("_rhs", .ref tp)]) :: μ) lc h' := F₂.callG G (fun a ha => by
    simp only [List.mem_cons, List.not_mem_nil, or_false] at ha
    rcases ha with rfl | rfl <;> simp) rfl fun p hp => by
    rcases List.mem_cons.mp hp with rfl | hp
    · exact .inr ⟨_, e1, rfl⟩
    rcases List.mem_cons.mp hp with rfl | hp
    · exact .inr ⟨_, e2, e3⟩
    · refine .inl ⟨fun z => ?_, .tail _ (.tail _ hp)⟩
      simp only [List.mem_cons, List.not_mem_nil, or_false] at z
      have hm := List.mem_map_of_mem (f := (·.1)) hp
      rcases z with z | z
      · exact nd.1.2 (z ▸ hm)
      · exact nd.2.1 (z ▸ hm)
  obtain ⟨g₁, o1, F₄, le₁, q1, rfl⟩ := F₃.frz hn1
  obtain ⟨g₂, o2, F₅, le₂, q2, q3⟩ := F₄.frz hn2
  have up := (G.le.trans le₁).trans le₂
  exact k g₂ h' t' _ F₅ up ⟨_, _, o2, vl, tp, rs, rfl, le₂ _ _ q1, q2, q3, N.mono up, e4.up (le₁.trans le₂), hs.imp fun _ _ z => z.mono up⟩
theorem okLhs : okFn (meth 3 1) [Str.ofString "self"] [] = true := by decide +kernel
theorem okRhs : okFn (meth 3 2) [Str.ofString "self"] [] = true := by decide +kernel
theorem lhs_spec (Y : TM K d m) (W : Wg K mg mb g) {v : Value} {r : Str × List Sy} (N : PrO g d v r) (le : Le g h) (room : Room A 1) (k : ∀ h' t' vl, Gw [] g h g h' → NtO g d.nont vl r.1 → Q vl (St c h' t')) : Wp w A (call (.ref m.lhs) [v]) Q (St c h t) := by
  obtain ⟨x, dx, od, vl, tp, rs, rfl, h1, h2, L, hn, _⟩ := N
  refine call_fn [Str.ofString "self"] [] (S := []) W Y.lhs.fn le room okLhs (fun _ _ _ _ _ _ _ => rfl) rfl fun env h₁ t₁ A' R esc ecl hk ht F => ?_
  dsimp only [mkLc, List.map] at F
  refine xRet (eAttr (ld F (by walk_at "at") ?_))
  exact get_plain (F.kin W) Y.prod (F.gw.sub _ _ h1) (F.gw.sub _ _ h2) Y.lhs0 L rfl (by obtain ⟨x, dx, od, u, rfl, _⟩ := hn; rfl) fun t' => k _ _ _ F.gw hn
theorem rhs_spec (Y : TM K d m) (W : Wg K mg mb g) {v : Value} {r : Str × List Sy} (N : PrO g d v r) (le : Le g h) (room : Room A 1) (k : ∀ h' t' tp rs, Gw [] g h g h' → g.IsTuple tp rs.toArray → All2 (SyO g d.nont) rs r.2 → Q (.ref tp) (St c h' t')) : Wp w A (call (.ref m.rhs) [v]) Q (St c h t) := by
  obtain ⟨x, dx, od, vl, tp, rs, rfl, h1, h2, L, hn, ht, hs⟩ := N
  refine call_fn [Str.ofString "self"] [] (S := []) W Y.rhs.fn le room okRhs (fun _ _ _ _ _ _ _ => rfl) rfl fun env h₁ t₁ A' R esc ecl hk ht' F => ?_
  dsimp only [mkLc, List.map] at F
  refine xRet (eAttr (ld F (by walk_at "at") ?_))
  exact get_plain (F.kin W) Y.prod (F.gw.sub _ _ h1) (F.gw.sub _ _ h2) Y.rhs0 L (by rfl) rfl fun t' => k _ _ _ rs F.gw ht hs
end
end TL

end
section
open PySem PySem.W PyProof.Rows PySem.Calls Builtin Builtin.ObjectAttr
set_option maxRecDepth 100000
set_option linter.unusedVariables false
set_option linter.unusedSimpArgs false
set_option pp.deepTerms false
set_option pp.deepTerms.threshold 4
set_option pp.maxSteps 2000
namespace TL
open TL
local macro_rules | `(tactic| walk_at "at") => `(tactic| repeat (first | exact At.head | apply At.tail))
local macro_rules | `(tactic| walk_at "put") => `(tactic| repeat (first | exact Put.head | apply Put.tail))
local macro_rules | `(tactic| walk_at "m") => `(tactic| repeat (first | exact List.Mem.head _ | apply List.Mem.tail))
local macro_rules | `(tactic| walk_at "mput") => `(tactic| repeat (first | exact MPut.head | apply MPut.tail))
theorem Str.ext_list {a b : Str} (h : a.cps.toList = b.cps.toList) : a = b := by
  cases a with | mk a => cases b with | mk b => exact congrArg Str.mk (Array.toList_inj.mp h)
theorem Str.list_app (a b : Str) : (a ++ b).cps.toList = a.cps.toList ++ b.cps.toList := by show (Str.append a b).cps.toList = _; simp [Str.append]
theorem Str.app_assoc (a b c : Str) : (a ++ b) ++ c = a ++ (b ++ c) := Str.ext_list (by simp [Str.list_app])
theorem join_list : ∀ xs : List Str, (Txt.join "" xs).cps.toList = (xs.map fun x => x.cps.toList).flatten := by
  intro xs
  show (Builtin.Str.glued _ xs).cps.toList = _
  rw [StrLaws.glued_eq_join]
  have e : (Str.ofString "").cps.toList = [] := by decide +kernel
  induction xs with
  | nil => rfl
  | cons x r ih =>
    cases r with
    | nil => simp [Str.join]
    | cons y r =>
      show (x ++ Str.ofString "" ++ Str.join (Str.ofString "") (y :: r)).cps.toList = _
      rw [Str.list_app, Str.list_app, ih, e]; simp
theorem join_snoc (xs : List Str) (x : Str) : Txt.join "" (xs ++ [x]) = Txt.join "" xs ++ x := Str.ext_list (by rw [Str.list_app, join_list, join_list]; simp)
section
variable {w : World} {A : Around} {env : Env} {S : List Addr} {g₀ h₀ g h : Heap} {μ μ' : Mu} {lc : Lc} {c : Shared} {t : Tok} {Q : Value → Shared → Prop} {K : Frag} {mg mb : Str → Option Value} {d : Ad} {m : Md} {pos p : Pos}
/-! _child_names -/
def osChild : List Str := ["names", "child"]
theorem okChild : okFn (stI 6) [Str.ofString "tree"] osChild = true := by decide +kernel
theorem glc_isi : Gl (scopeOf (stI 6)) (Str.ofString "isinstance") := by decide +kernel
theorem glc_tree : Gl (scopeOf (stI 6)) (Str.ofString "Tree") := by decide +kernel
theorem glc_nont : Gl (scopeOf (stI 6)) (Str.ofString "Nonterminal") := by decide +kernel
theorem child_spec (X : Wk K mg mb d) (Y : TM K d m) (W : Wg K mg mb g) {x dx : Addr} {ox od : Obj} {l : Str} {vs : List Value} {cs : List Nd} (N : TrN g d.tree x dx ox od l vs cs) (hz : sizs cs ≤ 10000) (le : Le g h) (room : Room A 4)
    (k : ∀ g' h' t' r rs, Gw [] g h g' h' → g'.IsList r rs.toArray → All2 (SyO g' d.nont) rs (cs.map syN) → Q (.ref r) (St c h' t')) : Wp w A (call (.ref d.child) [.ref x]) Q (St c h t) := by
  refine call_fn [Str.ofString "tree"] osChild (S := []) W X.child.2 le room okChild (fun _ _ _ _ _ _ _ => rfl) rfl fun env h₁ t₁ A' R esc ecl hk ht F => ?_
  dsimp only [osChild, mkLc, List.map] at F
  have lv := N.c_.len
  have zc := len_sizs cs
  refine xAsg (eList (sNil (nLstM F (Nat.zero_le _) fun rl h₂ hrl F => ?_)))
  refine stL F (by walk_at "put") fun h₃ t₃ F => ?_
  refine xFor (ld F (by walk_at "at") ?_)
  refine iTreeF (F.kin W) Y.tree F (N.mono F.gw.sub) fun I h₄ t₄ hI F => ?_
  refine floop (σ := List Value) (P := litr x) (n := vs.length) (V := fun i v => vs[i]? = some v) (μI := fun a => [(rl, lst a)]) (lcI := fun a o => [(Str.ofString "tree", some (.ref x)), (Str.ofString "names", some (.ref rl)), (Str.ofString "child", o)])
    [] none (fun i a g => All2 (SyO g d.nont) a ((cs.take i).map syN)) R.handled F hI (itrSq N.sq) (by simpa using All2.nil) (fun a o v => by walk_at "put") ?_ ?_
  · intro i vi a g' h' t' hi hv l' inv F
    obtain ⟨ci, hci, ti⟩ := N.c_.at hv
    have etake : (cs.take (i + 1)).map syN = (cs.take i).map syN ++ [syN ci] := by rw [List.take_add_one, hci]; simp
    have ilen := inv.len
    rw [List.length_map, List.length_take] at ilen
    refine xIf (tVal (eCallB F W (esc ▸ glc_isi) X.isi (sCons (ld F (by walk_at "at") (sCons (ldG F W (esc ▸ glc_tree) X.treeC (sNil ?_)))))))
    cases ci with
    | leaf s =>
      obtain ⟨u, rfl⟩ := ti.of_leaf
      refine isiGo (says_str_cls (F.kin W) Y.notS).at0 fun t₅ => tBool ?_
      refine xExpr F.kf (eMeth rfl rfl (by decide) (ld F (by walk_at "at") (mLst F (l := rl) (vs := a) (by walk_at "m") slAppend tyAppend (cwB (sCons (ld F (by walk_at "at") (sNil ?_)))))))
      refine cAppend F (l := rl) (vs := a) (v := .str s u) (by walk_at "m") (by walk_at "mput") (zL (by omega)) fun h₅ F => xNil (xNil ?_)
      refine Turn.next (g' := g') (a ++ [.str s u]) (some (.str s u)) ?_ ?_ ?_
      · exact Le.refl _
      · exact F
      · rw [etake]
        exact inv.app (.cons ⟨u, rfl⟩ .nil)
    | node lc' ds =>
      obtain ⟨xc, dxc, oxc, odc, vsc, rfl, Nc⟩ := ti.of_node
      refine isiGo (says_self (F.kin W) (Nc.inst (l'.trans F.gw.sub))).at0 fun t₅ => tBool ?_
      refine xExpr F.kf (eMeth rfl rfl (by decide) (ld F (by walk_at "at") (mLst F (l := rl) (vs := a) (by walk_at "m") slAppend tyAppend (cwB (sCons (eCallC F W (esc ▸ glc_nont) X.nontC Y.keepN (sCons (eAttr (ld F (by walk_at "at") ?_)))))))))
      refine get_lbl (F.kin W) Y.tree (Nc.inst (l'.trans F.gw.sub)) Nc.l_ fun u₂ t₆ => sNil ⟨F.kin W, ?_⟩
      refine cNt Y F W (R.mono (by omega)) fun g₅ h₅ t₇ v₅ F le₅ nt => sNil ?_
      refine cAppend F (l := rl) (vs := a) (v := v₅) (by walk_at "m") (by walk_at "mput") (zL (by omega)) fun h₆ F => xNil (xNil ?_)
      refine Turn.next (g' := g₅) (a ++ [v₅]) (some (.ref xc)) ?_ ?_ ?_
      · exact le₅
      · exact F
      · rw [etake]
        exact (inv.imp fun _ _ z => z.mono le₅).app (.cons nt .nil)
  · intro a o g' h' t' l' inv F
    refine xRet (ld F (by walk_at "at") ?_)
    obtain ⟨g₃, oD, F, le₃, eD, nD, hoD⟩ := F.frz hrl
    rw [List.take_of_length_le (by omega)] at inv
    exact k _ _ _ _ a F.gw ⟨oD, eD, by rw [hoD], nD, by rw [hoD]⟩ (inv.imp fun _ _ z => z.mono le₃)
/-! productions -/
def osProds : List Str := ["prods", "child"]
theorem okProds : okFn (meth 5 16) psSelf osProds = true := by decide +kernel
theorem glr_isi : Gl (scopeOf (meth 5 16)) (Str.ofString "isinstance") := by decide +kernel
theorem glr_str : Gl (scopeOf (meth 5 16)) (Str.ofString "str") := by decide +kernel
theorem glr_tree : Gl (scopeOf (meth 5 16)) (Str.ofString "Tree") := by decide +kernel
theorem glr_prod : Gl (scopeOf (meth 5 16)) (Str.ofString "Production") := by decide +kernel
theorem glr_nont : Gl (scopeOf (meth 5 16)) (Str.ofString "Nonterminal") := by decide +kernel
theorem glr_child : Gl (scopeOf (meth 5 16)) (Str.ofString "_child_names") := by decide +kernel
theorem prods_spec (X : Wk K mg mb d) (Y : TM K d m) : ∀ (n : Nat) {A : Around} {g h : Heap} {t : Tok} {x dx : Addr} {ox od : Obj} {l : Str} {vs : List Value} {cs : List Nd} {Q : Value → Shared → Prop}, (Nd.node l cs).dep ≤ n → Wg K mg mb g → TrN g d.tree x dx ox od l vs cs → sizs cs ≤ 10000 → Le g h → Room A (n + 6) →
    (∀ g' h' t' r ps, Gw [] g h g' h' → g'.IsList r ps.toArray → All2 (PrO g' d) ps (rulesN (.node l cs)) → Q (.ref r) (St c h' t')) → Wp w A (call (.ref m.prods) [.ref x]) Q (St c h t) := by
  intro n
  induction n with
  | zero => intro A g h t x dx ox od l vs cs Q hd; simp [Nd.dep] at hd
  | succ n ih =>
    intro A g h t x dx ox od l vs cs Q hd W N hz le room k
    refine call_fn psSelf osProds (S := []) (n := n + 6) W Y.prods.fn le room okProds (fun _ _ _ _ _ _ _ => rfl) rfl fun env h₁ t₁ A' R esc ecl hk ht F => ?_
    dsimp only [psSelf, osProds, mkLc, List.map] at F
    have lv := N.c_.len
    have zc := len_sizs cs
    refine xIf (tNot (tVal (eCallB F W (esc ▸ glr_isi) X.isi (sCons (eAttr (ld F (by walk_at "at") ?_))))))
    refine get_lbl (F.kin W) Y.tree (N.inst F.gw.sub) N.l_ fun u₀ t₂ => ?_
    refine sCons (ldB F W (esc ▸ glr_str) X.str (sNil (isiGo says_str.at0 fun t₃ => tBool (xNil ?_))))
    refine xAsg (eList (sCons (eCallC F W (esc ▸ glr_prod) X.prodC Y.keepP (sCons (eCallC F W (esc ▸ glr_nont) X.nontC Y.keepN (sCons (eAttr (ld F (by walk_at "at") ?_))))))))
    refine get_lbl (F.kin W) Y.tree (N.inst F.gw.sub) N.l_ fun u₁ t₄ => sNil ⟨F.kin W, ?_⟩
    refine cNt Y F W (R.mono (by omega)) fun g₁ h₂ t₅ v₁ F le₁ nt => ?_
    refine sCons (eCallF F W (esc ▸ glr_child) X.child (sCons (ld F (by walk_at "at") (sNil ⟨F.kin W, ?_⟩))))
    refine child_spec X Y (W.mono F.gw.le) (N.mono le₁) (by omega) F.gw.sub (R.mono (by omega)) fun g₂ h₃ t₆ r rs G hr hrs => sNil ⟨(F.call G).kin W, ?_⟩
    have F := F.call G
    have rlen := hrs.len
    rw [List.length_map] at rlen
    refine cPr X Y F W (nt.mono G.le) hr hrs (by omega) (R.mono (by omega)) fun g₃ h₄ t₇ v₂ F le₃ pr => sNil ?_
    refine nLstM F (zL (Nat.le_add_left 1 99999)) fun rl h₅ hrl F => ?_
    refine stL F (by walk_at "put") fun h₆ t₈ F => ?_
    have up3 := (le₁.trans G.le).trans le₃
    refine xFor (ld F (by walk_at "at") ?_)
    refine iTreeF (F.kin W) Y.tree F (N.mono (up3.trans F.gw.sub)) fun I h₇ t₉ hI F => ?_
    refine floop (σ := List Value) (P := litr x) (n := vs.length) (V := fun i v => vs[i]? = some v) (μI := fun a => [(rl, lst a)]) (lcI := fun a o => [(Str.ofString "self", some (.ref x)), (Str.ofString "prods", some (.ref rl)), (Str.ofString "child", o)])
      [v₂] none (fun i a g => All2 (PrO g d) a ((l, cs.map syN) :: rulesL (cs.take i))) R.handled F hI (itrSq (N.mono up3).sq) (by simpa [rulesL] using All2.cons pr .nil) (fun a o v => by walk_at "put") ?_ ?_
    · intro i vi a g' h' t' hi hv l' inv F
      obtain ⟨ci, hci, ti⟩ := N.c_.at hv
      have hm := List.mem_of_getElem? hci
      have hd' := dep_lt (l := l) hm
      have hz' := siz_le hm
      have etake : rulesL (cs.take (i + 1)) = rulesL (cs.take i) ++ rulesN ci := by rw [List.take_add_one, hci, rulesL_app]; simp [rulesL]
      have hlen : (rulesL (cs.take i)).length ≤ 10000 := by
        have h1 := rulesL_len (cs.take i)
        have h2 := sizs_app (cs.take i) (cs.drop i)
        rw [List.take_append_drop] at h2; omega
      have ilen := inv.len
      rw [List.length_cons] at ilen
      have upg := up3.trans l'
      refine xIf (tVal (eCallB F W (esc ▸ glr_isi) X.isi (sCons (ld F (by walk_at "at") (sCons (ldG F W (esc ▸ glr_tree) X.treeC (sNil ?_)))))))
      cases ci with
      | leaf s =>
        obtain ⟨u, rfl⟩ := ti.of_leaf
        refine isiGo (says_str_cls (F.kin W) Y.notS).at0 fun t₅ => tBool (xNil (xNil ?_))
        refine Turn.next (g' := g') a (some (.str s u)) ?_ ?_ ?_
        · exact Le.refl _
        · exact F
        · rw [etake]
          simpa [rulesN] using inv
      | node lc' ds =>
        obtain ⟨xc, dxc, oxc, odc, vsc, rfl, Nc⟩ := ti.of_node
        refine isiGo (says_self (F.kin W) (Nc.inst (upg.trans F.gw.sub))).at0 fun t₅ => tBool ?_
        refine xAug (ldn F (by walk_at "at") (eMeth rfl rfl (by decide) (ld F (by walk_at "at") ?_)))
        refine mTr (F.kin W) Y.tree (Nc.mono (upg.trans F.gw.sub)) Y.prods (by decide +kernel) (cwF0 (F.kin W) (Fn.keep Y.prods.fn) ?_)
        simp only [Nd.siz] at hz'
        refine ih (by omega) (W.mono F.gw.le) (Nc.mono upg) (by omega) F.gw.sub R fun g₅ h₈ t₁₀ r₅ ps G hps hall => ?_
        have F := F.call G
        have plen := hall.len
        have l2 := rulesN_len (.node lc' ds)
        simp only [Nd.siz] at l2
        refine oIadd F (l := rl) (vs := a) (us := ps) (by walk_at "m") (by walk_at "mput") (F.gl' hps) (zL (by omega)) fun h₉ F => ?_
        refine stL F (by walk_at "put") fun h₁₀ t₁₁ F => xNil (xNil ?_)
        refine Turn.next (g' := g₅) (a ++ ps) (some (.ref xc)) ?_ ?_ ?_
        · exact G.le
        · exact F
        · rw [etake]
          exact (inv.imp fun _ _ z => z.mono G.le).app (bs := (l, cs.map syN) :: rulesL (cs.take i)) hall
    · intro a o g' h' t' l' inv F
      refine xRet (ld F (by walk_at "at") ?_)
      obtain ⟨g₅, oD, F, le₅, eD, nD, hoD⟩ := F.frz hrl
      rw [List.take_of_length_le (by omega)] at inv
      refine k _ _ _ _ a F.gw ⟨oD, eD, by rw [hoD], nD, by rw [hoD]⟩ ?_
      simp only [rulesN]
      exact inv.imp fun _ _ z => z.mono le₅
end
end TL

end
section
open PySem PySem.W PyProof.Rows PySem.Calls Builtin Builtin.ObjectAttr
set_option maxRecDepth 100000
set_option linter.unusedVariables false
set_option linter.unusedSimpArgs false
set_option pp.deepTerms false
set_option pp.deepTerms.threshold 4
set_option pp.maxSteps 2000
namespace TL
open TL
local macro_rules | `(tactic| walk_at "at") => `(tactic| repeat (first | exact At.head | apply At.tail))
local macro_rules | `(tactic| walk_at "put") => `(tactic| repeat (first | exact Put.head | apply Put.tail))
local macro_rules | `(tactic| walk_at "m") => `(tactic| repeat (first | exact List.Mem.head _ | apply List.Mem.tail))
local macro_rules | `(tactic| walk_at "mput") => `(tactic| repeat (first | exact MPut.head | apply MPut.tail))
section
variable {w : World} {A : Around} {env : Env} {S : List Addr} {g₀ h₀ g h : Heap} {μ μ' : Mu} {lc : Lc} {c : Shared} {t : Tok} {Q : Value → Shared → Prop} {K : Frag} {mg mb : Str → Option Value} {d : Ad} {m : Md} {pos p : Pos}
theorem mLhs {v : Value} {r : Str × List Sy} {pl : Sem Bool} {Q : Value × List Value → Shared → Prop} (Y : TM K d m) (X : K.In h) (N : PrO h d v r) (k : Q (.ref m.lhs, [v]) (St c h t)) : Wp w A (getMethod v "lhs" pl) Q (St c h t) := by
  obtain ⟨x, dx, od, vl, tp, rs, rfl, h1, h2, L, _⟩ := N
  exact mPl X Y.prod h1 h2 L Y.lhs (by kernel_rfl) k
theorem mRhs {v : Value} {r : Str × List Sy} {pl : Sem Bool} {Q : Value × List Value → Shared → Prop} (Y : TM K d m) (X : K.In h) (N : PrO h d v r) (k : Q (.ref m.rhs, [v]) (St c h t)) : Wp w A (getMethod v "rhs" pl) Q (St c h t) := by
  obtain ⟨x, dx, od, vl, tp, rs, rfl, h1, h2, L, _⟩ := N
  exact mPl X Y.prod h1 h2 L Y.rhs (by kernel_rfl) k
theorem mSym {v : Value} {l : Str} {pl : Sem Bool} {Q : Value × List Value → Shared → Prop} (Y : TM K d m) (X : K.In h) (N : NtO h d.nont v l) (k : Q (.ref m.symbol, [v]) (St c h t)) : Wp w A (getMethod v "symbol" pl) Q (St c h t) := by
  obtain ⟨x, dx, od, u, rfl, h1, h2, L⟩ := N
  exact mPl X Y.nont h1 h2 L Y.symbol (by kernel_rfl) k
def psAgain : List Str := ["rules", "at"]
def osAgain : List Str := ["rule", "text", "item"]
theorem okAgain : okFn (stI 16) psAgain osAgain = true := by decide +kernel
theorem gla_isi : Gl (scopeOf (stI 16)) (Str.ofString "isinstance") := by decide +kernel
theorem gla_str : Gl (scopeOf (stI 16)) (Str.ofString "str") := by decide +kernel
theorem gla_len : Gl (scopeOf (stI 16)) (Str.ofString "len") := by decide +kernel
theorem gla_self : Gl (scopeOf (stI 16)) (Str.ofString "_law_again") := by decide +kernel
def accT (l : Str) (cs : List Nd) : Str := (("(" : Str) ++ l) ++ Txt.join "" (texts cs)
theorem accT_nil (l : Str) : accT l [] = ("(" : Str) ++ l := by
  unfold accT
  refine Str.ext_list ?_
  rw [Str.list_app, join_list]; simp [texts]
theorem accT_snoc (l : Str) (cs : List Nd) (c : Nd) : accT l (cs ++ [c]) = (accT l cs ++ (" " : Str)) ++ c.text := by
  unfold accT
  rw [texts_map, texts_map, List.map_append, List.map_cons, List.map_nil, join_snoc]
  simp only [Str.app_assoc]
theorem accT_len (l : Str) (cs : List Nd) (h1 : l.length ≤ 4) (h2 : oks cs = true) : (accT l cs).length ≤ 5 + 7 * sizs cs := by
  unfold accT
  have e1 : (Str.ofString "(").length = 1 := by decide +kernel
  have := join_len (texts cs)
  have := texts_len cs h2
  rw [Str.len_app, Str.len_app, e1]; omega
theorem rulesL_get {cs : List Nd} {j : Nat} {c : Nd} (h : cs[j]? = some c) : ∃ rest, rulesL cs = rulesL (cs.take j) ++ (rulesN c ++ rest) := by
  have e : cs = cs.take j ++ ([c] ++ cs.drop (j + 1)) := by
    rw [← List.append_assoc, ← (show cs.take (j + 1) = cs.take j ++ [c] by rw [List.take_add_one, h]; rfl), List.take_append_drop]
  refine ⟨rulesL (cs.drop (j + 1)), ?_⟩
  have := congrArg rulesL e
  rw [rulesL_app, rulesL_app] at this
  simpa [rulesL] using this
theorem again_spec (X : Wk K mg mb d) (Y : TM K d m) {R : List (Str × List Sy)} {rl : Addr} {ps : List Value} (hR : R.length ≤ 10000) : ∀ (n : Nat) (lb : Str) (cs : List Nd) {A : Around} {g h : Heap} {t : Tok} {al : Addr} {oa : Obj} {i : Nat} {u : Tok} {Q : Value → Shared → Prop}, (Nd.node lb cs).dep ≤ n → (Nd.node lb cs).ok = true → (Nd.node lb cs).siz ≤ 10000 →
    (∃ rest, R.drop i = rulesN (.node lb cs) ++ rest) → Wg K mg mb g → g.IsList rl ps.toArray → All2 (PrO g d) ps R → g.get? al = none → h.get? al = some oa → lsx [.int i u] oa → Le g h → Room A (n + 2) →
    (∀ g' h' t' v u' oa', Gw [al] g h g' h' → h'.get? al = some oa' → lsx [.int ((i + (rulesN (.node lb cs)).length : Nat)) u'] oa' → Q (.str (Nd.node lb cs).text v) (St c h' t')) → Wp w A (call (.ref d.again) [.ref rl, .ref al]) Q (St c h t) := by
  intro n
  induction n with
  | zero => intro lb cs A g h t al oa i u Q hd; simp [Nd.dep] at hd
  | succ n ih =>
    intro lb cs A g h t al oa i u Q hd ok hz hdrop W hrl hall gal hal pal le room k
    obtain ⟨rest, hdrop⟩ := hdrop
    have okl : okS lb = true := by simp only [Nd.ok, Bool.and_eq_true] at ok; exact ok.1
    have okc : oks cs = true := by simp only [Nd.ok, Bool.and_eq_true] at ok; exact ok.2
    have zl : lb.length ≤ 4 := by simp only [okS, Bool.and_eq_true, decide_eq_true_eq] at okl; exact okl.1.2
    have z0 : sizs cs + 1 = (Nd.node lb cs).siz := by simp [Nd.siz]
    have zc := len_sizs cs
    have one : (Str.ofString "(").length = 1 := by decide +kernel
    have one' : (Str.ofString ")").length = 1 := by decide +kernel
    have one'' : (Str.ofString " ").length = 1 := by decide +kernel
    have hget : R[i]? = some (lb, cs.map syN) := by
      have : (R.drop i)[0]? = some (lb, cs.map syN) := by rw [hdrop]; simp [rulesN]
      simpa using this
    have hi : i < R.length := by
      rcases Nat.lt_or_ge i R.length with z | z
      · exact z
      · rw [List.getElem?_eq_none z] at hget; cases hget
    have plen := hall.len
    obtain ⟨pv, epv, prv⟩ := hall.get hget
    refine call_fn psAgain osAgain (S := [al]) (n := n + 2) W X.again.2 le room okAgain (fun _ _ _ _ _ _ _ => rfl) rfl fun env h₁ t₁ A' Rm esc ecl hk ht F => ?_
    have F := F.own1 (P := lsx [.int i u]) (hk _ _ hal) pal (.head _) gal (F.notL hal) (fun p hp => nomatch hp)
    dsimp only [psAgain, osAgain, mkLc, List.map] at F
    refine xAsg (eSub (ld F (by walk_at "at") (eSub (ld F (by walk_at "at") (eInt fun _ => ?_)))))
    refine tItem (F.mx (a := al) (by walk_at "m")) (by decide) (by decide) rfl rfl ?_
    refine tItem (F.gl' hrl) (by omega) (by omega) (by simpa using epv) rfl ?_
    refine stL F (by walk_at "put") fun h₂ t₂ F => ?_
    refine xSetItem (eBin (eSub (ld F (by walk_at "at") (eInt fun _ => ?_))))
    refine tItem (F.mx (a := al) (by walk_at "m")) (by decide) (by decide) rfl rfl ?_
    refine eInt fun _ => oAdd fun u₁ t₃ => ?_
    refine ld F (by walk_at "at") (eInt fun _ => ?_)
    refine setM F (l := al) (vs := [.int i u]) (by walk_at "m") (by walk_at "mput") (by decide) (by decide) (Int.ofNat_lt.mpr (Nat.zero_lt_succ 0)) fun h₃ F => ?_
    refine xAsg (eBin (eStr fun t₄ => eMeth rfl rfl (by decide) (eMeth rfl rfl (by decide) (ld F (by walk_at "at") ?_))))
    refine mLhs Y (F.kin W) (prv.mono F.gw.sub) (cwF0 (F.kin W) (Fn.keep Y.lhs.fn) ?_)
    refine lhs_spec Y W prv F.gw.sub (Rm.mono (by omega)) fun h₄ t₅ vl G nt => ?_
    have F := F.call G
    have nt : NtO g d.nont vl lb := nt
    refine mSym Y (F.kin W) (nt.mono F.gw.sub) (cwF0 (F.kin W) (Fn.keep Y.symbol.fn) ?_)
    refine symbol_spec Y W nt F.gw.sub (Rm.mono (by omega)) fun h₅ t₆ u₂ G => ?_
    have F := F.call G
    refine oCat (by rw [one, sizeLine_eq]; omega) fun u₃ t₇ => ?_
    refine stL F (by walk_at "put") fun h₆ t₈ F => ?_
    refine xFor (eMeth rfl rfl (by decide) (ld F (by walk_at "at") ?_))
    refine mRhs Y (F.kin W) (prv.mono F.gw.sub) (cwF0 (F.kin W) (Fn.keep Y.rhs.fn) ?_)
    refine rhs_spec Y W prv F.gw.sub (Rm.mono (by omega)) fun h₇ t₉ tp rs G htp hrs => ?_
    have F := F.call G
    have rlen := hrs.len
    rw [List.length_map] at rlen
    refine iTup F (htp.up F.gw.sub) fun I h₈ t₁₀ hI F => ?_
    refine floop (σ := Value × Nat × Tok) (P := titr tp) (n := rs.length) (V := fun i v => rs[i]? = some v) (μI := fun a => [(al, lsx [.int (a.2.1 : Nat) a.2.2])])
      (lcI := fun a o => [(Str.ofString "rules", some (.ref rl)), (Str.ofString "at", some (.ref al)), (Str.ofString "rule", some pv), (Str.ofString "text", some a.1), (Str.ofString "item", o)])
      (.str (("(" : Str) ++ lb) u₃, i + 1, u₁) none (fun j a _ => (∃ u, a.1 = .str (accT lb (cs.take j)) u) ∧ a.2.1 = i + 1 + (rulesL (cs.take j)).length) Rm.handled F hI (itrTup htp) ⟨⟨u₃, by rw [List.take_zero, accT_nil]⟩, by simp [rulesL]⟩ (fun a o v => by walk_at "put") ?_ ?_
    · intro j vj a g' h' t' hj hvj l' inv F
      obtain ⟨⟨ua, ea⟩, ec⟩ := inv
      obtain ⟨av, ac, au⟩ := a
      dsimp only at ea ec F
      subst ea ec
      obtain ⟨sy, esy, sv⟩ := hrs.at hvj
      rw [List.getElem?_map] at esy
      obtain ⟨cj, hcj, rfl⟩ := Option.map_eq_some_iff.mp esy
      have hm := List.mem_of_getElem? hcj
      have hd' := dep_lt (l := lb) hm
      have hz' := siz_lt (l := lb) hm
      have okj := ok_mem ok hm
      have etake : cs.take (j + 1) = cs.take j ++ [cj] := by rw [List.take_add_one, hcj]; rfl
      have st : sizs (cs.take j) + cj.siz ≤ sizs cs := by
        have h1 := sizs_app (cs.take (j + 1)) (cs.drop (j + 1))
        rw [List.take_append_drop, etake, sizs_app] at h1
        simp only [sizs] at h1; omega
      have okt : oks (cs.take j) = true := by
        rw [oks_all, List.all_eq_true] at okc ⊢
        exact fun x hx => okc x (List.mem_of_mem_take hx)
      have al1 := accT_len lb (cs.take j) zl okt
      have tl := text_len cj okj
      obtain ⟨rest', erest⟩ := rulesL_get hcj
      refine xIf (tVal (eCallB F W (esc ▸ gla_isi) X.isi (sCons (ld F (by walk_at "at") (sCons (ldB F W (esc ▸ gla_str) X.str (sNil ?_)))))))
      cases cj with
      | leaf s =>
        obtain ⟨us, rfl⟩ := sv
        simp only [Nd.text] at tl
        refine isiGo says_str.at0 fun t₅ => tBool ?_
        refine xAsg (eBin (eBin (ld F (by walk_at "at") (eStr fun _ => oCat (by rw [one'', sizeLine_eq]; omega) fun u₄ t₁₁ => ld F (by walk_at "at") (oCat (by rw [Str.len_app, one'', sizeLine_eq]; omega) fun u₅ t₁₂ => ?_)))))
        refine stL F (by walk_at "put") fun h₉ t₁₃ F => xNil (xNil ?_)
        refine Turn.next (g' := g') (.str ((accT lb (cs.take j) ++ (" " : Str)) ++ s) u₅, i + 1 + (rulesL (cs.take j)).length, au) (some (.str s us)) ?_ ?_ ?_
        · exact Le.refl _
        · exact F
        · refine ⟨⟨u₅, ?_⟩, ?_⟩
          · rw [etake, accT_snoc]; simp only [Nd.text]
          · show _ = i + 1 + (rulesL (cs.take (j + 1))).length
            rw [etake, rulesL_app]; simp [rulesL, rulesN]
      | node lj ds =>
        have ntj : NtO g d.nont vj lj := sv
        have hzd : sizs ds + 1 = (Nd.node lj ds).siz := by simp [Nd.siz]
        have isi : Says w c h' vj (.type "str") false := by
          obtain ⟨x, dx, od, ux, rfl, h1, h2, L⟩ := ntj
          exact says_plain_str (F.kin W) Y.nont (plO.inst ((l'.trans F.gw.sub) _ _ h1) ((l'.trans F.gw.sub) _ _ h2))
        have hvx : vj ≠ .builtin "__main__.__loader__#opaque" := by obtain ⟨x, dx, od, ux, rfl, _⟩ := ntj; intro e; cases e
        refine isiGo isi.at0 (fun t₅ => tBool ?_) hvx
        have hat : R[i + 1 + (rulesL (cs.take j)).length]? = some (lj, ds.map syN) := by
          have : (R.drop i)[1 + (rulesL (cs.take j)).length]? = some (lj, ds.map syN) := by
            rw [hdrop]
            simp only [rulesN, List.cons_append]
            rw [show 1 + (rulesL (cs.take j)).length = (rulesL (cs.take j)).length + 1 by omega, List.getElem?_cons_succ, erest]
            simp [rulesN]
          rw [List.getElem?_drop] at this
          rwa [show i + (1 + (rulesL (cs.take j)).length) = i + 1 + (rulesL (cs.take j)).length by omega] at this
        have hat' : i + 1 + (rulesL (cs.take j)).length < R.length := by
          rcases Nat.lt_or_ge (i + 1 + (rulesL (cs.take j)).length) R.length with z | z
          · exact z
          · rw [List.getElem?_eq_none z] at hat; cases hat
        obtain ⟨pj, epj, prj⟩ := hall.get hat
        refine xIf (tBoolOp (tAnd (tCmp (eSub (ld F (by walk_at "at") (eInt fun _ => ?_))))))
        refine tItem (F.mx (a := al) (by walk_at "m")) (by decide) (by decide) rfl rfl ?_
        refine eCallB F W (esc ▸ gla_len) X.len (sCons (ld F (by walk_at "at") (sNil ?_)))
        refine cLen (F.gl' (hrl.up l')) (by omega) fun u₄ t₁₁ => oLt (tBool ?_)
        refine andB (fun _ => ?_) (fun z => absurd (of_decide_eq_false z) (by omega))
        refine tAnd (tCmp (eMeth rfl rfl (by decide) (eMeth rfl rfl (by decide) (eSub (ld F (by walk_at "at") (eSub (ld F (by walk_at "at") (eInt fun _ => ?_))))))))
        refine tItem (F.mx (a := al) (by walk_at "m")) (by decide) (by decide) rfl rfl ?_
        refine tItem (F.gl' (hrl.up l')) (by omega) (by omega) (by rw [Int.toNat_natCast]; exact epj) rfl ?_
        refine mLhs Y (F.kin W) (prj.mono (l'.trans F.gw.sub)) (cwF0 (F.kin W) (Fn.keep Y.lhs.fn) ?_)
        refine lhs_spec Y (W.mono F.gw.le) (prj.mono l') F.gw.sub (Rm.mono (by omega)) fun h₉ t₁₂ vl' G nt' => ?_
        have F := F.call G
        refine mSym Y (F.kin W) (nt'.mono F.gw.sub) (cwF0 (F.kin W) (Fn.keep Y.symbol.fn) ?_)
        refine symbol_spec Y (W.mono F.gw.le) nt' F.gw.sub (Rm.mono (by omega)) fun h₁₀ t₁₃ u₅ G => ?_
        have F := F.call G
        refine eMeth rfl rfl (by decide) (ld F (by walk_at "at") ?_)
        refine mSym Y (F.kin W) (ntj.mono (l'.trans F.gw.sub)) (cwF0 (F.kin W) (Fn.keep Y.symbol.fn) ?_)
        refine symbol_spec Y (W.mono F.gw.le) (ntj.mono l') F.gw.sub (Rm.mono (by omega)) fun h₁₁ t₁₄ u₆ G => ?_
        have F := F.call G
        refine oEqS (tBool ?_)
        refine andB (fun _ => tAnd0 ?_) (fun z => absurd z (by simp))
        refine xAsg (eBin (eBin (ld F (by walk_at "at") (eStr fun _ => oCat (by rw [one'', sizeLine_eq]; omega) fun u₇ t₁₅ => eCallF F W (esc ▸ gla_self) X.again (sCons (ld F (by walk_at "at") (sCons (ld F (by walk_at "at") (sNil ⟨F.kin W, ?_⟩)))))))))
        obtain ⟨oa', ha', pa', ga'⟩ := F.has (P := lsx [.int ((i + 1 + (rulesL (cs.take j)).length : Nat)) au]) (a := al) (by walk_at "m")
        refine ih lj ds (by omega) okj (by omega) ⟨rest' ++ rest, ?_⟩ (W.mono F.gw.le) (hrl.up l') (hall.imp fun _ _ z => z.mono l') ga' ha' pa' F.gw.sub Rm fun g₁₂ h₁₂ t₁₆ u₈ u₉ oa'' G e1 e2 => ?_
        · have : R.drop (i + 1 + (rulesL (cs.take j)).length) = (R.drop i).drop (1 + (rulesL (cs.take j)).length) := by rw [List.drop_drop]; congr 1; omega
          rw [this, hdrop]
          simp only [rulesN, List.cons_append]
          rw [show 1 + (rulesL (cs.take j)).length = (rulesL (cs.take j)).length + 1 by omega, List.drop_succ_cons, erest]
          simp [rulesN]
        have F := F.callG (μ' := [(I, titr tp (j + 1)), (al, lsx [.int ((i + 1 + (rulesL (cs.take j)).length + (rulesN (.node lj ds)).length : Nat)) u₉])]) G (fun b hb => by simp at hb; subst hb; simp) rfl (fun p hp => by
          have ne1 := F.ndm
          simp only [List.map_cons, List.map_nil, List.nodup_cons, List.mem_cons, not_or, List.not_mem_nil] at ne1
          simp only [List.mem_cons, List.not_mem_nil, or_false] at hp
          rcases hp with rfl | rfl
          · exact .inl ⟨by simp; exact ne1.1.1, by simp⟩
          · exact .inr ⟨_, e1, e2⟩)
        refine oCat (by rw [Str.len_app, one'', sizeLine_eq]; omega) fun u₁₀ t₁₇ => ?_
        refine stL F (by walk_at "put") fun h₁₃ t₁₈ F => xNil (xNil (xNil ?_))
        refine Turn.next (g' := g₁₂) (.str ((accT lb (cs.take j) ++ (" " : Str)) ++ (Nd.node lj ds).text) u₁₀, i + 1 + (rulesL (cs.take j)).length + (rulesN (.node lj ds)).length, u₉) (some vj) ?_ ?_ ?_
        · exact G.le
        · exact F
        · refine ⟨⟨u₁₀, ?_⟩, ?_⟩
          · rw [etake, accT_snoc]
          · show _ = i + 1 + (rulesL (cs.take (j + 1))).length
            rw [etake, rulesL_app]; simp [rulesL]; omega
    · intro a o g' h' t' l' inv F
      obtain ⟨⟨ua, ea⟩, ec⟩ := inv
      obtain ⟨av, ac, au⟩ := a
      dsimp only at ea ec F
      rw [List.take_of_length_le (by omega)] at ea ec
      subst ea ec
      have al1 := accT_len lb cs zl okc
      refine xRet (eBin (ld F (by walk_at "at") (eStr fun _ => oCat (by rw [one', sizeLine_eq]; omega) fun u₄ t₁₁ => ?_)))
      obtain ⟨oa', ha', pa', ga'⟩ := F.has (P := lsx [.int ((i + 1 + (rulesL cs).length : Nat)) au]) (a := al) (by walk_at "m")
      simp only [Nd.text] at k
      refine k _ _ t₁₁ u₄ au oa' F.drop1.gw ha' ?_
      have e : i + (rulesN (.node lb cs)).length = i + 1 + (rulesL cs).length := by simp [rulesN]; omega
      rw [e]; exact pa'
end
end TL

end
section
open PySem PySem.W PyProof.Rows PySem.Calls Builtin Builtin.ObjectAttr
set_option maxRecDepth 100000
set_option linter.unusedVariables false
set_option linter.unusedSimpArgs false
set_option pp.deepTerms false
set_option pp.deepTerms.threshold 4
set_option pp.maxSteps 2000
namespace TL
open TL
local macro_rules | `(tactic| walk_at "at") => `(tactic| repeat (first | exact At.head | apply At.tail))
local macro_rules | `(tactic| walk_at "put") => `(tactic| repeat (first | exact Put.head | apply Put.tail))
local macro_rules | `(tactic| walk_at "m") => `(tactic| repeat (first | exact List.Mem.head _ | apply List.Mem.tail))
local macro_rules | `(tactic| walk_at "mput") => `(tactic| repeat (first | exact MPut.head | apply MPut.tail))
/-! a tree's parts, turned -/
def TT.sub : TT → List Nat → Option TT
  | T, [] => some T
  | .leaf _ _, _ :: _ => none
  | .node _ _ _ cs, i :: p => (cs[i]?).bind fun c => c.sub p
/-- the children at p turned by f -/
def TT.mod (f : List TT → List TT) : TT → List Nat → TT
  | .leaf s u, _ => .leaf s u
  | .node x dx l cs, [] => .node x dx l (f cs)
  | .node x dx l cs, i :: p => match cs[i]? with
    | some c => .node x dx l (cs.set i (c.mod f p))
    | none => .node x dx l cs
def Nd.mod (f : List Nd → List Nd) : Nd → List Nat → Nd
  | .leaf s, _ => .leaf s
  | .node l cs, [] => .node l (f cs)
  | .node l cs, i :: p => match cs[i]? with
    | some c => .node l (cs.set i (c.mod f p))
    | none => .node l cs
/-- the label at p turned -/
def TT.rel (b : Str) : TT → List Nat → TT
  | .leaf s u, _ => .leaf s u
  | .node x dx l cs, [] => .node x dx b cs
  | .node x dx l cs, i :: p => match cs[i]? with
    | some c => .node x dx l (cs.set i (c.rel b p))
    | none => .node x dx l cs
def Nd.rel (b : Str) : Nd → List Nat → Nd
  | .leaf s, _ => .leaf s
  | .node l cs, [] => .node b cs
  | .node l cs, i :: p => match cs[i]? with
    | some c => .node l (cs.set i (c.rel b p))
    | none => .node l cs
theorem TT.nd_sub : ∀ {p : List Nat} {T : TT} {nd : Nd}, T.nd.at p = some nd → ∃ Ts, T.sub p = some Ts ∧ Ts.nd = nd
  | [], T, nd, h => by cases T <;> simp [Nd.at, TT.nd, TT.sub] at * <;> exact h
  | i :: p, .leaf s u, nd, h => by simp [Nd.at, TT.nd] at h
  | i :: p, .node x dx l cs, nd, h => by
    simp only [TT.nd, Nd.at, ndL_map, List.getElem?_map] at h
    obtain ⟨c, hc, h⟩ := Option.bind_eq_some_iff.mp h
    obtain ⟨ct, hct, rfl⟩ := Option.map_eq_some_iff.mp hc
    obtain ⟨Ts, a, b⟩ := TT.nd_sub h
    exact ⟨Ts, by simp only [TT.sub, hct, Option.bind_some]; exact a, b⟩
theorem TT.nd_mod {f : List TT → List TT} {f' : List Nd → List Nd} (hf : ∀ cs, (f cs).map TT.nd = f' (cs.map TT.nd)) : ∀ {p : List Nat} {T : TT}, (T.mod f p).nd = T.nd.mod f' p
  | [], .leaf s u => by simp [TT.mod, TT.nd, Nd.mod]
  | i :: p, .leaf s u => by simp [TT.mod, TT.nd, Nd.mod]
  | [], .node x dx l cs => by simp [TT.mod, TT.nd, Nd.mod, ndL_map, hf]
  | i :: p, .node x dx l cs => by
    simp only [TT.mod, TT.nd, Nd.mod, ndL_map, List.getElem?_map]
    cases q : cs[i]? with
    | none => simp [TT.nd, ndL_map]
    | some c =>
      simp only [TT.nd, ndL_map, Option.map_some]
      rw [← TT.nd_mod hf (T := c)]
      simp [List.map_set]
theorem TT.nd_rel {b : Str} : ∀ {p : List Nat} {T : TT}, (T.rel b p).nd = T.nd.rel b p
  | [], .leaf s u => by simp [TT.rel, TT.nd, Nd.rel]
  | i :: p, .leaf s u => by simp [TT.rel, TT.nd, Nd.rel]
  | [], .node x dx l cs => by simp [TT.rel, TT.nd, Nd.rel]
  | i :: p, .node x dx l cs => by
    simp only [TT.rel, TT.nd, Nd.rel, ndL_map, List.getElem?_map]
    cases q : cs[i]? with
    | none => simp [TT.nd, ndL_map]
    | some c =>
      simp only [TT.nd, ndL_map, Option.map_some]
      rw [← TT.nd_rel (T := c)]
      simp [List.map_set]
theorem TT.val_mod {f : List TT → List TT} : ∀ {p : List Nat} {T : TT}, (T.mod f p).val = T.val
  | [], .leaf s u => rfl
  | i :: p, .leaf s u => rfl
  | [], .node x dx l cs => rfl
  | i :: p, .node x dx l cs => by simp only [TT.mod]; cases cs[i]? <;> rfl
theorem TT.val_rel {b : Str} : ∀ {p : List Nat} {T : TT}, (T.rel b p).val = T.val
  | [], .leaf s u => rfl
  | i :: p, .leaf s u => rfl
  | [], .node x dx l cs => rfl
  | i :: p, .node x dx l cs => by simp only [TT.rel]; cases cs[i]? <;> rfl
theorem vals_set {cs : List TT} {i : Nat} {c c' : TT} (h : cs[i]? = some c) (e : c'.val = c.val) : (cs.set i c').map TT.val = cs.map TT.val := by
  rw [List.map_set, e]
  refine List.ext_getElem? fun j => ?_
  rw [List.getElem?_set]
  split
  · rename_i q; subst q
    split
    · rw [List.getElem?_map, h]; rfl
    · rename_i q; rw [List.length_map] at q
      rw [List.getElem?_eq_none (by omega)] at h; cases h
  · rfl
/-- the places' counts -/
def cnt (a : Addr) (μ : Mu) : Nat := (μ.map (·.1)).count a
theorem cnt_app (a : Addr) (μ ν : Mu) : cnt a (μ ++ ν) = cnt a μ + cnt a ν := by simp [cnt]
theorem nodup_cnt {μ : Mu} : (μ.map (·.1)).Nodup ↔ ∀ a, cnt a μ ≤ 1 := List.nodup_iff_count
theorem muL_set {C : Addr} {c c' : TT} : ∀ {cs : List TT} {i : Nat}, cs[i]? = some c → ∀ a, cnt a (muL C (cs.set i c')) + cnt a (c.mu C) = cnt a (muL C cs) + cnt a (c'.mu C)
  | [], i, h, a => by simp at h
  | d :: cs, 0, h, a => by simp at h; subst h; simp only [List.set_cons_zero, muL, cnt_app]; omega
  | d :: cs, i + 1, h, a => by
    have := muL_set (C := C) (c' := c') (cs := cs) (i := i) (by simpa using h) a
    simp only [List.set_cons_succ, muL, cnt_app]; omega
theorem muL_mem {C : Addr} {c c' : TT} : ∀ {cs : List TT} {i : Nat}, cs[i]? = some c → ∀ q ∈ muL C (cs.set i c'), q ∈ muL C cs ∨ q ∈ c'.mu C
  | [], i, h, q, hq => by simp at h
  | d :: cs, 0, h, q, hq => by
    simp only [List.set_cons_zero, muL, List.mem_append] at hq ⊢
    rcases hq with hq | hq
    · exact .inr hq
    · exact .inl (.inr hq)
  | d :: cs, i + 1, h, q, hq => by
    simp only [List.set_cons_succ, muL, List.mem_append] at hq ⊢
    rcases hq with hq | hq
    · exact .inl (.inl hq)
    · rcases muL_mem (by simpa using h) q hq with z | z
      · exact .inl (.inr z)
      · exact .inr z
theorem muL_in {C : Addr} {c : TT} : ∀ {cs : List TT} {i : Nat}, cs[i]? = some c → ∀ q ∈ c.mu C, q ∈ muL C cs
  | [], i, h, q, hq => by simp at h
  | d :: cs, 0, h, q, hq => by simp at h; subst h; simp only [muL, List.mem_append]; exact .inl hq
  | d :: cs, i + 1, h, q, hq => by simp only [muL, List.mem_append]; exact .inr (muL_in (by simpa using h) q hq)
/-- what a turn of the children at p leaves and brings -/
theorem TT.mu_mod {C : Addr} {f : List TT → List TT} {N : Mu} : ∀ {p : List Nat} {T : TT} {x dx : Addr} {l : Str} {cs : List TT}, T.sub p = some (.node x dx l cs) → (∀ q ∈ muL C (f cs), q ∈ muL C cs ∨ q ∈ N) → (∀ a, cnt a (muL C (f cs)) ≤ cnt a (muL C cs) + cnt a N) →
    (∀ q ∈ (T.mod f p).mu C, q = (x, treeO C dx ((f cs).map TT.val)) ∨ q ∈ T.mu C ∨ q ∈ N) ∧ (∀ a, cnt a ((T.mod f p).mu C) ≤ cnt a (T.mu C) + cnt a N) ∧ (x, treeO C dx ((f cs).map TT.val)) ∈ (T.mod f p).mu C ∧ (x, treeO C dx (cs.map TT.val)) ∈ T.mu C ∧ (dx, lblO l) ∈ T.mu C
  | [], T, x, dx, l, cs, h, h1, h2 => by
    simp only [TT.sub, Option.some.injEq] at h
    subst h
    simp only [TT.mod, TT.mu]
    refine ⟨fun q hq => ?_, fun a => ?_, .head _, .head _, .tail _ (.head _)⟩
    · rcases List.mem_cons.mp hq with rfl | hq
      · exact .inl rfl
      rcases List.mem_cons.mp hq with rfl | hq
      · exact .inr (.inl (.tail _ (.head _)))
      · rcases h1 q hq with z | z
        · exact .inr (.inl (.tail _ (.tail _ z)))
        · exact .inr (.inr z)
    · have := h2 a
      simp only [cnt, List.map_cons, List.count_cons] at *
      omega
  | i :: p, .leaf s u, x, dx, l, cs, h, _, _ => by simp [TT.sub] at h
  | i :: p, .node y dy k ds, x, dx, l, cs, h, h1, h2 => by
    simp only [TT.sub] at h
    obtain ⟨c, hc, h⟩ := Option.bind_eq_some_iff.mp h
    obtain ⟨a1, a2, a3, a4, a5⟩ := TT.mu_mod (N := N) h h1 h2
    have ev : (c.mod f p).val = c.val := TT.val_mod
    simp only [TT.mod, hc, TT.mu, vals_set hc ev]
    refine ⟨fun q hq => ?_, fun a => ?_, ?_, .tail _ (.tail _ (muL_in hc _ a4)), .tail _ (.tail _ (muL_in hc _ a5))⟩
    · rcases List.mem_cons.mp hq with rfl | hq
      · exact .inr (.inl (.head _))
      rcases List.mem_cons.mp hq with rfl | hq
      · exact .inr (.inl (.tail _ (.head _)))
      rcases muL_mem hc q hq with z | z
      · exact .inr (.inl (.tail _ (.tail _ z)))
      · rcases a1 q z with z | z | z
        · exact .inl z
        · exact .inr (.inl (.tail _ (.tail _ (muL_in hc q z))))
        · exact .inr (.inr z)
    · have e1 := muL_set (C := C) (c' := c.mod f p) hc a
      have e2 := a2 a
      simp only [cnt, List.map_cons, List.count_cons] at *
      omega
    · have hlt : i < ds.length := by
        rcases Nat.lt_or_ge i ds.length with z | z
        · exact z
        · rw [List.getElem?_eq_none z] at hc; cases hc
      exact .tail _ (.tail _ (muL_in (i := i) (c := c.mod f p) (by rw [List.getElem?_set]; simp [hlt]) _ a3))
theorem TT.mu_rel {C : Addr} {b : Str} : ∀ {p : List Nat} {T : TT} {x dx : Addr} {l : Str} {cs : List TT}, T.sub p = some (.node x dx l cs) →
    (∀ q ∈ (T.rel b p).mu C, q = (dx, lblO b) ∨ q ∈ T.mu C) ∧ (∀ a, cnt a ((T.rel b p).mu C) ≤ cnt a (T.mu C)) ∧ (dx, lblO b) ∈ (T.rel b p).mu C ∧ (x, treeO C dx (cs.map TT.val)) ∈ T.mu C ∧ (dx, lblO l) ∈ T.mu C
  | [], T, x, dx, l, cs, h => by
    simp only [TT.sub, Option.some.injEq] at h
    subst h
    simp only [TT.rel, TT.mu]
    refine ⟨fun q hq => ?_, fun a => ?_, .tail _ (.head _), .head _, .tail _ (.head _)⟩
    · rcases List.mem_cons.mp hq with rfl | hq
      · exact .inr (.head _)
      rcases List.mem_cons.mp hq with rfl | hq
      · exact .inl rfl
      · exact .inr (.tail _ (.tail _ hq))
    · simp only [cnt, List.map_cons]; exact Nat.le_refl _
  | i :: p, .leaf s u, x, dx, l, cs, h => by simp [TT.sub] at h
  | i :: p, .node y dy k ds, x, dx, l, cs, h => by
    simp only [TT.sub] at h
    obtain ⟨c, hc, h⟩ := Option.bind_eq_some_iff.mp h
    obtain ⟨a1, a2, a3, a4, a5⟩ := TT.mu_rel (C := C) (b := b) h
    have ev : (c.rel b p).val = c.val := TT.val_rel
    simp only [TT.rel, hc, TT.mu, vals_set hc ev]
    refine ⟨fun q hq => ?_, fun a => ?_, ?_, .tail _ (.tail _ (muL_in hc _ a4)), .tail _ (.tail _ (muL_in hc _ a5))⟩
    · rcases List.mem_cons.mp hq with rfl | hq
      · exact .inr (.head _)
      rcases List.mem_cons.mp hq with rfl | hq
      · exact .inr (.tail _ (.head _))
      rcases muL_mem hc q hq with z | z
      · exact .inr (.tail _ (.tail _ z))
      · rcases a1 q z with z | z
        · exact .inl z
        · exact .inr (.tail _ (.tail _ (muL_in hc q z)))
    · have e1 := muL_set (C := C) (c' := c.rel b p) hc a
      have e2 := a2 a
      simp only [cnt, List.map_cons, List.count_cons] at *
      omega
    · have hlt : i < ds.length := by
        rcases Nat.lt_or_ge i ds.length with z | z
        · exact z
        · rw [List.getElem?_eq_none z] at hc; cases hc
      exact .tail _ (.tail _ (muL_in (i := i) (c := c.rel b p) (by rw [List.getElem?_set]; simp [hlt]) _ a3))
/-- the part at p, as the heap has it -/
theorem TT.vat {h : Heap} {C : Addr} : ∀ {p : List Nat} {T Ts : TT}, (∀ q ∈ T.mu C, ∃ o, h.get? q.1 = some o ∧ q.2 o) → T.sub p = some Ts → VAt h T.val p Ts.val
  | [], T, Ts, _, e => by simp only [TT.sub, Option.some.injEq] at e; subst e; exact .here _
  | i :: p, .leaf s u, Ts, _, e => by simp [TT.sub] at e
  | i :: p, .node x dx l cs, Ts, H, e => by
    simp only [TT.sub] at e
    obtain ⟨c, hc, e⟩ := Option.bind_eq_some_iff.mp e
    simp only [TT.mu] at H
    obtain ⟨ox, a, b⟩ := H _ (.head _)
    obtain ⟨n, ed⟩ := isData b
    exact .down a ed (by rw [List.getElem?_map, hc]; rfl) (TT.vat (fun q hq => H q (.tail _ (.tail _ (muL_in hc q hq)))) e)
section
variable {env : Env} {S S' : List Addr} {g₀ h₀ g h h' g' : Heap} {μ μ' : Mu} {lc : Lc}
/-- behind a call that writes to things of ours; some are let go -/
theorem Fm.callU (F : Fm env S g₀ h₀ g μ lc h) (G : Gw S' g h g' h') (hS : ∀ a ∈ S', a ∈ μ.map (·.1)) (nd : (μ'.map (·.1)).Nodup) (hm : ∀ p ∈ μ', (p.1 ∉ S' ∧ p ∈ μ) ∨ (p.1 ∈ μ.map (·.1) ∧ ∃ o, h'.get? p.1 = some o ∧ p.2 o)) : Fm env S g₀ h₀ g' μ' lc h' := by
  have inμ : ∀ b, b ∈ μ.map (·.1) → ∃ p ∈ μ, p.1 = b := fun b hb => by obtain ⟨p, hp, e⟩ := List.mem_map.mp hb; exact ⟨p, hp, e⟩
  have gn : ∀ b, g.get? b = none → (∃ o, h.get? b = some o) → g'.get? b = none := fun b e1 e2 => by
    cases w : g'.get? b with
    | none => rfl
    | some o' =>
      obtain ⟨o, e2⟩ := e2
      rcases G.fr _ _ w with z | z
      · rw [e1] at z; cases z
      · rw [e2] at z; cases z
  obtain ⟨m, ⟨oL, es, ep, hL, hr⟩, hl⟩ := F.ns
  have nL : env.locals ∉ S' := fun q => by
    obtain ⟨p, hp, e⟩ := inμ _ (hS _ q)
    exact (F.mu p hp).2.2.1 e
  refine { F with gw := ⟨F.gw.le.trans G.le, G.sub, fun b o n e => ?_, fun b o e => ?_, fun b e => F.gw.live b (G.live b e)⟩, ns := ⟨m, ⟨oL, es, ep, G.ext _ _ nL hL, hr⟩, hl⟩, offL := gn _ F.offL ⟨_, hL⟩, mu := fun q hq => ?_, ndm := nd }
  · by_cases z : b ∈ S'
    · obtain ⟨p, hp, rfl⟩ := inμ _ (hS _ z)
      rcases (F.mu p hp).2.2.2 with q | q
      · exact absurd q n
      · rw [q] at e; cases e
    · exact G.ext _ _ z (F.gw.ext b o n e)
  · rcases G.fr b o e with q | q
    · exact F.gw.fr _ _ q
    · exact .inr (F.gw.live b q)
  · rcases hm q hq with ⟨n, r⟩ | ⟨kk, r⟩
    · obtain ⟨⟨o, x, y⟩, z1, z2, z3⟩ := F.mu q r
      exact ⟨⟨o, G.ext _ _ n x, y⟩, gn _ z1 ⟨_, x⟩, z2, z3⟩
    · obtain ⟨p, hp, e⟩ := inμ _ kk
      obtain ⟨⟨o, x, y⟩, z1, z2, z3⟩ := F.mu p hp
      exact ⟨r, by rw [← e]; exact gn _ z1 ⟨_, x⟩, e ▸ z2, e ▸ z3⟩
/-- the children at p of a tree of ours are turned -/
theorem Fm.turnT {C : Addr} {T : TT} {N M : Mu} {p : List Nat} {x dx : Addr} {l : Str} {cs : List TT} {f : List TT → List TT} {o' : Obj} (F : Fm env S g₀ h₀ g (T.mu C ++ N ++ M) lc h) (G : Gw [x] g h g' h') (hs : T.sub p = some (.node x dx l cs)) (h1 : ∀ q ∈ muL C (f cs), q ∈ muL C cs ∨ q ∈ N) (h2 : ∀ a, cnt a (muL C (f cs)) ≤ cnt a (muL C cs) + cnt a N)
    (ho : h'.get? x = some o') (hp : treeO C dx ((f cs).map TT.val) o') : Fm env S g₀ h₀ g' ((T.mod f p).mu C ++ M) lc h' := by
  obtain ⟨a1, a2, a3, a4, _⟩ := TT.mu_mod (C := C) hs h1 h2
  have nd0 := nodup_cnt.mp F.ndm
  have nd : (((T.mod f p).mu C ++ M).map (·.1)).Nodup := nodup_cnt.mpr fun a => by
    have := nd0 a
    have := a2 a
    simp only [cnt_app] at *; omega
  refine F.callU G (fun a ha => by rw [List.mem_singleton.mp ha]; exact List.mem_map_of_mem (f := (·.1)) (List.mem_append_left _ (List.mem_append_left _ a4))) nd fun q hq => ?_
  by_cases e : q.1 = x
  · have : q = (x, treeO C dx ((f cs).map TT.val)) := mem_key nd hq (List.mem_append_left _ a3) e
    subst this
    exact .inr ⟨List.mem_map_of_mem (f := (·.1)) (List.mem_append_left _ (List.mem_append_left _ a4)), o', ho, hp⟩
  · refine .inl ⟨fun z => e (List.mem_singleton.mp z), ?_⟩
    rcases List.mem_append.mp hq with hq | hq
    · rcases a1 q hq with z | z | z
      · exact absurd (congrArg Prod.fst z) e
      · exact List.mem_append_left _ (List.mem_append_left _ z)
      · exact List.mem_append_left _ (List.mem_append_right _ z)
    · exact List.mem_append_right _ hq
/-- the label at p of a tree of ours is turned -/
theorem Fm.relT {C : Addr} {T : TT} {M : Mu} {p : List Nat} {x dx : Addr} {l b : Str} {cs : List TT} {o' : Obj} (F : Fm env S g₀ h₀ g (T.mu C ++ M) lc h) (G : Gw [dx] g h g' h') (hs : T.sub p = some (.node x dx l cs)) (ho : h'.get? dx = some o') (hp : lblO b o') : Fm env S g₀ h₀ g' ((T.rel b p).mu C ++ M) lc h' := by
  obtain ⟨a1, a2, a3, _, a5⟩ := TT.mu_rel (C := C) (b := b) hs
  have nd0 := nodup_cnt.mp F.ndm
  have nd : (((T.rel b p).mu C ++ M).map (·.1)).Nodup := nodup_cnt.mpr fun a => by
    have := nd0 a
    have := a2 a
    simp only [cnt_app] at *; omega
  refine F.callU G (fun a ha => by rw [List.mem_singleton.mp ha]; exact List.mem_map_of_mem (f := (·.1)) (List.mem_append_left _ a5)) nd fun q hq => ?_
  by_cases e : q.1 = dx
  · have : q = (dx, lblO b) := mem_key nd hq (List.mem_append_left _ a3) e
    subst this
    exact .inr ⟨List.mem_map_of_mem (f := (·.1)) (List.mem_append_left _ a5), o', ho, hp⟩
  · refine .inl ⟨fun z => e (List.mem_singleton.mp z), ?_⟩
    rcases List.mem_append.mp hq with hq | hq
    · rcases a1 q hq with z | z
      · exact absurd (congrArg Prod.fst z) e
      · exact List.mem_append_left _ z
    · exact List.mem_append_right _ hq
end
theorem muL_spl {C : Addr} {a b : Option Int} (cs ns : List TT) : (∀ q ∈ muL C (spl a b cs ns), q ∈ muL C cs ∨ q ∈ muL C ns) ∧ ∀ z, cnt z (muL C (spl a b cs ns)) ≤ cnt z (muL C cs) + cnt z (muL C ns) := by
  unfold spl
  generalize loA a cs.length = i
  generalize hj : max i (hiA b cs.length) = j
  have hij : i ≤ j := by omega
  have e : cs = cs.take i ++ ((cs.take j).drop i ++ cs.drop j) := by
    have h1 : cs.take i = (cs.take j).take i := by rw [List.take_take, Nat.min_eq_left hij]
    rw [← List.append_assoc, h1, List.take_append_drop, List.take_append_drop]
  have em : muL C cs = muL C (cs.take i) ++ (muL C ((cs.take j).drop i) ++ muL C (cs.drop j)) := by
    rw [← muL_app, ← muL_app, ← e]
  rw [muL_app, muL_app]
  constructor
  · intro q hq
    rw [em]
    simp only [List.mem_append] at hq ⊢
    rcases hq with (hq | hq) | hq
    · exact .inl (.inl hq)
    · exact .inr hq
    · exact .inl (.inr (.inr hq))
  · intro z
    rw [em]
    simp only [cnt_app]; omega
end TL

end
section
open PySem PySem.W PyProof.Rows PySem.Calls Builtin Builtin.ObjectAttr
set_option maxRecDepth 100000
set_option linter.unusedVariables false
set_option linter.unusedSimpArgs false
set_option pp.deepTerms false
set_option pp.deepTerms.threshold 4
set_option pp.maxSteps 2000
namespace TL
open TL
local macro_rules | `(tactic| walk_at "at") => `(tactic| repeat (first | exact At.head | apply At.tail))
local macro_rules | `(tactic| walk_at "put") => `(tactic| repeat (first | exact Put.head | apply Put.tail))
local macro_rules | `(tactic| walk_at "m") => `(tactic| repeat (first | exact List.Mem.head _ | apply List.Mem.tail))
local macro_rules | `(tactic| walk_at "mput") => `(tactic| repeat (first | exact MPut.head | apply MPut.tail))
section
variable {w : World} {A : Around} {env : Env} {S : List Addr} {g₀ h₀ g h : Heap} {μ μ' : Mu} {lc : Lc} {c : Shared} {t : Tok} {Q : Value → Shared → Prop} {K : Frag} {mg mb : Str → Option Value} {d : Ad} {m : Md} {pos p : Pos}
theorem Fm.leOwn {x : Addr} {ox : Obj} {g' h' : Heap} (F : Fm env [x] g h g' μ lc h') (m : (x, fun o => o = ox) ∈ μ) (hx : h.get? x = some ox) : Le h h' := fun b o e => by
  by_cases q : b = x
  · subst q
    obtain ⟨o', a, b', _⟩ := F.has m
    rw [hx] at e; cases e
    rw [a, b']
  · exact F.gw.ext b o (fun z => q (List.mem_singleton.mp z)) e
/-! set_label -/
theorem okSetL : okFn (meth 5 10) [Str.ofString "self", Str.ofString "label"] [] = true := by decide +kernel
theorem setlabel_spec (Y : TM K d m) (W : Wg K mg mb g) {x dx : Addr} {ox od : Obj} {b : Str} {u : Tok} {vs : List Value} (hx : h.get? x = some ox) (ho : treeO d.tree dx vs ox) (hd : h.get? dx = some od) (hod : dctO od) (hne : x ≠ dx) (gd : g.get? dx = none) (le : Le g h) (room : Room A 1)
    (k : ∀ h' t' od', Gw [dx] g h g h' → h'.get? dx = some od' → lblO b od' → Q .none (St c h' t')) : Wp w A (call (.ref m.set_label) [.ref x, .str b u]) Q (St c h t) := by
  refine call_fn [Str.ofString "self", Str.ofString "label"] [] (S := [dx]) W Y.set_label.fn le room okSetL (fun _ _ _ _ _ _ _ => rfl) rfl fun env h₁ t₁ A' R esc ecl hk ht F => ?_
  have F := F.own1 (P := fun o => o = od) (hk _ _ hd) rfl (.head _) gd (F.notL hd) (fun p hp => nomatch hp)
  dsimp only [mkLc, List.map] at F
  refine xSetAttr (ld F (by walk_at "at") (ld F (by walk_at "at") ?_))
  refine setLbl (l := b) F (F.kin W) Y.tree (ho.inst (hk _ _ hx) (hk _ _ hd)) ho (hk _ _ hd) hod (by walk_at "mput") fun h₂ t₂ F => xNil ?_
  obtain ⟨od', hd', hod', _⟩ := F.has (P := lblO b) (a := dx) (by walk_at "m")
  exact k _ _ od' F.drop1.gw hd' hod'
/-! __setitem__ -/
def psSi : List Str := ["self", "index", "value"]
theorem okSi : okFn (meth 5 8) psSi [] = true := by decide +kernel
theorem gls_isi : Gl (scopeOf (meth 5 8)) (Str.ofString "isinstance") := by decide +kernel
theorem gls_int : Gl (scopeOf (meth 5 8)) (Str.ofString "int") := by decide +kernel
theorem gls_slice : Gl (scopeOf (meth 5 8)) (Str.ofString "slice") := by decide +kernel
theorem gls_list : Gl (scopeOf (meth 5 8)) (Str.ofString "list") := by decide +kernel
theorem gls_tuple : Gl (scopeOf (meth 5 8)) (Str.ofString "tuple") := by decide +kernel
theorem gls_len : Gl (scopeOf (meth 5 8)) (Str.ofString "len") := by decide +kernel
theorem si_slice (X : Wk K mg mb d) (Y : TM K d m) (W : Wg K mg mb g) {x dx sl l : Addr} {ox od : Obj} {vs ns : List Value} {vl vu : Value} {a b : Option Int} (hx : h.get? x = some ox) (ho : treeO d.tree dx vs ox) (hd : h.get? dx = some od) (hne : x ≠ dx) (gx : g.get? x = none)
    (hsl : h.IsSliceOf sl vl vu .none) (pa : IsPart vl a) (pb : IsPart vu b) (hsx : sl ≠ x) (hl : h.IsList l ns.toArray) (hlx : l ≠ x) (hz : vs.length + ns.length ≤ 100000) (le : Le g h) (room : Room A 1)
    (k : ∀ h' t' ox', Gw [x] g h g h' → h'.get? x = some ox' → treeO d.tree dx (spl a b vs ns) ox' → Q .none (St c h' t')) : Wp w A (call (.ref m.setitem) [.ref x, .ref sl, .ref l]) Q (St c h t) := by
  refine call_fn psSi [] (S := [x]) W Y.setitem.fn le room okSi (fun _ _ _ _ _ _ _ => rfl) rfl fun env h₁ t₁ A' R esc ecl hk ht F => ?_
  have F := F.own1 (P := fun o => o = ox) (hk _ _ hx) rfl (.head _) gx (F.notL hx) (fun p hp => nomatch hp)
  dsimp only [psSi, mkLc, List.map] at F
  refine xIf (tVal (eCallB F W (esc ▸ gls_isi) X.isi (sCons (ld F (by walk_at "at") (sCons (eTuple (sCons (ldB F W (esc ▸ gls_int) X.int (sCons (ldB F W (esc ▸ gls_slice) X.slice (sNil ?_)))))))))))
  refine nTupX F (zL (Nat.le_add_left 2 99998)) fun tp g₁ h₂ F le₁ htp => ?_
  have L := F.leOwn (.head _) hx
  obtain ⟨os, s1, s2, s3⟩ := id hsl
  refine sNil (isiGo (says_tup (T := "slice") (fun _ => ⟨os, L _ _ s1, s2⟩) (F.gw.sub _ _ htp) (says_sl_sl (L _ _ s1) s2)) fun t₂ => tBool ?_)
  refine xRet (eMeth rfl rfl (by decide) (ldB F W (esc ▸ gls_list) X.list ?_))
  refine mT_list (F.kin W) (fc_si K) rfl fun t₃ => ?_
  refine cwB (sCons (ld F (by walk_at "at") (sCons (ld F (by walk_at "at") (sCons (ld F (by walk_at "at") (sNil ?_)))))))
  refine lssT F (F.kin W) Y.tree (ho.inst (L _ _ hx) (L _ _ hd)) ho (hsl.up L) pa pb (hl.up L) hlx (by walk_at "mput") (by rw [sizeLine_eq]; omega) fun h₃ F => ?_
  obtain ⟨ox', hx', ho', _⟩ := F.has (P := treeO d.tree dx (spl a b vs ns)) (a := x) (by walk_at "m")
  exact k _ _ ox' F.drop1.gw.drop hx' ho'
theorem si_int (X : Wk K mg mb d) (Y : TM K d m) (W : Wg K mg mb g) {x dx : Addr} {ox od : Obj} {vs : List Value} {i : Nat} {u : Tok} {v : Value} (hx : h.get? x = some ox) (ho : treeO d.tree dx vs ox) (hd : h.get? dx = some od) (hne : x ≠ dx) (gx : g.get? x = none) (hi : i < vs.length) (hz : vs.length ≤ 100000) (le : Le g h) (room : Room A 1)
    (k : ∀ h' t' ox', Gw [x] g h g h' → h'.get? x = some ox' → treeO d.tree dx (vs.set i v) ox' → Q .none (St c h' t')) : Wp w A (call (.ref m.setitem) [.ref x, .int i u, v]) Q (St c h t) := by
  refine call_fn psSi [] (S := [x]) W Y.setitem.fn le room okSi (fun _ _ _ _ _ _ _ => rfl) rfl fun env h₁ t₁ A' R esc ecl hk ht F => ?_
  have F := F.own1 (P := fun o => o = ox) (hk _ _ hx) rfl (.head _) gx (F.notL hx) (fun p hp => nomatch hp)
  dsimp only [psSi, mkLc, List.map] at F
  refine xIf (tVal (eCallB F W (esc ▸ gls_isi) X.isi (sCons (ld F (by walk_at "at") (sCons (eTuple (sCons (ldB F W (esc ▸ gls_int) X.int (sCons (ldB F W (esc ▸ gls_slice) X.slice (sNil ?_)))))))))))
  refine nTupX F (zL (Nat.le_add_left 2 99998)) fun tp g₁ h₂ F le₁ htp => ?_
  have L := F.leOwn (.head _) hx
  refine sNil (isiGo (says_tup (fun _ => rfl) (F.gw.sub _ _ htp) says_int_sl) fun t₂ => tBool ?_)
  refine xRet (eMeth rfl rfl (by decide) (ldB F W (esc ▸ gls_list) X.list ?_))
  refine mT_list (F.kin W) (fc_si K) rfl fun t₃ => ?_
  refine cwB (sCons (ld F (by walk_at "at") (sCons (ld F (by walk_at "at") (sCons (ld F (by walk_at "at") (sNil ?_)))))))
  refine lsiT F (F.kin W) Y.tree (ho.inst (L _ _ hx) (L _ _ hd)) ho (by omega) (by omega) (by omega) (by walk_at "mput") fun h₃ F => ?_
  obtain ⟨ox', hx', ho', _⟩ := F.has (P := treeO d.tree dx (vs.set ((i : Int)).toNat v)) (a := x) (by walk_at "m")
  exact k _ _ ox' F.drop1.gw.drop hx' (by simpa using ho')
theorem si_place (X : Wk K mg mb d) (Y : TM K d m) {xs dxs : Addr} {oxs ods : Obj} {vss : List Value} {i : Nat} {v : Value} (hi : i < vss.length) (hz : vss.length ≤ 100000) (hne : xs ≠ dxs) : ∀ (p : List Nat) {A : Around} {g h : Heap} {t : Tok} {x : Value} {nd : Nd} {vp : Value} {Q : Value → Shared → Prop}, Wg K mg mb g → Tr h d.tree x nd → nd.siz ≤ 10000 → VAt h x p (.ref xs) → h.get? xs = some oxs → treeO d.tree dxs vss oxs → h.get? dxs = some ods → g.get? xs = none → Is g vp (pyP (p ++ [i])) → p.length ≤ 100 → Le g h → Room A (2 * p.length + 4) →
    (∀ h' t' ox', Gw [xs] g h g h' → h'.get? xs = some ox' → treeO d.tree dxs (vss.set i v) ox' → Q .none (St c h' t')) → ∃ xa, x = .ref xa ∧ Wp w A (call (.ref m.setitem) [.ref xa, vp, v]) Q (St c h t) := by
  intro p
  induction p with
  | nil =>
    intro A g h t x nd vp Q W hT hnz va hxs hos hds gx hp hl le room k
    cases va
    refine ⟨xs, rfl, ?_⟩
    obtain ⟨lp, pvs, rfl, hlp, hip⟩ := hp.of_tuple
    have lpv : pvs.length = 1 := by have := hip.len; simpa using this
    obtain ⟨op, p1, p2, _⟩ := id hlp
    obtain ⟨w0, ew0, iw0⟩ := hip.get (i := 0) (d := .int (i : Nat)) rfl
    obtain ⟨u0, rfl⟩ := iw0.of_int
    refine call_fn psSi [] (S := [xs]) (n := 3) W Y.setitem.fn le room okSi (fun _ _ _ _ _ _ _ => rfl) rfl fun env h₁ t₁ A' R esc ecl hk ht F => ?_
    have F := F.own1 (P := fun o => o = oxs) (hk _ _ hxs) rfl (.head _) gx (F.notL hxs) (fun p hp => nomatch hp)
    dsimp only [psSi, mkLc, List.map] at F
    refine xIf (tVal (eCallB F W (esc ▸ gls_isi) X.isi (sCons (ld F (by walk_at "at") (sCons (eTuple (sCons (ldB F W (esc ▸ gls_int) X.int (sCons (ldB F W (esc ▸ gls_slice) X.slice (sNil ?_)))))))))))
    refine nTupX F (zL (Nat.le_add_left 2 99998)) fun tp g₁ h₂ F le₁ htp => ?_
    refine sNil (isiGo (says_tup (T := "tuple") (fun _ => ⟨op, F.gw.sub _ _ (le₁ _ _ p1), p2⟩) (F.gw.sub _ _ htp) (says_tup_sl (F.gw.sub _ _ (le₁ _ _ p1)) p2)) fun t₂ => tBool ?_)
    refine xIf (tVal (eCallB F W (esc ▸ gls_isi) X.isi (sCons (ld F (by walk_at "at") (sCons (eTuple (sCons (ldB F W (esc ▸ gls_list) X.list (sCons (ldB F W (esc ▸ gls_tuple) X.tuple (sNil ?_)))))))))))
    refine nTupX F (zL (Nat.le_add_left 2 99998)) fun tp2 g₂ h₃ F le₂ htp2 => ?_
    have le12 := le₁.trans le₂
    refine sNil (isiGo (says_tup (T := "tuple") (fun _ => ⟨op, F.gw.sub _ _ (le12 _ _ p1), p2⟩) (F.gw.sub _ _ htp2) (says_tup_lt (F.gw.sub _ _ (le12 _ _ p1)) p2)) fun t₃ => tBool ?_)
    refine xIf (tCmp (eCallB F W (esc ▸ gls_len) X.len (sCons (ld F (by walk_at "at") (sNil ?_)))))
    refine cLenU ((hlp.up le12).up F.gw.sub) (by omega) fun u₁ t₄ => eInt fun _ => oEqI (tBool ?_)
    rw [lpv]
    refine xIf (tCmp (eCallB F W (esc ▸ gls_len) X.len (sCons (ld F (by walk_at "at") (sNil ?_)))))
    refine cLenU ((hlp.up le12).up F.gw.sub) (by omega) fun u₁ t₄ => eInt fun _ => oEqI (tBool ?_)
    rw [lpv]
    have L := F.leOwn (.head _) hxs
    refine xSetItem (ld F (by walk_at "at") (ld F (by walk_at "at") (eSub (ld F (by walk_at "at") (eInt fun _ => ?_)))))
    refine tItemU ((hlp.up le12).up F.gw.sub) (by decide) (by decide) ew0 rfl ?_
    refine setItemT (F.kin W) Y.tree (hos.inst (L _ _ hxs) (L _ _ hds)) Y.setitem.find (beq_iff_eq.mp Y.setitem.isf) ?_
    refine si_int X Y (W.mono F.gw.le) (L _ _ hxs) hos (L _ _ hds) hne (F.has (.head _)).choose_spec.2.2 hi hz F.gw.sub (R.mono (by omega)) fun h₄ t₅ ox' G e1 e2 => xNil (xNil (xNil (xNil (xNil ?_))))
    have F := F.callG (μ' := [(xs, treeO d.tree dxs (vss.set i v))]) G (fun b hb => by simp at hb; subst hb; simp) rfl (fun p hp => by
      simp only [List.mem_cons, List.not_mem_nil, or_false] at hp
      subst hp; exact .inr ⟨_, e1, e2⟩)
    exact k _ _ ox' F.drop1.gw.drop e1 e2
  | cons j p ih =>
    intro A g h t x nd vp Q W hT hnz va hxs hos hds gx hp hl le room k
    cases va with
    | @down xa oxa vsa na _ vi _ _ hxa hda hvi va' =>
      refine ⟨xa, rfl, ?_⟩
      have hl' : p.length + 1 ≤ 100 := hl
      obtain ⟨lp, pvs, rfl, hlp, hip⟩ := hp.of_tuple
      have lpv : pvs.length = p.length + 1 + 1 := by have := hip.len; simpa using this
      obtain ⟨op, p1, p2, _⟩ := id hlp
      obtain ⟨w0, ew0, iw0⟩ := hip.get (i := 0) (d := .int (j : Nat)) rfl
      obtain ⟨u0, rfl⟩ := iw0.of_int
      cases hT with
      | @node _ dxa oxa' oda lba vsa' csa a1 a2 a3 a4 a5 =>
        rw [hxa] at a1; cases a1
        obtain ⟨na', ea⟩ := isData a2
        rw [hda] at ea
        have : _ = _ := congrArg (fun d => match d with | Data.seq xs _ => xs.toList | _ => []) ea
        simp at this
        subst this
        have N : TrN h d.tree xa dxa oxa oda lba vsa csa := ⟨hxa, a2, a3, a4, a5⟩
        obtain ⟨cj, hcj, tj⟩ := a5.at hvi
        have zc := len_sizs csa
        have z0 : sizs csa + 1 = (Nd.node lba csa).siz := by simp [Nd.siz]
        have lvs := a5.len
        have hjl : j < vsa.length := by
          rcases Nat.lt_or_ge j vsa.length with z | z
          · exact z
          · rw [List.getElem?_eq_none z] at hvi; cases hvi
        refine call_fn psSi [] (S := [xs]) (n := 2 * p.length + 5) W Y.setitem.fn le (room.mono (by simp only [List.length_cons]; omega)) okSi (fun _ _ _ _ _ _ _ => rfl) rfl fun env h₁ t₁ A' R esc ecl hk ht F => ?_
        have F := F.own1 (P := fun o => o = oxs) (hk _ _ hxs) rfl (.head _) gx (F.notL hxs) (fun p hp => nomatch hp)
        dsimp only [psSi, mkLc, List.map] at F
        refine xIf (tVal (eCallB F W (esc ▸ gls_isi) X.isi (sCons (ld F (by walk_at "at") (sCons (eTuple (sCons (ldB F W (esc ▸ gls_int) X.int (sCons (ldB F W (esc ▸ gls_slice) X.slice (sNil ?_)))))))))))
        refine nTupX F (zL (Nat.le_add_left 2 99998)) fun tp g₁ h₂ F le₁ htp => ?_
        refine sNil (isiGo (says_tup (T := "tuple") (fun _ => ⟨op, F.gw.sub _ _ (le₁ _ _ p1), p2⟩) (F.gw.sub _ _ htp) (says_tup_sl (F.gw.sub _ _ (le₁ _ _ p1)) p2)) fun t₂ => tBool ?_)
        refine xIf (tVal (eCallB F W (esc ▸ gls_isi) X.isi (sCons (ld F (by walk_at "at") (sCons (eTuple (sCons (ldB F W (esc ▸ gls_list) X.list (sCons (ldB F W (esc ▸ gls_tuple) X.tuple (sNil ?_)))))))))))
        refine nTupX F (zL (Nat.le_add_left 2 99998)) fun tp2 g₂ h₃ F le₂ htp2 => ?_
        have le12 := le₁.trans le₂
        refine sNil (isiGo (says_tup (T := "tuple") (fun _ => ⟨op, F.gw.sub _ _ (le12 _ _ p1), p2⟩) (F.gw.sub _ _ htp2) (says_tup_lt (F.gw.sub _ _ (le12 _ _ p1)) p2)) fun t₃ => tBool ?_)
        refine xIf (tCmp (eCallB F W (esc ▸ gls_len) X.len (sCons (ld F (by walk_at "at") (sNil ?_)))))
        refine cLenU ((hlp.up le12).up F.gw.sub) (by omega) fun u₁ t₄ => eInt fun _ => oEqI (tBool ?_)
        rw [show ((pvs.length : Int) == 0) = false by rw [beq_eq_false_iff_ne]; omega]
        refine xIf (tCmp (eCallB F W (esc ▸ gls_len) X.len (sCons (ld F (by walk_at "at") (sNil ?_)))))
        refine cLenU ((hlp.up le12).up F.gw.sub) (by omega) fun u₁ t₄ => eInt fun _ => oEqI (tBool ?_)
        rw [show ((pvs.length : Int) == 1) = false by rw [beq_eq_false_iff_ne]; omega]
        have L := F.leOwn (.head _) hxs
        refine xSetItem (ld F (by walk_at "at") (eSub (ld F (by walk_at "at") (eSub (ld F (by walk_at "at") (eInt fun _ => ?_))))))
        refine tItemU ((hlp.up le12).up F.gw.sub) (by decide) (by decide) ew0 rfl ?_
        refine tItemT (F.kin W) (N.inst L) Y.getitem.find (beq_iff_eq.mp Y.getitem.isf) Y.giFn rfl ?_
        refine gi_int (g := h₃) X Y (W.mono (F.gw.le.trans F.gw.sub)) (N.mono L) (by omega) (by omega) (by simpa using hvi) (Le.refl _) (R.in1.mono (by omega)) fun h₄ t₆ G => ?_
        have F := F.ext G.all
        have L := F.leOwn (.head _) hxs
        refine eSub (ld F (by walk_at "at") (eSl (pSome (eInt fun _ => pNone ?_))))
        obtain ⟨g₃, F, le₃, hsl, _⟩ := F.sliceH (.int 1 _) .none
        refine sliceT (vs := pvs) F (hlp.up (le12.trans le₃)) hsl (.int 1 _) .none (zL (by omega)) fun l2 g₄ h₆ F le₄ hl2 => ?_
        rw [show cut (some 1) none pvs = pvs.drop 1 from cut_from pvs 1] at hl2
        have up := (le12.trans le₃).trans le₄
        have isp : Is g₄ (.ref l2) (pyP (p ++ [i])) := .tuple hl2 (by have := (hip.mono up).drop 1; simpa using this)
        have L := F.leOwn (.head _) hxs
        have hz' := siz_lt (l := lba) (List.mem_of_getElem? hcj)
        have gxs := (F.has (P := fun o => o = oxs) (a := xs) (by walk_at "m")).choose_spec.2.2
        have fin : ∀ {h' t' ox'}, Gw [xs] g₄ h₆ g₄ h' → h'.get? xs = some ox' → treeO d.tree dxs (vss.set i v) ox' → Q .none (St c h' t') := fun G e1 e2 => by
          have F := F.callG (μ' := [(xs, treeO d.tree dxs (vss.set i v))]) G (fun b hb => by simp at hb; subst hb; simp) rfl (fun p hp => by
            simp only [List.mem_cons, List.not_mem_nil, or_false] at hp
            subst hp; exact .inr ⟨_, e1, e2⟩)
          exact k _ _ _ F.drop1.gw.drop e1 e2
        have instc : ∃ xc oxc odc, vi = .ref xc ∧ InstAt h xc oxc d.tree (some odc) := by
          cases tj with
          | leaf s u => cases va'
          | node b1 b2 b3 b4 b5 => exact ⟨_, _, _, rfl, b2.inst b1 b3⟩
        obtain ⟨xc, oxc, odc, rfl, Ic⟩ := instc
        have Ic' : InstAt h₆ xc oxc d.tree (some odc) := by
          obtain ⟨q1, q2, q3, q4⟩ := Ic
          refine ⟨L _ _ q1, q2, q3, ?_⟩
          cases hdc : oxc.dict with
          | none => rw [hdc] at q4; exact q4
          | some dd => rw [hdc] at q4; exact L _ _ q4
        refine setItemT (F.kin W) Y.tree Ic' Y.setitem.find (beq_iff_eq.mp Y.setitem.isf) ?_
        have kk := fun tt Q' hQ => ih (A := A') (g := g₄) (h := h₆) (t := tt) (Q := Q') (W.mono F.gw.le) (tj.mono L) (by omega) (va'.mono L) (L _ _ hxs) hos (L _ _ hds) gxs isp (by omega) F.gw.sub (R.mono (by omega)) hQ
        refine (fun (z : ∃ xa, Value.ref xc = .ref xa ∧ Wp w A' (call (.ref m.setitem) [.ref xa, .ref l2, v]) _ _) => by obtain ⟨xa', e', kk⟩ := z; cases e'; exact kk) (kk _ _ fun h' t' ox' G e1 e2 => xNil (xNil (xNil (xNil (xNil ?_)))))
        exact fin G e1 e2
end
end TL

end
section
open PySem PySem.W PyProof.Rows PySem.Calls Builtin Builtin.ObjectAttr
set_option maxRecDepth 100000
set_option linter.unusedVariables false
set_option linter.unusedSimpArgs false
set_option pp.deepTerms false
set_option pp.deepTerms.threshold 4
set_option pp.maxSteps 2000
namespace TL
open TL
local macro_rules | `(tactic| walk_at "at") => `(tactic| repeat (first | exact At.head | apply At.tail))
local macro_rules | `(tactic| walk_at "put") => `(tactic| repeat (first | exact Put.head | apply Put.tail))
local macro_rules | `(tactic| walk_at "m") => `(tactic| repeat (first | exact List.Mem.head _ | apply List.Mem.tail))
local macro_rules | `(tactic| walk_at "mput") => `(tactic| repeat (first | exact MPut.head | apply MPut.tail))
/-- reading on: the parts to come, the tree so far, the open place, the tree at the end -/
inductive Rd : List Str → Nd → List Nat → Nd → Prop
  | done {nd : Nd} {p : List Nat} : Rd [] nd p nd
  | up {r : List Str} {nd res : Nd} {p : List Nat} : Rd r nd p.dropLast res → p.length ≤ 24 → Rd (")" :: r) nd p res
  | word {x : Str} {r : List Str} {nd res : Nd} {p : List Nat} {l : Str} {cs : List Nd} : x ≠ ")" → x ≠ "(" → nd.at p = some (.node l cs) → nd.siz ≤ 9000 → p.length ≤ 24 → Rd r (nd.mod (· ++ [.leaf x]) p) p res → Rd (x :: r) nd p res
  | down {y : Str} {r : List Str} {nd res : Nd} {p : List Nat} {l : Str} {cs : List Nd} : nd.at p = some (.node l cs) → nd.siz ≤ 9000 → p.length ≤ 24 → Rd r (nd.mod (· ++ [.node y []]) p) (p ++ [cs.length]) res → Rd ("(" :: y :: r) nd p res
section
variable {w : World} {A : Around} {env : Env} {S : List Addr} {g₀ h₀ g h : Heap} {μ μ' M : Mu} {lc : Lc} {c : Shared} {t : Tok} {Q : Value → Shared → Prop} {K : Frag} {mg mb : Str → Option Value} {d : Ad} {m : Md} {pos p : Pos}
/-- a node of ours, with all that is told of it -/
structure Own (F_g h : Heap) (C x dx : Addr) (l : Str) (vs : List Value) : Prop where
  o : ∃ ox od, h.get? x = some ox ∧ treeO C dx vs ox ∧ h.get? dx = some od ∧ lblO l od
  gx : F_g.get? x = none
  gd : F_g.get? dx = none
  ne : x ≠ dx
theorem Fm.ownT {C x dx : Addr} {l : Str} {vs : List Value} (F : Fm env S g₀ h₀ g μ lc h) (m1 : (x, treeO C dx vs) ∈ μ) (m2 : (dx, lblO l) ∈ μ) : Own g h C x dx l vs := by
  obtain ⟨ox, a1, a2, a3⟩ := F.has m1
  obtain ⟨od, b1, b2, b3⟩ := F.has m2
  refine ⟨⟨ox, od, a1, a2, b1, b2⟩, a3, b3, fun e => ?_⟩
  subst e
  rw [a1] at b1; cases b1
  obtain ⟨n, e1⟩ := a2
  obtain ⟨_, _, _, _, e2⟩ := b2
  rw [e1] at e2
  cases e2
theorem TT.node_of {T : TT} {l : Str} {cs : List Nd} (h : T.nd = .node l cs) : ∃ x dx ts, T = .node x dx l ts ∧ ts.map TT.nd = cs := by
  cases T with
  | leaf s u => simp [TT.nd] at h
  | node x dx l' ts =>
    simp only [TT.nd, ndL_map, Nd.node.injEq] at h
    obtain ⟨rfl, h⟩ := h
    exact ⟨x, dx, ts, rfl, h⟩
theorem TT.sub_mem {C : Addr} : ∀ {p : List Nat} {T : TT} {x dx : Addr} {l : Str} {cs : List TT}, T.sub p = some (.node x dx l cs) → (x, treeO C dx (cs.map TT.val)) ∈ T.mu C ∧ (dx, lblO l) ∈ T.mu C := fun h => let ⟨_, _, _, a, b⟩ := TT.mu_mod (C := C) (f := id) (N := []) h (fun q hq => .inl hq) (fun a => Nat.le_add_right _ _); ⟨a, b⟩
theorem at_root {p : List Nat} {nd nd' : Nd} {l : Str} {cs : List Nd} (h : nd.at p = some (.node l cs)) : ∃ l' cs', nd = .node l' cs' := by
  cases nd with
  | leaf s => cases p <;> simp [Nd.at] at h
  | node l' cs' => exact ⟨l', cs', rfl⟩
/-- tree[place] -/
theorem getPlace (X : Wk K mg mb d) (Y : TM K d m) (W : Wg K mg mb g₀) {T : TT} {p : List Nat} {l : Str} {cs : List Nd} {vp : Value} {value slice : Expr} (F : Fm env S g₀ h₀ g (T.mu d.tree ++ M) lc h) (hat : T.nd.at p = some (.node l cs)) (hp : Is g vp (pyP p)) (hl : p.length ≤ 100) (hz : T.nd.siz ≤ 10000) (hs : noSl slice = true) (room : Room A (2 * p.length + 6))
    (k : ∀ h' t' x dx ts, Fm env S g₀ h₀ g (T.mu d.tree ++ M) lc h' → T.sub p = some (.node x dx l ts) → ts.map TT.nd = cs → Q (.ref x) (St c h' t')) : Wp w A (subscriptTail value slice T.val vp) Q (St c h t) := by
  have has : ∀ q ∈ T.mu d.tree, ∃ o, h.get? q.1 = some o ∧ q.2 o := fun q hq => (F.mu q (List.mem_append_left _ hq)).1
  obtain ⟨Ts, hsub, hnd⟩ := TT.nd_sub hat
  obtain ⟨x, dx, ts, rfl, hts⟩ := TT.node_of hnd
  obtain ⟨l0, cs0, e0⟩ := at_root (nd' := T.nd) hat
  obtain ⟨x0, dx0, ts0, rfl, _⟩ := TT.node_of e0
  have m0 := TT.sub_mem (C := d.tree) (T := .node x0 dx0 l0 ts0) (p := []) rfl
  obtain ⟨⟨ox, od, a1, a2, a3, a4⟩, _, _, _⟩ := F.ownT (List.mem_append_left _ m0.1) (List.mem_append_left _ m0.2)
  refine tItemT (F.kin W) (a2.inst a1 a3) Y.getitem.find (beq_iff_eq.mp Y.getitem.isf) Y.giFn hs ?_
  obtain ⟨x', e', kk⟩ := gi_place X Y p _ _ (A := A.in1) (g := h) (h := h) (t := t) (Q := Q) (W.mono (F.gw.le.trans F.gw.sub)) (TT.tr has) ⟨_, _, e0⟩ hat (hp.mono F.gw.sub) hl hz (Le.refl _) (room.in1.mono (by omega)) fun h' t' v' G va tv => by
    have := va.det (TT.vat has hsub)
    subst this
    exact k h' t' x dx ts (F.ext G.all) hsub hts
  cases e'
  exact kk
theorem glr2_parts : Gl (scopeOf (stI 14)) (Str.ofString "_law_parts") := by decide +kernel
theorem glr2_tree : Gl (scopeOf (stI 14)) (Str.ofString "Tree") := by decide +kernel
theorem glr2_len : Gl (scopeOf (stI 14)) (Str.ofString "len") := by decide +kernel
def psRead : List Str := ["text"]
def osRead : List Str := ["parts", "tree", "place", "at", "above", "many"]
theorem okRead : okFn (stI 14) psRead osRead = true := by decide +kernel
theorem siz_mod_le : ∀ {nd : Nd} {p : List Nat} {f : List Nd → List Nd} {k : Nat}, (∀ cs, sizs (f cs) ≤ sizs cs + k) → (nd.mod f p).siz ≤ nd.siz + k
  | .leaf s, p, f, k, h => by cases p <;> simp [Nd.mod]
  | .node l cs, [], f, k, h => by simp only [Nd.mod, Nd.siz]; have := h cs; omega
  | .node l cs, i :: p, f, k, h => by
    simp only [Nd.mod]
    cases q : cs[i]? with
    | none => simp [Nd.siz]
    | some c =>
      have ih := siz_mod_le (nd := c) (p := p) h
      have hset : ∀ {cs : List Nd} {i : Nat}, cs[i]? = some c → sizs (cs.set i (c.mod f p)) + c.siz = sizs cs + (c.mod f p).siz := by
        intro cs
        induction cs with
        | nil => intro i h; simp at h
        | cons d ds ihd =>
          intro i h
          cases i with
          | zero => simp at h; subst h; simp only [List.set_cons_zero, sizs]; omega
          | succ i => have := ihd (i := i) (by simpa using h); simp only [List.set_cons_succ, sizs]; omega
      have := hset q
      simp only [Nd.siz]; omega
theorem read_spec (X : Wk K mg mb d) (Y : TM K d m) (W : Wg K mg mb g) {x : Str} {u : Tok} {y : Str} {toks : List Str} {res : Nd} (le : Le g h) (room : Room A 60) (hz : x.length ≤ 100000) (hz' : (Txt.replace x "(" "( ").length ≤ 200001) (hz'' : (Txt.replace (Txt.replace x "(" "( ") ")" " )").length ≤ 1000000)
    (hp : partsT x = Str.ofString "(" :: y :: toks) (hlen : toks.length ≤ 50000) (rd : Rd toks (.node y []) [] res)
    (k : ∀ h' t' T, Gw [] g h g h' → T.nd = res → FreshT d.tree h h' T → Q T.val (St c h' t')) : Wp w A (call (.ref d.read) [.str x u]) Q (St c h t) := by
  refine call_fn psRead osRead (S := []) W X.read.2 le room okRead (fun _ _ _ _ _ _ _ => rfl) rfl fun env h₁ t₁ A' R esc ecl hk ht F => ?_
  dsimp only [psRead, osRead, mkLc, List.map] at F
  refine xAsg (eCallF F W (esc ▸ glr2_parts) X.parts (sCons (ld F (by walk_at "at") (sNil ⟨F.kin W, ?_⟩))))
  refine parts_spec X W F.gw.sub (R.mono (by omega)) hz hz' hz'' fun g₁ h₂ t₂ D vs G hD hs => ?_
  have F := F.call G
  refine stL F (by walk_at "put") fun h₃ t₃ F => ?_
  rw [hp] at hs
  have hall := hs.is (g := g₁)
  have vlen : vs.length = toks.length + 2 := by have := hall.len; simpa using this
  obtain ⟨v1, ev1, iv1⟩ := hall.get (i := 1) (d := .str y) rfl
  obtain ⟨u1, rfl⟩ := iv1.of_str
  refine xAsg (eCallC F W (esc ▸ glr2_tree) X.treeC Y.keepT (sCons (eSub (ld F (by walk_at "at") (eInt fun _ => ?_)))))
  refine tItem (F.gl' hD) (by decide) (by decide) ev1 rfl ?_
  refine sCons (eList (sNil (nLst F (Nat.zero_le _) fun l0 g₂ h₄ F le₂ hl0 => sNil ⟨F.kin W, ?_⟩)))
  refine cTree X Y F W (F.gl' hl0) (Nat.zero_le _) (R.mono (by omega)) fun x0 dx0 h₅ t₅ F => ?_
  refine stL F (by walk_at "put") fun h₆ t₆ F => ?_
  refine xAsg (eTuple (sNil (nTup F (Nat.zero_le _) fun lp g₃ h₇ F le₃ hlp => ?_)))
  refine stL F (by walk_at "put") fun h₈ t₈ F => ?_
  refine xAsg (eInt fun t₉ => ?_)
  refine stL F (by walk_at "put") fun h₉ t₁₀ F => ?_
  have hD3 := hD.up (le₂.trans le₃)
  refine xWhile (fun n s => ∃ (g₁ h₁ : Heap) (t₁ : Tok) (T : TT) (vp : Value) (at_ : Nat) (ua : Tok) (p : List Nat) (tk : List Str) (oa om : Option Value), s = St c h₁ t₁ ∧ Fm env [] g h g₁ (T.mu d.tree ++ []) [(Str.ofString "text", some (.str x u)), (Str.ofString "parts", some (.ref D)), (Str.ofString "tree", some T.val), (Str.ofString "place", some vp), (Str.ofString "at", some (.int (at_ : Nat) ua)), (Str.ofString "above", oa), (Str.ofString "many", om)] h₁ ∧
      Le g₃ g₁ ∧ Is g₁ vp (pyP p) ∧ ((Str.ofString "(" :: y :: toks).drop at_) = tk ∧ n = tk.length ∧ Rd tk T.nd p res) toks.length
    ⟨g₃, h₉, _, .node x0 dx0 y [], .ref lp, 2, t₈, [], toks, none, none, rfl, by simpa [TT.mu, muL, TT.val] using F, Le.refl _, .tuple hlp .nil, rfl, rfl, by simpa [TT.nd, ndL] using rd⟩ ?_
  rintro n s ⟨g₄, h₁₀, t₁₁, T, vp, at_, ua, p, tk, oa, om, rfl, F, le₄, isp, etk, en, rd⟩
  have hD4 := hD3.up le₄
  refine tCmp (ld F (by walk_at "at") (eCallB F W (esc ▸ glr2_len) X.len (sCons (ld F (by walk_at "at") (sNil ?_)))))
  refine cLen (F.gl' hD4) (by omega) fun u₂ t₁₂ => oLt (tBool ?_)
  have tklen : tk.length = toks.length + 2 - at_ := by rw [← etk, List.length_drop]; simp
  have getp : ∀ {j : Nat} {s : Str}, tk[j]? = some s → ∃ us, vs[at_ + j]? = some (.str s us) := fun {j s} e => by
    rw [← etk, List.getElem?_drop] at e
    obtain ⟨v, ev, iv⟩ := hall.get (i := at_ + j) (d := .str s) (by rw [List.getElem?_map, e]; rfl)
    obtain ⟨us, rfl⟩ := iv.of_str
    exact ⟨us, ev⟩
  cases htk : tk with
  | nil =>
    rw [htk] at tklen rd
    simp only [List.length_nil] at tklen
    rw [show decide ((at_ : Int) < (vs.length : Int)) = false from decide_eq_false (by omega), if_neg (by decide)]
    refine xRet (ld F (by walk_at "at") ?_)
    rw [List.append_nil] at F
    cases rd
    exact k _ _ T F.gw.drop rfl F.fresh
  | cons z r =>
    rw [htk] at tklen rd
    have tklen' : r.length + 1 = toks.length + 2 - at_ := by simpa using tklen
    rw [show decide ((at_ : Int) < (vs.length : Int)) = true from decide_eq_true (by omega), if_pos rfl]
    obtain ⟨uz, evz⟩ := getp (j := 0) (s := z) (by rw [htk]; rfl)
    rw [Nat.add_zero] at evz
    have drop1 : ∀ {r' : List Str} {j : Nat}, tk.drop j = r' → ((Str.ofString "(" :: y :: toks).drop (at_ + j)) = r' := fun e => by rw [← e, ← etk, List.drop_drop]
    refine xIf (tCmp (eSub (ld F (by walk_at "at") (ld F (by walk_at "at") ?_))))
    refine tItem (F.gl' hD4) (by omega) (by omega) (by rw [Int.toNat_natCast]; exact evz) rfl ?_
    refine eStr fun _ => oEqS (tBool ?_)
    cases rd with
    | up rd hpl =>
      rw [beq_self_eq_true]
      obtain ⟨lp', pvs, rfl, hlp', hip⟩ := isp.of_tuple
      have lpv : pvs.length = p.length := by have := hip.len; simpa using this
      refine xAsg (eSub (ld F (by walk_at "at") (eSl (pNone (pSome (eM1 fun u₃ t₁₃ => ?_))))))
      obtain ⟨g₅, F, le₅, hsl, _⟩ := F.sliceH .none (.int (-1) u₃)
      refine sliceT (vs := pvs) F (hlp'.up le₅) hsl .none (.int _ _) (zL (by omega)) fun l2 g₆ h₁₁ F le₆ hl2 => ?_
      rw [cut_init] at hl2
      refine stL F (by walk_at "put") fun h₁₂ t₁₄ F => xNil ?_
      refine xAsg (eBin (ld F (by walk_at "at") (eInt fun _ => oAdd fun u₄ t₁₅ => ?_)))
      refine stL F (by walk_at "put") fun h₁₃ t₁₆ F => xNil ?_
      refine ⟨.inl rfl, r.length, by rw [en, htk]; simp, g₆, h₁₃, _, T, .ref l2, at_ + 1, u₄, p.dropLast, r, oa, om, rfl, F, le₄.trans (le₅.trans le₆), ?_, drop1 (by rw [htk]; rfl), rfl, rd⟩
      unfold pyP
      rw [List.map_dropLast]
      have := (hip.mono (le₅.trans le₆)).take (pvs.length - 1)
      rw [← List.dropLast_eq_take, lpv] at this
      rw [List.dropLast_eq_take (l := List.map _ _), List.length_map]
      exact .tuple hl2 this
    | @word _ _ _ _ _ l cs hn1 hn2 hat hsz hpl rd =>
      rw [show (z == Str.ofString ")") = false by rw [beq_eq_false_iff_ne]; exact hn1]
      refine xAsg (eSub (ld F (by walk_at "at") (ld F (by walk_at "at") ?_)))
      refine getPlace X Y W F hat isp (by omega) (by omega) rfl (R.mono (by omega)) fun h₁₁ t₁₃ xa dxa ts F hsub hts => ?_
      refine stL F (by walk_at "put") fun h₁₂ t₁₄ F => ?_
      have ms := TT.sub_mem (C := d.tree) hsub
      obtain ⟨⟨oxa, oda, a1, a2, a3, a4⟩, gx, gd, ne⟩ := F.ownT (List.mem_append_left _ ms.1) (List.mem_append_left _ ms.2)
      have zts : ts.length ≤ 9000 := by
        have h1 := siz_pos T.nd
        have h2 := len_sizs cs
        have h3 : cs.length = ts.length := by rw [← hts, List.length_map]
        have h4 : (Nd.node l cs).siz ≤ T.nd.siz := by
          have : ∀ (p : List Nat) (a b : Nd), a.at p = some b → b.siz ≤ a.siz := by
            intro p
            induction p with
            | nil => intro a b e; cases a <;> (simp [Nd.at] at e; rw [← e]; exact Nat.le_refl _)
            | cons i p ih =>
              intro a b e
              cases a with
              | leaf s => simp [Nd.at] at e
              | node l' cs' =>
                simp only [Nd.at] at e
                obtain ⟨c', hc', e⟩ := Option.bind_eq_some_iff.mp e
                have := ih _ _ e
                have := siz_lt (l := l') (List.mem_of_getElem? hc')
                omega
          exact this _ _ _ hat
        simp only [Nd.siz] at h4; omega
      refine xAsg (eCallB F W (esc ▸ glr2_len) X.len (sCons (ld F (by walk_at "at") (sNil ?_))))
      refine cLenT (F.kin W) Y.tree (a2.inst a1 a3) a2 (by rw [List.length_map]; omega) fun u₃ t₁₅ => ?_
      rw [List.length_map]
      refine stL F (by walk_at "put") fun h₁₃ t₁₆ F => ?_
      refine xIf (tCmp (eSub (ld F (by walk_at "at") (ld F (by walk_at "at") ?_))))
      refine tItem (F.gl' hD4) (by omega) (by omega) (by rw [Int.toNat_natCast]; exact evz) rfl ?_
      refine eStr fun _ => oEqS (tBool ?_)
      rw [show (z == Str.ofString "(") = false by rw [beq_eq_false_iff_ne]; exact hn2]
      refine xSetItem (eList (sCons (eSub (ld F (by walk_at "at") (ld F (by walk_at "at") ?_)))))
      refine tItem (F.gl' hD4) (by omega) (by omega) (by rw [Int.toNat_natCast]; exact evz) rfl ?_
      refine sNil (nLst F (zL (Nat.le_add_left 1 99999)) fun ln g₅ h₁₄ F le₅ hln => ?_)
      refine ld F (by walk_at "at") (eSl (pSome (ld F (by walk_at "at") (pNone ?_))))
      obtain ⟨g₆, F, le₆, hsl, esl⟩ := F.sliceH (.int (ts.length : Nat) u₃) .none
      obtain ⟨⟨oxa, oda, a1, a2, a3, a4⟩, gx, gd, ne⟩ := F.ownT (List.mem_append_left _ ms.1) (List.mem_append_left _ ms.2)
      have hln' := hln.up le₆
      refine setItemT (F.kin W) Y.tree (a2.inst a1 a3) Y.setitem.find (beq_iff_eq.mp Y.setitem.isf) ?_
      refine si_slice X Y (W.mono F.gw.le) a1 a2 a3 ne gx (hsl.up F.gw.sub) (.int _ _) .none (fun e => by rw [e, gx] at esl; cases esl) (F.gl' hln') (fun e => by obtain ⟨o, q, _⟩ := hln'; rw [e, gx] at q; cases q) (by rw [List.length_map]; simp; omega) F.gw.sub (R.mono (by omega)) fun h₁₅ t₁₇ ox' G e1 e2 => ?_
      rw [show ((ts.length : Nat) : Int) = ((ts.map TT.val).length : Int) by rw [List.length_map], spl_end] at e2
      have F : Fm env [] g h g₆ ((T.mod (· ++ [.leaf z uz]) p).mu d.tree ++ []) _ h₁₅ := (show Fm env [] g h g₆ (T.mu d.tree ++ [] ++ []) _ _ by simpa using F).turnT (f := (· ++ [.leaf z uz])) (N := []) G hsub (fun q hq => by
        rw [muL_app] at hq; simpa [muL, TT.mu] using hq) (fun a => by rw [muL_app]; simp [muL, TT.mu]) e1 (by simpa [TT.val] using e2)
      refine xNil (xNil ?_)
      refine xAsg (eBin (ld F (by walk_at "at") (eInt fun _ => oAdd fun u₄ t₁₈ => ?_)))
      refine stL F (by walk_at "put") fun h₁₆ t₁₉ F => xNil ?_
      refine ⟨.inl rfl, r.length, by rw [en, htk]; simp, g₆, h₁₆, _, T.mod (· ++ [.leaf z uz]) p, vp, at_ + 1, u₄, p, r, _, _, rfl, by rw [TT.val_mod]; exact F, le₄.trans (le₅.trans le₆), isp.mono (le₅.trans le₆), drop1 (by rw [htk]; rfl), rfl, ?_⟩
      rw [TT.nd_mod (f' := (· ++ [.leaf z])) (fun cs => by simp [TT.nd])]
      exact rd
    | @down y' r' _ _ _ l cs hat hsz hpl rd =>
      rw [show (Str.ofString "(" == Str.ofString ")") = false by decide]
      refine xAsg (eSub (ld F (by walk_at "at") (ld F (by walk_at "at") ?_)))
      refine getPlace X Y W F hat isp (by omega) (by omega) rfl (R.mono (by omega)) fun h₁₁ t₁₃ xa dxa ts F hsub hts => ?_
      refine stL F (by walk_at "put") fun h₁₂ t₁₄ F => ?_
      have ms := TT.sub_mem (C := d.tree) hsub
      obtain ⟨⟨oxa, oda, a1, a2, a3, a4⟩, gx, gd, ne⟩ := F.ownT (List.mem_append_left _ ms.1) (List.mem_append_left _ ms.2)
      have zts : ts.length ≤ 9000 := by
        have h1 := siz_pos T.nd
        have h2 := len_sizs cs
        have h3 : cs.length = ts.length := by rw [← hts, List.length_map]
        have h4 : (Nd.node l cs).siz ≤ T.nd.siz := by
          have : ∀ (p : List Nat) (a b : Nd), a.at p = some b → b.siz ≤ a.siz := by
            intro p
            induction p with
            | nil => intro a b e; cases a <;> (simp [Nd.at] at e; rw [← e]; exact Nat.le_refl _)
            | cons i p ih =>
              intro a b e
              cases a with
              | leaf s => simp [Nd.at] at e
              | node l' cs' =>
                simp only [Nd.at] at e
                obtain ⟨c', hc', e⟩ := Option.bind_eq_some_iff.mp e
                have := ih _ _ e
                have := siz_lt (l := l') (List.mem_of_getElem? hc')
                omega
          exact this _ _ _ hat
        simp only [Nd.siz] at h4; omega
      have lts : ts.length = cs.length := by rw [← hts, List.length_map]
      refine xAsg (eCallB F W (esc ▸ glr2_len) X.len (sCons (ld F (by walk_at "at") (sNil ?_))))
      refine cLenT (F.kin W) Y.tree (a2.inst a1 a3) a2 (by rw [List.length_map]; omega) fun u₃ t₁₅ => ?_
      rw [List.length_map]
      refine stL F (by walk_at "put") fun h₁₃ t₁₆ F => ?_
      refine xIf (tCmp (eSub (ld F (by walk_at "at") (ld F (by walk_at "at") ?_))))
      refine tItem (F.gl' hD4) (by omega) (by omega) (by rw [Int.toNat_natCast]; exact evz) rfl ?_
      refine eStr fun _ => oEqS (tBool ?_)
      rw [beq_self_eq_true]
      simp only [List.length_cons] at tklen'
      refine xAsg (eBin (ld F (by walk_at "at") (eInt fun _ => oAdd fun u₄ t₁₇ => ?_)))
      refine stL F (by walk_at "put") fun h₁₄ t₁₈ F => ?_
      obtain ⟨uy, evy⟩ := getp (j := 1) (s := y') (by rw [htk]; rfl)
      refine xSetItem (eList (sCons (eCallC F W (esc ▸ glr2_tree) X.treeC Y.keepT (sCons (eSub (ld F (by walk_at "at") (ld F (by walk_at "at") ?_)))))))
      refine tItem (F.gl' hD4) (by omega) (by omega) (by rw [show ((at_ : Int) + 1).toNat = at_ + 1 by omega]; exact evy) rfl ?_
      refine sCons (eList (sNil (nLst F (Nat.zero_le _) fun le0 g₅ h₁₅ F le₅ hle => sNil ⟨F.kin W, ?_⟩)))
      refine cTree X Y F W (F.gl' hle) (Nat.zero_le _) (R.mono (by omega)) fun xn dxn h₁₆ t₁₉ F => ?_
      refine sNil (nLst F (zL (Nat.le_add_left 1 99999)) fun ln g₆ h₁₇ F le₆ hln => ?_)
      refine ld F (by walk_at "at") (eSl (pSome (ld F (by walk_at "at") (pNone ?_))))
      obtain ⟨g₇, F, le₇, hsl, esl⟩ := F.sliceH (.int (ts.length : Nat) u₃) .none
      have F : Fm env [] g h g₇ (T.mu d.tree ++ [(xn, treeO d.tree dxn []), (dxn, lblO y')] ++ []) _ _ := F.perm (by simpa using (List.perm_append_comm (l₁ := [(xn, treeO d.tree dxn []), (dxn, lblO y')]) (l₂ := T.mu d.tree)))
      obtain ⟨⟨oxa, oda, a1, a2, a3, a4⟩, gx, gd, ne⟩ := F.ownT (List.mem_append_left _ (List.mem_append_left _ ms.1)) (List.mem_append_left _ (List.mem_append_left _ ms.2))
      have hln' := hln.up le₇
      refine setItemT (F.kin W) Y.tree (a2.inst a1 a3) Y.setitem.find (beq_iff_eq.mp Y.setitem.isf) ?_
      refine si_slice X Y (W.mono F.gw.le) a1 a2 a3 ne gx (hsl.up F.gw.sub) (.int _ _) .none (fun e => by rw [e, gx] at esl; cases esl) (F.gl' hln') (fun e => by obtain ⟨o, q, _⟩ := hln'; rw [e, gx] at q; cases q) (by rw [List.length_map]; simp; omega) F.gw.sub (R.mono (by omega)) fun h₁₈ t₂₀ ox' G e1 e2 => ?_
      rw [show ((ts.length : Nat) : Int) = ((ts.map TT.val).length : Int) by rw [List.length_map], spl_end] at e2
      have F : Fm env [] g h g₇ ((T.mod (· ++ [.node xn dxn y' []]) p).mu d.tree ++ []) _ h₁₈ := F.turnT (f := (· ++ [.node xn dxn y' []])) (N := [(xn, treeO d.tree dxn []), (dxn, lblO y')]) G hsub (fun q hq => by
        rw [muL_app] at hq; simpa [muL, TT.mu] using hq) (fun a => by rw [muL_app, cnt_app]; simp [muL, TT.mu]) e1 (by simpa [TT.val] using e2)
      have up := le₅.trans (le₆.trans le₇)
      obtain ⟨lp', pvs, rfl, hlp', hip⟩ := isp.of_tuple
      have lpv : pvs.length = p.length := by have := hip.len; simpa using this
      refine xAsg (eBin (ld F (by walk_at "at") (eTuple (sCons (ld F (by walk_at "at") (sNil ?_))))))
      refine nTup F (zL (Nat.le_add_left 1 99999)) fun lq g₈ h₁₉ F le₈ hlq => ?_
      refine oAddT F (hlp'.up (up.trans le₈)) hlq (zL (by simp; omega)) fun l2 g₉ h₂₀ F le₉ hl2 => ?_
      refine stL F (by walk_at "put") fun h₂₁ t₂₁ F => xNil (xNil ?_)
      refine xAsg (eBin (ld F (by walk_at "at") (eInt fun _ => oAdd fun u₅ t₂₂ => ?_)))
      refine stL F (by walk_at "put") fun h₂₂ t₂₃ F => xNil ?_
      refine ⟨.inl rfl, r'.length, by rw [en, htk]; simp; omega, g₉, h₂₂, _, T.mod (· ++ [.node xn dxn y' []]) p, .ref l2, at_ + 2, u₅, p ++ [cs.length], r', _, _, rfl, by rw [TT.val_mod]; exact F, le₄.trans (up.trans (le₈.trans le₉)), ?_, drop1 (by rw [htk]; rfl), rfl, ?_⟩
      · refine .tuple hl2 ?_
        have := hip.mono (up.trans (le₈.trans le₉))
        rw [List.map_append]
        exact this.app (lts ▸ .cons (.int _ _) .nil)
      · rw [TT.nd_mod (f' := (· ++ [.node y' []])) (fun cs => by simp [TT.nd, ndL])]
        exact rd
end
end TL

end
section
open PySem PySem.W PyProof.Rows PySem.Calls Builtin Builtin.ObjectAttr
set_option maxRecDepth 100000
set_option linter.unusedVariables false
set_option linter.unusedSimpArgs false
set_option pp.deepTerms false
set_option pp.deepTerms.threshold 4
set_option pp.maxSteps 2000
set_option maxHeartbeats 1000000
namespace TL
open TL
local macro_rules | `(tactic| walk_at "at") => `(tactic| repeat (first | exact At.head | apply At.tail))
local macro_rules | `(tactic| walk_at "put") => `(tactic| repeat (first | exact Put.head | apply Put.tail))
local macro_rules | `(tactic| walk_at "m") => `(tactic| repeat (first | exact List.Mem.head _ | apply List.Mem.tail))
local macro_rules | `(tactic| walk_at "mput") => `(tactic| repeat (first | exact MPut.head | apply MPut.tail))
/-- a leaf -/
def lf : Nd → Bool
  | .leaf _ => true
  | .node _ _ => false
/-- the rows of the leaves -/
def wrds (nd : Nd) (p : List Nat) : List (List Nat × Nd) := (places nd p).filter fun r => lf r.2
def wrdsL (cs : List Nd) (p : List Nat) (i : Nat) : List (List Nat × Nd) := (placess cs p i).filter fun r => lf r.2
/-- children with their places -/
def chE : List Nd → List Nat → Nat → List (Nd × List Nat)
  | [], _, _ => []
  | c :: cs, p, i => (c, p ++ [i]) :: chE cs p (i + 1)
theorem chE_len : ∀ (cs : List Nd) (p : List Nat) (i : Nat), (chE cs p i).length = cs.length
  | [], _, _ => rfl
  | c :: cs, p, i => by simp [chE, chE_len cs p (i + 1)]
theorem chE_at : ∀ (cs : List Nd) (p : List Nat) (i j : Nat) {c : Nd}, cs[j]? = some c → (chE cs p i)[j]? = some (c, p ++ [i + j])
  | [], _, _, _, _, h => by simp at h
  | d :: cs, p, i, 0, c, h => by simp at h; simp [chE, h]
  | d :: cs, p, i, j + 1, c, h => by
    have := chE_at cs p (i + 1) j (by simpa using h)
    simp only [chE, List.getElem?_cons_succ, this]
    rw [show i + 1 + j = i + (j + 1) by omega]
theorem chE_fst : ∀ (cs : List Nd) (p : List Nat) (i : Nat), (chE cs p i).map (·.1) = cs
  | [], _, _ => rfl
  | c :: cs, p, i => by simp [chE, chE_fst cs p (i + 1)]
/-- the leaves to come, top first -/
def pend : List (Nd × List Nat) → List (List Nat)
  | [] => []
  | e :: r => (wrds e.1 e.2).map (·.1) ++ pend r
theorem pend_app : ∀ a b : List (Nd × List Nat), pend (a ++ b) = pend a ++ pend b
  | [], b => rfl
  | e :: a, b => by simp [pend, pend_app a b]
theorem pend_chE : ∀ (cs : List Nd) (p : List Nat) (i : Nat), pend (chE cs p i) = (wrdsL cs p i).map (·.1)
  | [], _, _ => rfl
  | c :: cs, p, i => by simp [pend, chE, wrdsL, wrds, placess, pend_chE cs p (i + 1)]
theorem sizs_rev : ∀ a : List Nd, sizs a.reverse = sizs a
  | [] => rfl
  | c :: a => by rw [List.reverse_cons, sizs_app, sizs_rev a]; simp [sizs]; omega
theorem All2.rev {α β : Type} {R : α → β → Prop} {as : List α} {bs : List β} (h : All2 R as bs) : All2 R as.reverse bs.reverse := by
  induction h with
  | nil => exact .nil
  | cons a _ ih => rw [List.reverse_cons, List.reverse_cons]; exact ih.app (.cons a .nil)
theorem All2.snoc {α β : Type} {R : α → β → Prop} {as : List α} {bs : List β} {b : β} (h : All2 R as (bs ++ [b])) : ∃ as' a, as = as' ++ [a] ∧ All2 R as' bs ∧ R a b := by
  have := h.rev
  rw [List.reverse_append, List.reverse_singleton, List.singleton_append] at this
  cases e : as.reverse with
  | nil => rw [e] at this; cases this
  | cons a r =>
    rw [e] at this
    cases this with
    | cons x y =>
      refine ⟨r.reverse, a, ?_, by simpa using y.rev, x⟩
      rw [← List.reverse_reverse as, e, List.reverse_cons]
/-- a row of the stack -/
def Ste (g : Heap) (C : Addr) (v : Value) (e : Nd × List Nat) : Prop := ∃ a tv pv, v = .ref a ∧ g.IsTuple a [tv, pv].toArray ∧ Tr g C tv e.1 ∧ Is g pv (pyP e.2)
theorem Ste.mono {g h : Heap} {C : Addr} {v : Value} {e : Nd × List Nat} (x : Ste g C v e) (l : Le g h) : Ste h C v e := let ⟨a, tv, pv, e1, e2, e3, e4⟩ := x; ⟨a, tv, pv, e1, e2.up l, e3.mono l, e4.mono l⟩
section
variable {w : World} {A : Around} {env : Env} {S : List Addr} {g₀ h₀ g h : Heap} {μ μ' M : Mu} {lc : Lc} {c : Shared} {t : Tok} {Q : Value → Shared → Prop} {K : Frag} {mg mb : Str → Option Value} {d : Ad} {m : Md} {pos p : Pos} {i j : Tok} {a b : Int}
theorem oIsubI (k : ∀ u t', Q (.int (a - b) u) (St c h t')) : Wp w A (inplaceOp .Sub (.int a i) (.int b j)) Q (St c h t) := ⟨PyProof.Rows.isub_int (s := St c h t) (k _ _)⟩
/-- t1, t2 = e -/
theorem xUnp {tp : Pos} {x y : Str} {p' : Pos} {value : Expr} {rest : List Stmt} {n : Nat} {Q : Flow → Shared → Prop} (hh : A.handled = none)
    (k : Wp w A (eval value env) (fun v s₁ => ∃ h g μ lc t c l a b, s₁ = St c h t ∧ v = .ref l ∧ Fm env S g₀ h₀ g μ lc h ∧ g.IsTuple l [a, b].toArray ∧
      ∀ h' t', Fm env S g₀ h₀ g μ lc h' → Wp w A (storeName env x a) (fun _ s₂ => Wp w A (storeName env y b) (fun _ s₃ => Wp w A (execs rest env) Q s₃) s₂) (St c h' t')) s)
    (hs : swapsWithSole [.Tuple [.Name x p, .Name y p'] n tp] value pos.line env = pure false := by rfl) (hw : swappedStores [.Tuple [.Name x p, .Name y p'] n tp] value env = pure none := by rfl) :
    Wp w A (execs (.Assign [.Tuple [.Name x p, .Name y p'] n tp] value pos :: rest) env) Q s := by
  refine xCons ⟨Assign_Tuple (k.to fun v s₁ q => ?_) hs hw⟩
  obtain ⟨h, g, μ, lc, t, c, l, a, b, rfl, rfl, F, ht, k⟩ := q
  have ht' : (St c h t).heap.IsTuple l [a, b].toArray := let ⟨o, e, r⟩ := ht; ⟨o, F.gw.sub _ _ e, r⟩
  refine wpAny_assign_Tuple (s := St c h t) hh ht' (by rfl) (by rfl) fun h' hx => ?_
  have F' : Fm env S g₀ h₀ g μ lc h' := F.ext fun b o e => hx b o (fun q => by rw [q, none_size] at e; cases e) e
  show wpAny _ _ (assignInOrder [assign (.Name x p) env, assign (.Name y p') env] [a, b]) _ _ _
  refine wpAny_assignInOrder_more (wpAny_assign_Name ((k h' t F').to fun _ s₂ q => wpAny_assignInOrder_more (wpAny_assign_Name (q.to fun _ s₃ q => wpAny_assignInOrder_none q))))
theorem xWhileR {test : Expr} {s : Shared} {body rest : List Stmt} {Q : Flow → Shared → Prop} (I : Nat → Shared → Prop) (n : Nat) (i0 : I n s)
    (turn : ∀ n s, I n s → Wp w A (isTrue test env (eval test env)) (fun b s₂ => if b = true then Wp w A (execs body env) (fun f s₃ => ((f = .next ∨ f = .cont) ∧ ∃ m, m < n ∧ I m s₃) ∨ ∃ v, f = .ret v ∧ Q (.ret v) s₃) s₂ else Wp w A (execs rest env) Q s₂) s) :
    Wp w A (execs (.While test body [] pos :: rest) env) Q s := by
  refine xCons ⟨wpAny_While (codeAny_whileLoop (R := fun r s' => match r with | .ok f => thenDo w A rest env Q f s' | .error e => cameBackBy (model prg w) A env (fun _ _ => False) e s') I (fun n s i => ?_) n i0)⟩
  refine (turn n s i).to fun b s₂ q => ?_
  cases b with
  | true =>
    simp only [if_true] at q ⊢
    refine q.to fun f s₃ q => ?_
    rcases q with ⟨e, q⟩ | ⟨v, rfl, q⟩
    · rcases e with rfl | rfl <;> exact q
    · exact q
  | false =>
    simp only [Bool.false_eq_true, if_false] at q ⊢
    exact wpAny_execs_nil q
def psLt : List Str := ["self", "index"]
def osLt : List Str := ["stack", "value", "treepos", "i"]
theorem okLt : okFn (meth 5 18) psLt osLt = true := by decide +kernel
theorem glt_isi : Gl (scopeOf (meth 5 18)) (Str.ofString "isinstance") := by decide +kernel
theorem glt_tree : Gl (scopeOf (meth 5 18)) (Str.ofString "Tree") := by decide +kernel
theorem glt_len : Gl (scopeOf (meth 5 18)) (Str.ofString "len") := by decide +kernel
theorem glt_range : Gl (scopeOf (meth 5 18)) (Str.ofString "range") := by decide +kernel
theorem lt_spec (X : Wk K mg mb d) (Y : TM K d m) (W : Wg K mg mb g) {x : Addr} {nd : Nd} {ix : Nat} {u : Tok} {res : List Nat} (hT : Tr g d.tree (.ref x) nd) (hr : ((wrds nd []).map (·.1))[ix]? = some res) (hz : nd.siz ≤ 10000) (hd : nd.dep ≤ 100) (le : Le g h) (room : Room A 3)
    (k : ∀ g' h' t' r, Gw [] g h g' h' → Is g' r (pyP res) → Q r (St c h' t')) : Wp w A (call (.ref m.leafpos) [.ref x, .int (ix : Nat) u]) Q (St c h t) := by
  refine call_fn psLt osLt (S := []) (n := 2) W Y.leafpos.fn le room okLt (fun _ _ _ _ _ _ _ => rfl) rfl fun env h₁ t₁ A' R esc ecl hk ht F => ?_
  dsimp only [psLt, osLt, mkLc, List.map] at F
  refine xIf (tCmp (ld F (by walk_at "at") (eInt fun _ => oLt (tBool ?_))))
  rw [show decide ((ix : Int) < 0) = false from decide_eq_false (by omega)]
  refine xNil ?_
  refine xAsg (eList (sCons (eTuple (sCons (ld F (by walk_at "at") (sCons (eTuple (sNil ?_))))))))
  refine nTup F (Nat.zero_le _) fun l0 g₁ h₂ F le₁ hl0 => sNil ?_
  refine nTup F (zL (Nat.le_add_left 2 99998)) fun l1 g₂ h₃ F le₂ hl1 => sNil ?_
  refine nLstM F (zL (Nat.le_add_left 1 99999)) fun rl h₄ hrl F => ?_
  refine stL F (by walk_at "put") fun h₅ t₂ F => ?_
  refine xWhileR (fun n s => ∃ (g₁ h₁ : Heap) (t₁ : Tok) (vs : List Value) (E : List (Nd × List Nat)) (ix : Nat) (ui : Tok) (ov ot oi : Option Value), s = St c h₁ t₁ ∧ Fm env [] g h g₁ [(rl, lst vs)] [(Str.ofString "self", some (.ref x)), (Str.ofString "index", some (.int (ix : Nat) ui)), (Str.ofString "stack", some (.ref rl)), (Str.ofString "value", ov), (Str.ofString "treepos", ot), (Str.ofString "i", oi)] h₁ ∧
      Le g₂ g₁ ∧ All2 (Ste g₁ d.tree) vs E ∧ (∀ e ∈ E, e.2.length + e.1.dep ≤ 100) ∧ (pend E.reverse)[ix]? = some res ∧ n = sizs (E.map (·.1)) ∧ n ≤ 10000) (sizs [nd])
    ⟨g₂, h₅, _, _, [(nd, [])], ix, _, none, none, none, rfl, F, Le.refl _, .cons ⟨_, _, _, rfl, hl1, hT.mono (F.gw.le), .tuple (hl0.up le₂) .nil⟩ .nil, fun e he => by simp at he; subst he; simpa using hd, by simpa [pend] using hr, by simp, by simpa [sizs] using hz⟩ ?_
  rintro n s ⟨g₃, h₆, t₃, vs, E, ix, ui, ov, ot, oi, rfl, F, le₃, hA, hE, hp, en, hn⟩
  have elen : E.length ≤ n := by rw [en]; have := len_sizs (E.map (·.1)); simpa using this
  have vlen := hA.len
  obtain ⟨⟨os, hos, ns, es⟩, _⟩ := F.mu (rl, lst vs) (.head _)
  refine tVal (ld F (by walk_at "at") (tLst ⟨os, hos, by rw [es], ns, by rw [es]⟩ (by omega) fun t₄ => ?_))
  rcases List.eq_nil_or_concat E with rfl | ⟨E', ⟨e1, pe⟩, rfl⟩
  · simp [pend] at hp
  rw [List.concat_eq_append] at *
  obtain ⟨vs', v, rfl, hA', a, tv, pv, rfl, hta, htv, hpv⟩ := hA.snoc
  rw [show (!(vs' ++ [Value.ref a]).isEmpty) = true by simp, if_pos rfl]
  rw [List.map_append, sizs_app] at en
  simp only [List.map_cons, List.map_nil, sizs] at en
  rw [List.reverse_append, List.reverse_singleton, List.singleton_append] at hp
  have hE1 := hE (e1, pe) (by simp)
  have el' : E'.length ≤ sizs (E'.map (·.1)) := by have := len_sizs (E'.map (·.1)); simpa using this
  dsimp only at hE1 htv hpv
  simp only [List.length_append, List.length_singleton] at vlen elen
  refine xUnp (S := []) (g₀ := g) (h₀ := h) R.handled ?_
  refine eMeth rfl rfl (by decide) (ld F (by walk_at "at") (mLst F (l := rl) (vs := vs' ++ [.ref a]) (by walk_at "m") PySem.F.slot_list_pop PySem.F.type_list_pop (cwB0 ?_)))
  refine cPop F (l := rl) (vs := vs') (v := .ref a) (by walk_at "m") (by walk_at "mput") (zL (by omega)) fun h₇ F => ?_
  refine ⟨h₇, g₃, _, _, _, _, a, tv, pv, rfl, rfl, F, hta, fun h₈ t₅ F => ?_⟩
  refine stL F (by walk_at "put") fun h₉ t₆ F => ?_
  refine stL F (by walk_at "put") fun h₁₀ t₇ F => ?_
  refine xIf (tNot (tVal (eCallB F W (esc ▸ glt_isi) X.isi (sCons (ld F (by walk_at "at") (sCons (ldG F W (esc ▸ glt_tree) X.treeC (sNil ?_))))))))
  cases e1 with
  | leaf s =>
    obtain ⟨us, rfl⟩ := htv.of_leaf
    refine isiGo (says_str_cls (F.kin W) Y.notS).at0 fun t₈ => tBool ?_
    refine xIf (tCmp (ld F (by walk_at "at") (eInt fun _ => oEqI (tBool ?_))))
    simp only [pend, wrds, places, lf, List.filter_cons, List.filter_nil, if_true, List.map_cons, List.map_nil, List.singleton_append] at hp
    cases ix with
    | zero =>
      rw [show ((((0 : Nat) : Int)) == 0) = true by decide]
      simp at hp; subst hp
      exact xRet (ld F (by walk_at "at") (.inr ⟨_, rfl, k _ _ _ _ F.gw hpv⟩))
    | succ ix =>
      rw [show ((((ix + 1 : Nat) : Int)) == 0) = false by rw [beq_eq_false_iff_ne]; omega]
      refine xAug (ldn F (by walk_at "at") (eInt fun _ => oIsubI fun u₂ t₉ => ?_))
      refine stL F (by walk_at "put") fun h₁₁ t₁₀ F => xNil (xNil (xNil ?_))
      rw [show (((ix + 1 : Nat) : Int) - 1) = ((ix : Nat) : Int) by omega] at F
      refine .inl ⟨.inl rfl, _, by rw [en]; simp [Nd.siz], g₃, h₁₁, _, vs', E', ix, u₂, _, _, _, rfl, F, le₃, hA', fun e he => hE e (by simp [he]), by simpa using hp, rfl, by omega⟩
  | node l cs =>
    obtain ⟨xc, dxc, oxc, odc, vsc, rfl, N⟩ := htv.of_node
    refine isiGo (says_self (F.kin W) (N.inst F.gw.sub)).at0 fun t₈ => tBool ?_
    simp only [Nd.siz] at en
    have lvs := N.c_.len
    have zc := len_sizs cs
    refine xFor (eCallT F W (esc ▸ glt_range) X.range (sCons (eBin (eCallB F W (esc ▸ glt_len) X.len (sCons (ld F (by walk_at "at") (sNil ?_)))))))
    refine cLenT (F.kin W) Y.tree (N.inst F.gw.sub) N.o_ (by omega) fun u₂ t₉ => eInt fun _ => oSub fun u₃ t₁₀ => sCons (eM1 fun u₄ t₁₁ => sCons (eM1 fun u₅ t₁₂ => sNil ?_))
    refine rng3 F (by omega) fun I h₁₁ t₁₃ hI F => ?_
    refine floop (σ := List Value) (P := ritr ((vsc.length : Int) - 1) (-1) vsc.length) (n := vsc.length) (V := fun i v => ∃ u, v = .int ((vsc.length : Int) - 1 + -1 * i) u) (μI := fun b => [(rl, lst b)])
      (lcI := fun b o => [(Str.ofString "self", some (.ref x)), (Str.ofString "index", some (.int (ix : Nat) ui)), (Str.ofString "stack", some (.ref rl)), (Str.ofString "value", some (.ref xc)), (Str.ofString "treepos", some pv), (Str.ofString "i", o)])
      vs' oi (fun i b g' => All2 (Ste g' d.tree) b (E' ++ ((chE cs pe 0).drop (vsc.length - i)).reverse)) R.handled F hI itrRange (by rw [List.drop_of_length_le (by rw [chE_len]; omega)]; simpa using hA') (fun a o v => by walk_at "put") ?_ ?_
    · intro i vi b g' h' t' hi hv l' inv F
      obtain ⟨ui2, rfl⟩ := hv
      have blen := inv.len
      simp only [List.length_append, List.length_reverse, List.length_drop, chE_len] at blen
      have ei : (vsc.length : Int) - 1 + -1 * (i : Int) = ((vsc.length - 1 - i : Nat) : Int) := by omega
      rw [ei] at F
      obtain ⟨vj, evj⟩ : ∃ vj, vsc[vsc.length - 1 - i]? = some vj := ⟨_, List.getElem?_eq_getElem (by omega)⟩
      obtain ⟨cj, ecj, tj⟩ := N.c_.at evj
      obtain ⟨lp, pvs, rfl, hlp, hip⟩ := hpv.of_tuple
      have lpv : pvs.length = pe.length := by have := hip.len; simpa using this
      have hdj := dep_lt (l := l) (List.mem_of_getElem? ecj)
      refine xExpr F.kf (eMeth rfl rfl (by decide) (ld F (by walk_at "at") (mLst F (l := rl) (vs := b) (by walk_at "m") slAppend tyAppend (cwB (sCons (eTuple (sCons (eSub (ld F (by walk_at "at") (ld F (by walk_at "at") ?_))))))))))
      refine tItemT (F.kin W) (N.inst (l'.trans F.gw.sub)) Y.getitem.find (beq_iff_eq.mp Y.getitem.isf) Y.giFn rfl ?_
      refine gi_int X Y (W.mono F.gw.le) (N.mono l') (by omega) (by omega) (by rw [Int.toNat_natCast]; exact evj) F.gw.sub (R.in1.mono (by omega)) fun h₁₂ t₁₄ G => ?_
      have F := F.call G
      refine sCons (eBin (ld F (by walk_at "at") (eTuple (sCons (ld F (by walk_at "at") (sNil ?_))))))
      refine nTup F (zL (Nat.le_add_left 1 99999)) fun lq g₄ h₁₃ F le₄ hlq => ?_
      refine oAddT F (hlp.up (l'.trans le₄)) hlq (zL (by simp; omega)) fun l2 g₅ h₁₄ F le₅ hl2 => sNil ?_
      refine nTup F (zL (Nat.le_add_left 2 99998)) fun l3 g₆ h₁₅ F le₆ hl3 => sNil ?_
      have up := le₄.trans (le₅.trans le₆)
      refine cAppend F (l := rl) (vs := b) (v := .ref l3) (by walk_at "m") (by walk_at "mput") (zL (by omega)) fun h₁₆ F => xNil ?_
      refine Turn.next (g' := g₆) (b ++ [.ref l3]) (some (.int ((vsc.length - 1 - i : Nat) : Int) ui2)) ?_ ?_ ?_
      · exact up
      · exact F
      · have hidx : (chE cs pe 0)[vsc.length - 1 - i]? = some (cj, pe ++ [vsc.length - 1 - i]) := by have := chE_at cs pe 0 _ ecj; simpa using this
        have hlt : vsc.length - 1 - i < (chE cs pe 0).length := by rw [chE_len]; omega
        have edrop : (chE cs pe 0).drop (vsc.length - (i + 1)) = (cj, pe ++ [vsc.length - 1 - i]) :: (chE cs pe 0).drop (vsc.length - i) := by
          rw [show vsc.length - (i + 1) = vsc.length - 1 - i by omega, List.drop_eq_getElem_cons hlt, show vsc.length - 1 - i + 1 = vsc.length - i by omega]
          rw [List.getElem?_eq_getElem hlt] at hidx
          rw [Option.some.inj hidx]
        rw [edrop, List.reverse_cons, ← List.append_assoc]
        refine (inv.imp fun a b s => s.mono up).app (.cons ⟨l3, vj, .ref l2, rfl, hl3, tj.mono (l'.trans up), .tuple (hl2.up le₆) ?_⟩ .nil)
        have := (hip.mono (l'.trans up)).app (.one (.int ((vsc.length - 1 - i : Nat) : Int) ui2))
        simpa [pyP] using this
    · intro b o g' h' t' l' inv F
      refine xNil (xNil ?_)
      rw [Nat.sub_self, List.drop_zero] at inv
      have hs : sizs ((E' ++ (chE cs pe 0).reverse).map (·.1)) = sizs (E'.map (·.1)) + sizs cs := by rw [List.map_append, sizs_app, List.map_reverse, chE_fst, sizs_rev]
      refine .inl ⟨.inl rfl, _, by rw [hs, en]; omega, g', h', _, b, _, ix, ui, _, _, _, rfl, F, le₃.trans l', inv, ?_, ?_, rfl, by rw [hs]; omega⟩
      · intro e he
        rcases List.mem_append.mp he with he | he
        · exact hE e (List.mem_append_left _ he)
        · obtain ⟨j, hj⟩ := List.getElem?_of_mem (List.mem_reverse.mp he)
          have hjl : j < cs.length := by
            have := (List.getElem?_eq_some_iff.mp hj).1
            rwa [chE_len] at this
          have := chE_at cs pe 0 j (List.getElem?_eq_getElem hjl)
          rw [hj] at this
          cases Option.some.inj this
          have := dep_lt (l := l) (List.getElem_mem hjl)
          simp only [List.length_append, List.length_singleton]
          omega
      · rw [List.reverse_append, List.reverse_reverse, pend_app, pend_chE]
        simpa [pend, wrds, wrdsL, places, lf] using hp
end
end TL

end
section
open PySem PySem.W PyProof.Rows PySem.Calls Builtin Builtin.ObjectAttr
set_option maxRecDepth 100000
set_option linter.unusedVariables false
set_option linter.unusedSimpArgs false
set_option pp.deepTerms false
set_option pp.deepTerms.threshold 4
set_option pp.maxSteps 2000
set_option maxHeartbeats 1000000
namespace TL
open TL
local macro_rules | `(tactic| walk_at "at") => `(tactic| repeat (first | exact At.head | apply At.tail))
local macro_rules | `(tactic| walk_at "put") => `(tactic| repeat (first | exact Put.head | apply Put.tail))
local macro_rules | `(tactic| walk_at "m") => `(tactic| repeat (first | exact List.Mem.head _ | apply List.Mem.tail))
local macro_rules | `(tactic| walk_at "mput") => `(tactic| repeat (first | exact MPut.head | apply MPut.tail))
/-- what two places have in common -/
def cpre : List Nat → List Nat → List Nat
  | a :: p, b :: q => if a = b then a :: cpre p q else []
  | _, _ => []
/-- where the first i are alike: does the walk stop here -/
def stopAt (p q : List Nat) (i : Nat) : Bool := i == q.length || (p[i]? != q[i]?)
theorem cpre_stop : ∀ (i : Nat) (p q : List Nat), p.take i = q.take i → i < p.length → i ≤ q.length → stopAt p q i = true → cpre p q = p.take i
  | 0, a :: p, [], _, _, _, _ => by simp [cpre]
  | 0, a :: p, b :: q, _, _, _, h => by
    simp [stopAt] at h
    simp [cpre, h]
  | i + 1, a :: p, [], _, _, h, _ => by simp at h
  | i + 1, a :: p, b :: q, e, h1, h2, h => by
    simp only [List.take_succ_cons, List.cons.injEq] at e
    simp only [List.length_cons] at h1 h2
    have := cpre_stop i p q e.2 (by omega) (by omega) (by simpa [stopAt] using h)
    simp [cpre, e.1, this]
  | i, [], q, _, h, _, _ => by simp at h
theorem cpre_all : ∀ (p q : List Nat), p.take p.length = q.take p.length → p.length ≤ q.length → cpre p q = p
  | [], q, _, _ => by cases q <;> rfl
  | a :: p, [], _, h => by simp at h
  | a :: p, b :: q, e, h => by
    simp only [List.length_cons, List.take_succ_cons, List.cons.injEq] at e h
    simp [cpre, e.1, cpre_all p q e.2 (by omega)]
section
variable {w : World} {A : Around} {env : Env} {S : List Addr} {g₀ h₀ g h : Heap} {μ μ' M : Mu} {lc : Lc} {c : Shared} {t : Tok} {Q : Value → Shared → Prop} {K : Frag} {mg mb : Str → Option Value} {d : Ad} {m : Md} {pos p : Pos} {i j : Tok} {a b : Int}
def psSp : List Str := ["self", "start", "end"]
def osSp : List Str := ["start_treepos", "end_treepos", "i"]
theorem okSp : okFn (meth 5 19) psSp osSp = true := by decide +kernel
theorem gsp_len : Gl (scopeOf (meth 5 19)) (Str.ofString "len") := by decide +kernel
theorem gsp_range : Gl (scopeOf (meth 5 19)) (Str.ofString "range") := by decide +kernel
theorem wrds_place {nd : Nd} {p0 : List Nat} : ∀ r ∈ wrds nd p0, r ∈ places nd p0 := fun r hr => (List.mem_filter.mp hr).1
theorem span_spec (X : Wk K mg mb d) (Y : TM K d m) (W : Wg K mg mb g) {x dx : Addr} {ox od : Obj} {l : Str} {vs : List Value} {cs : List Nd} {fi la : Nat} {u u' : Tok} {sp ep : List Nat} (N : TrN g d.tree x dx ox od l vs cs) (hlt : fi < la)
    (hs : ((wrds (.node l cs) []).map (·.1))[fi]? = some sp) (he : ((wrds (.node l cs) []).map (·.1))[la - 1]? = some ep) (hz : (Nd.node l cs).siz ≤ 10000) (hd : (Nd.node l cs).dep ≤ 100) (zs : sp.length ≤ 100) (ze : ep.length ≤ 100) (le : Le g h) (room : Room A 4)
    (k : ∀ g' h' t' r, Gw [] g h g' h' → Is g' r (pyP (cpre sp ep)) → Q r (St c h' t')) : Wp w A (call (.ref m.spanning) [.ref x, .int (fi : Nat) u, .int (la : Nat) u']) Q (St c h t) := by
  refine call_fn psSp osSp (S := []) (n := 3) W Y.spanning.fn le room okSp (fun _ _ _ _ _ _ _ => rfl) rfl fun env h₁ t₁ A' R esc ecl hk ht F => ?_
  dsimp only [psSp, osSp, mkLc, List.map] at F
  refine xIf (tCmp (ld F (by walk_at "at") (ld F (by walk_at "at") (oLe (tBool ?_)))))
  rw [show decide ((la : Int) ≤ (fi : Int)) = false from decide_eq_false (by omega)]
  refine xNil ?_
  have T : Tr g d.tree (.ref x) (.node l cs) := .node N.x_ N.o_ N.d_ N.l_ N.c_
  refine xAsg (eMeth rfl rfl (by decide) (ld F (by walk_at "at") ?_))
  refine mTr (F.kin W) Y.tree (N.mono F.gw.sub) Y.leafpos (by decide +kernel) (cwF (st := meth 5 18) (F.kin W) (Fn.keep Y.leafpos.fn) (sCons (ld F (by walk_at "at") (sNil ⟨F.kin W, ?_⟩))))
  refine lt_spec X Y W T hs hz hd F.gw.sub R fun g₁ h₂ t₂ vsp G isp => ?_
  have F := F.call G
  refine stL F (by walk_at "put") fun h₃ t₃ F => ?_
  refine xAsg (eMeth rfl rfl (by decide) (ld F (by walk_at "at") ?_))
  refine mTr (F.kin W) Y.tree (N.mono (G.le.trans F.gw.sub)) Y.leafpos (by decide +kernel) (cwF (st := meth 5 18) (F.kin W) (Fn.keep Y.leafpos.fn) (sCons (eBin (ld F (by walk_at "at") (eInt fun _ => oSub fun u₁ t₄ => sNil ⟨F.kin W, ?_⟩)))))
  rw [show ((la : Int) - 1) = ((la - 1 : Nat) : Int) by omega]
  refine lt_spec X Y (W.mono F.gw.le) (T.mono G.le) he hz hd F.gw.sub R fun g₂ h₄ t₅ vep G₂ iep => ?_
  have F := F.call G₂
  refine stL F (by walk_at "put") fun h₅ t₆ F => ?_
  replace isp := isp.mono G₂.le
  obtain ⟨lsp, svs, rfl, hls, his⟩ := isp.of_tuple
  obtain ⟨lep, evs, rfl, hle, hie⟩ := iep.of_tuple
  have lsv : svs.length = sp.length := by have := his.len; simpa using this
  have lev : evs.length = ep.length := by have := hie.len; simpa using this
  refine xFor (eCallT F W (esc ▸ gsp_range) X.range (sCons (eCallB F W (esc ▸ gsp_len) X.len (sCons (ld F (by walk_at "at") (sNil ?_))))))
  refine cLenU (hls.up F.gw.sub) (by omega) fun u₂ t₇ => sNil ?_
  refine rng1 F (by omega) (by omega) fun I h₆ t₈ hI F => ?_
  refine floop (σ := Unit) (P := ritr 0 1 (svs.length : Int).toNat) (n := (svs.length : Int).toNat) (V := fun i v => ∃ u, v = .int (0 + 1 * i) u) (μI := fun _ => [])
    (lcI := fun _ o => [(Str.ofString "self", some (.ref x)), (Str.ofString "start", some (.int (fi : Nat) u)), (Str.ofString "end", some (.int (la : Nat) u')), (Str.ofString "start_treepos", some (.ref lsp)), (Str.ofString "end_treepos", some (.ref lep)), (Str.ofString "i", o)])
    () none (fun i _ _ => sp.take i = ep.take i ∧ i ≤ ep.length) R.handled F hI itrRange ⟨by simp, Nat.zero_le _⟩ (fun a o v => by walk_at "put") ?_ ?_
  · intro i vi a g' h' t' hi hv l' inv F
    obtain ⟨ui, rfl⟩ := hv
    obtain ⟨inv, inv2⟩ := inv
    have ei : (0 : Int) + 1 * (i : Int) = ((i : Nat) : Int) := by omega
    rw [ei] at F
    have hil : i < sp.length := by omega
    obtain ⟨vi, evi, ivi⟩ := his.get (i := i) (d := .int ((sp[i] : Nat) : Int)) (by simp [hil])
    obtain ⟨uvi, rfl⟩ := ivi.of_int
    refine xIf (tBoolOp (tOr (tCmp (ld F (by walk_at "at") (eCallB F W (esc ▸ gsp_len) X.len (sCons (ld F (by walk_at "at") (sNil ?_))))))))
    refine cLenU (hle.up (l'.trans F.gw.sub)) (by omega) fun u₃ t₉ => oEqI (tBool (orB ?_ ?_))
    · intro e
      have e' : i = ep.length := by have := beq_iff_eq.mp e; omega
      refine ifB (fun _ => ?_) (fun e => nomatch e)
      refine xRet (eSub (ld F (by walk_at "at") (eSl (pNone (pSome (ld F (by walk_at "at") ?_))))))
      obtain ⟨g₃, F, le₃, hsl, _⟩ := F.sliceH .none (.int (i : Nat) ui)
      refine sliceT (vs := svs) F (hls.up (l'.trans le₃)) hsl .none (.int _ _) (zL (by omega)) fun l2 g₄ h₇ F le₄ hl2 => ?_
      rw [cut_to] at hl2
      refine k _ _ _ _ F.gw (.tuple hl2 ?_)
      rw [cpre_stop i sp ep inv hil inv2 (by simp [stopAt, e']), List.map_take]
      exact (his.mono (l'.trans (le₃.trans le₄))).take i
    · intro e
      have e' : i < ep.length := by
        have := beq_eq_false_iff_ne.mp e
        omega
      obtain ⟨wi, ewi, iwi⟩ := hie.get (i := i) (d := .int ((ep[i] : Nat) : Int)) (by simp [e'])
      obtain ⟨uwi, rfl⟩ := iwi.of_int
      refine tOr (tCmp (eSub (ld F (by walk_at "at") (ld F (by walk_at "at") ?_))))
      refine tItemU (hls.up (l'.trans F.gw.sub)) (by omega) (by omega) (by rw [Int.toNat_natCast]; exact evi) rfl ?_
      refine eSub (ld F (by walk_at "at") (ld F (by walk_at "at") ?_))
      refine tItemU (hle.up (l'.trans F.gw.sub)) (by omega) (by omega) (by rw [Int.toNat_natCast]; exact ewi) rfl ?_
      refine oNeI (tBool (orB ?_ ?_))
      · intro e2
        refine ifB (fun _ => ?_) (fun e => nomatch e)
        refine xRet (eSub (ld F (by walk_at "at") (eSl (pNone (pSome (ld F (by walk_at "at") ?_))))))
        obtain ⟨g₃, F, le₃, hsl, _⟩ := F.sliceH .none (.int (i : Nat) ui)
        refine sliceT (vs := svs) F (hls.up (l'.trans le₃)) hsl .none (.int _ _) (zL (by omega)) fun l2 g₄ h₇ F le₄ hl2 => ?_
        rw [cut_to] at hl2
        refine k _ _ _ _ F.gw (.tuple hl2 ?_)
        have : sp[i]? ≠ ep[i]? := by
          have := bne_iff_ne.mp e2
          simp [hil, e']; omega
        rw [cpre_stop i sp ep inv hil inv2 (by simp [stopAt, this]), List.map_take]
        exact (his.mono (l'.trans (le₃.trans le₄))).take i
      · intro e2
        have e3 : sp[i] = ep[i] := by
          have := (bne_eq_false_iff_eq ..).mp e2
          omega
        refine tOr0 (ifB (fun e => nomatch e) fun _ => xNil (xNil ?_))
        refine Turn.next (g' := g') () (some (.int (i : Nat) ui)) ?_ ?_ ?_
        · exact Le.refl _
        · exact F
        · refine ⟨?_, e'⟩
          rw [List.take_add_one, List.take_add_one, inv]
          simp [hil, e', e3]
  · intro a o g' h' t' l' inv F
    refine xRet (ld F (by walk_at "at") ?_)
    refine k _ _ _ _ F.gw ?_
    have ef : (svs.length : Int).toNat = sp.length := by omega
    rw [ef] at inv
    rw [cpre_all sp ep inv.1 inv.2]
    exact isp.mono l'
end
end TL

end
section
open PySem PySem.W PyProof.Rows PySem.Calls Builtin Builtin.ObjectAttr
set_option maxRecDepth 100000
set_option linter.unusedVariables false
set_option linter.unusedSimpArgs false
set_option pp.deepTerms false
set_option pp.deepTerms.threshold 4
set_option pp.maxSteps 2000
set_option maxHeartbeats 1000000
namespace TL
open TL
local macro_rules | `(tactic| walk_at "at") => `(tactic| repeat (first | exact At.head | apply At.tail))
local macro_rules | `(tactic| walk_at "put") => `(tactic| repeat (first | exact Put.head | apply Put.tail))
local macro_rules | `(tactic| walk_at "m") => `(tactic| repeat (first | exact List.Mem.head _ | apply List.Mem.tail))
local macro_rules | `(tactic| walk_at "mput") => `(tactic| repeat (first | exact MPut.head | apply MPut.tail))
/-- reading the parts once more, for labels, tags and height: the part before, the parts to come, labels, tags, high, and tags and high at the end -/
inductive Sc : Str → List Str → List Str → List (Str × Str) → Nat → List (Str × Str) → Nat → Prop
  | done {p : Str} {ls : List Str} {tg : List (Str × Str)} {hi : Nat} : Sc p [] ls tg hi tg hi
  | up {p : Str} {r ls : List Str} {tg tg' : List (Str × Str)} {hi hi' : Nat} : Sc ")" r ls.dropLast tg hi tg' hi' → Sc p (")" :: r) ls tg hi tg' hi'
  | down {p : Str} {r ls : List Str} {tg tg' : List (Str × Str)} {hi hi' : Nat} : Sc "(" r ls tg hi tg' hi' → Sc p ("(" :: r) ls tg hi tg' hi'
  | label {x : Str} {r ls : List Str} {tg tg' : List (Str × Str)} {hi hi' : Nat} : x ≠ ")" → x ≠ "(" → Sc x r (ls ++ [x]) tg (max hi (ls.length + 1)) tg' hi' → Sc "(" (x :: r) ls tg hi tg' hi'
  | word {p x b : Str} {r ls : List Str} {tg tg' : List (Str × Str)} {hi hi' : Nat} : x ≠ ")" → x ≠ "(" → p ≠ "(" → Sc x r (ls ++ [b]) (tg ++ [(x, b)]) (max hi (ls.length + 1 + 1)) tg' hi' → Sc p (x :: r) (ls ++ [b]) tg hi tg' hi'
/-- what is told of a node's text -/
structure Told (nd : Nd) : Prop where
  ok : nd.ok = true
  siz : nd.siz ≤ 2000
  dep : nd.dep ≤ 20
  z1 : nd.text.length ≤ 100000
  z2 : (Txt.replace nd.text "(" "( ").length ≤ 200001
  z3 : (Txt.replace (Txt.replace nd.text "(" "( ") ")" " )").length ≤ 1000000
  parts : ∃ y toks, partsT nd.text = Str.ofString "(" :: y :: toks ∧ toks.length ≤ 50000 ∧ Rd toks (.node y []) [] nd ∧ Sc "" (Str.ofString "(" :: y :: toks) [] [] 0 (tagsN nd) (hgt nd)
theorem strs_lay : ∀ p : List Str, p.all (fun s => PyData.strOk s) = true → PyData.canLayAll0 (p.map .str) = true
  | [], _ => by simp [PyData.canLayAll0]
  | n :: r, h => by
    simp only [List.all_cons, Bool.and_eq_true] at h
    simp [PyData.canLayAll0, PyData.canLay0, strs_lay r h.2, h.1]
theorem strs_dep : ∀ p : List Str, PyData.depthAll (p.map .str) ≤ 1
  | [] => by simp [PyData.depthAll]
  | n :: r => by
    have := strs_dep r
    simp only [List.map_cons, PyData.depthAll, PyData.depth]; omega
theorem shS {p : List Str} (h : p.all (fun s => PyData.strOk s) = true) : SeqAt.shaped (.list (p.map .str)) = true := by
  have h1 := strs_dep p
  have h2 : PyData.depth (.list (p.map .str)) ≤ 64 := by simp only [PyData.depth]; omega
  show (PyData.canLay0 (.list (p.map .str)) && decide (PyData.depth (.list (p.map .str)) ≤ 64)) = true
  rw [Bool.and_eq_true]
  exact ⟨by simp only [PyData.canLay0]; exact strs_lay p h, decide_eq_true h2⟩
theorem nbS : ∀ p : List Str, noB (.list (p.map .str)) = true := by
  intro p
  simp only [noB]
  induction p with
  | nil => simp [noB.noBs]
  | cons n r ih => simp [noB.noBs, noB, ih]
theorem tags_lay : ∀ p : List (Str × Str), p.all (fun s => PyData.strOk s.1 && PyData.strOk s.2) = true → PyData.canLayAll0 (p.map pyT) = true
  | [], _ => by simp [PyData.canLayAll0]
  | n :: r, h => by
    simp only [List.all_cons, Bool.and_eq_true] at h
    simp [PyData.canLayAll0, PyData.canLay0, pyT, tags_lay r (by simpa using h.2), h.1.1, h.1.2]
theorem tags_dep : ∀ p : List (Str × Str), PyData.depthAll (p.map pyT) ≤ 2
  | [] => by simp [PyData.depthAll]
  | n :: r => by
    have := tags_dep r
    simp only [List.map_cons, PyData.depthAll, PyData.depth, pyT]; omega
theorem shT {p : List (Str × Str)} (h : p.all (fun s => PyData.strOk s.1 && PyData.strOk s.2) = true) : SeqAt.shaped (.list (p.map pyT)) = true := by
  have h1 := tags_dep p
  have h2 : PyData.depth (.list (p.map pyT)) ≤ 64 := by simp only [PyData.depth]; omega
  show (PyData.canLay0 (.list (p.map pyT)) && decide (PyData.depth (.list (p.map pyT)) ≤ 64)) = true
  rw [Bool.and_eq_true]
  exact ⟨by simp only [PyData.canLay0]; exact tags_lay p h, decide_eq_true h2⟩
theorem nbT : ∀ p : List (Str × Str), noB (.list (p.map pyT)) = true := by
  intro p
  simp only [noB]
  induction p with
  | nil => simp [noB.noBs]
  | cons n r ih => simp [noB.noBs, noB, pyT, ih]
theorem okS_cp {s : Str} (h : okS s = true) : PyData.strOk s = true := by
  simp only [okS, Bool.and_eq_true, List.all_eq_true, Bool.or_eq_true, decide_eq_true_eq, beq_iff_eq] at h
  unfold PyData.strOk
  rw [Array.all_eq_true']
  intro x hx
  have := h.2 x (Array.mem_toList_iff.mpr hx)
  exact decide_eq_true (by omega)
mutual
theorem tagsN_ok : ∀ n : Nd, n.ok = true → (tagsN n).all (fun s => PyData.strOk s.1 && PyData.strOk s.2) = true
  | .leaf s, _ => by simp [tagsN]
  | .node l cs, h => by
    simp only [Nd.ok, Bool.and_eq_true] at h
    simp only [tagsN]
    exact tagsL_ok l cs h.1 h.2
theorem tagsL_ok : ∀ (l : Str) (cs : List Nd), okS l = true → oks cs = true → (tagsL l cs).all (fun s => PyData.strOk s.1 && PyData.strOk s.2) = true
  | l, [], _, _ => by simp [tagsL]
  | l, .leaf s :: cs, h, h' => by
    simp only [oks, Nd.ok, Bool.and_eq_true] at h'
    have := tagsL_ok l cs h h'.2
    simp [tagsL, okS_cp h, okS_cp h'.1] at this ⊢
    exact this
  | l, .node l' ds :: cs, h, h' => by
    simp only [oks, Nd.ok, Bool.and_eq_true] at h'
    rw [tagsL, List.all_append, Bool.and_eq_true]
    exact ⟨tagsL_ok l' ds h'.1.1 h'.1.2, tagsL_ok l cs h h'.2⟩
end
theorem lvs_tags : ∀ (l : Str) (cs : List Nd), lvsL cs = (tagsL l cs).map (·.1)
  | l, [] => by simp [lvsL, tagsL]
  | l, .leaf s :: cs => by simp [lvsL, lvs, tagsL, lvs_tags l cs]
  | l, .node l' ds :: cs => by simp [lvsL, lvs, tagsL, lvs_tags l cs, lvs_tags l' ds]
end TL

end
section
open PySem PySem.W PyProof.Rows PySem.Calls Builtin Builtin.ObjectAttr
set_option maxRecDepth 100000
set_option linter.unusedVariables false
set_option linter.unusedSimpArgs false
set_option pp.deepTerms false
set_option pp.deepTerms.threshold 4
set_option pp.maxSteps 2000
set_option maxHeartbeats 1000000
namespace TL
open TL
local macro_rules | `(tactic| walk_at "at") => `(tactic| repeat (first | exact At.head | apply At.tail))
local macro_rules | `(tactic| walk_at "put") => `(tactic| repeat (first | exact Put.head | apply Put.tail))
local macro_rules | `(tactic| walk_at "m") => `(tactic| repeat (first | exact List.Mem.head _ | apply List.Mem.tail))
local macro_rules | `(tactic| walk_at "mput") => `(tactic| repeat (first | exact MPut.head | apply MPut.tail))
set_option maxHeartbeats 2000000
section
variable {w : World} {A : Around} {env : Env} {S : List Addr} {g₀ h₀ g h : Heap} {μ μ' M : Mu} {lc : Lc} {c : Shared} {t : Tok} {Q : Value → Shared → Prop} {K : Frag} {mg mb : Str → Option Value} {d : Ad} {m : Md} {pos p : Pos} {i j : Tok} {a b : Int}
/-- tree == other -/
theorem oEqT (X : Wk K mg mb d) (Y : TM K d m) {n : Nat} {x y : Value} {l l' : Str} {cs ds : List Nd} (W : Wg K mg mb g) (T : Tr h d.tree x (.node l cs)) (T' : Tr h d.tree y (.node l' ds)) (sh : sameL cs ds = true) (hd : (Nd.node l cs).dep ≤ n) (hz : sizs cs ≤ 10000) (le : Le g h) (room : Room A (5 * n + 1))
    (k : ∀ h' t', Le h h' → Q (.bool (eqD (Nd.node l cs) (Nd.node l' ds))) (St c h' t')) : Wp w A (compareOp .Eq x y) Q (St c h t) := by
  obtain ⟨x, dx, ox, od, vs, rfl, N⟩ := T.of_node
  obtain ⟨y, dy, oy, ody, us, rfl, N'⟩ := T'.of_node
  exact cmpT (W.mono le).k (N.inst (Le.refl _)) (N'.inst (Le.refl _)) Y.eq.find Y.eq.isf (by have := room.units; show _ < 9900; omega) (eq_spec X Y n hd sh (W.mono le) N N' hz (Le.refl _) room fun h' t' L => ⟨rfl, k h' t' L⟩)
/-- the scan's state: labels, tags, high -/
structure SS where
  lv : Addr
  ls : List Str
  tv : List Value
  tg : List (Str × Str)
  hi : Nat
  u : Tok
/-- the part before -/
def prevS (P : List Str) (i : Nat) : Str := ((Str.ofString "" :: P)[i]?).getD (Str.ofString "")
structure SInv (P : List Str) (tg' : List (Str × Str)) (hi' : Nat) (i : Nat) (a : SS) (g : Heap) : Prop where
  ls : ∃ lvs, g.IsList a.lv lvs.toArray ∧ StrAll lvs a.ls
  tg : IsAll g a.tv (a.tg.map pyT)
  zl : a.ls.length ≤ i
  zt : a.tg.length ≤ i
  sc : Sc (prevS P i) (P.drop i) a.ls a.tg a.hi tg' hi'
theorem StrAll.dropLast : ∀ {vs : List Value} {xs : List Str}, StrAll vs xs → StrAll vs.dropLast xs.dropLast
  | _, _, .nil => .nil
  | _, _, .cons .nil => .nil
  | _, _, .cons (.cons h) => by simp only [List.dropLast_cons₂]; exact .cons (StrAll.dropLast (.cons h))
def psAg : List Str := ["tree", "node"]
def osAg : List Str := ["text", "rules", "at", "labels", "tags", "high", "parts", "k"]
theorem okAg : okFn (stI 17) psAg osAg = true := by decide +kernel
theorem gag_text : Gl (scopeOf (stI 17)) (Str.ofString "_law_text") := by decide +kernel
theorem gag_read : Gl (scopeOf (stI 17)) (Str.ofString "_law_read") := by decide +kernel
theorem gag_built : Gl (scopeOf (stI 17)) (Str.ofString "_law_built") := by decide +kernel
theorem gag_written : Gl (scopeOf (stI 17)) (Str.ofString "_law_written") := by decide +kernel
theorem gag_again : Gl (scopeOf (stI 17)) (Str.ofString "_law_again") := by decide +kernel
theorem gag_parts : Gl (scopeOf (stI 17)) (Str.ofString "_law_parts") := by decide +kernel
theorem gag_len : Gl (scopeOf (stI 17)) (Str.ofString "len") := by decide +kernel
theorem gag_max : Gl (scopeOf (stI 17)) (Str.ofString "max") := by decide +kernel
theorem gag_range : Gl (scopeOf (stI 17)) (Str.ofString "range") := by decide +kernel
theorem agree_spec (X : Wk K mg mb d) (Y : TM K d m) (W : Wg K mg mb g) {x dx : Addr} {ox od : Obj} {l : Str} {vs : List Value} {cs : List Nd} {vn : Value} (N : TrN g d.tree x dx ox od l vs cs) (hv : Is g vn (Nd.node l cs).py) (Z : Told (.node l cs)) (le : Le g h) (room : Room A 120)
    (k : ∀ g' h' t', Gw [] g h g' h' → Q (.bool true) (St c h' t')) : Wp w A (call (.ref d.agree) [.ref x, vn]) Q (St c h t) := by
  refine call_fn psAg osAg (S := []) (n := 119) W X.agree.2 le room okAg (fun _ _ _ _ _ _ _ => rfl) rfl fun env h₁ t₁ A' R esc ecl hk ht F => ?_
  dsimp only [psAg, osAg, mkLc, List.map] at F
  obtain ⟨ok, hz, hd, z1, z2, z3, y, toks, hp, hlen, rd, sc⟩ := Z
  have T : Tr g d.tree (.ref x) (.node l cs) := .node N.x_ N.o_ N.d_ N.l_ N.c_
  have hzc : sizs cs ≤ 10000 := by simp only [Nd.siz] at hz; omega
  refine xAsg (eCallF F W (esc ▸ gag_text) X.text (sCons (ld F (by walk_at "at") (sNil ⟨F.kin W, ?_⟩))))
  refine text_spec X 20 _ hd W hv ok (by omega) F.gw.sub (R.mono (by omega)) fun g₁ h₂ t₂ ut G => ?_
  have le₁ := G.le
  have F := F.call G
  refine stL F (by walk_at "put") fun h₃ t₃ F => ?_
  refine xIf (tBoolOp (tOr (tNot (tCmp (ld F (by walk_at "at") (eCallF F W (esc ▸ gag_read) X.read (sCons (ld F (by walk_at "at") (sNil ⟨F.kin W, ?_⟩)))))))))
  refine read_spec X Y (W.mono F.gw.le) F.gw.sub (R.mono (by omega)) z1 z2 z3 hp hlen rd fun h₄ t₄ T₁ G e₁ fr₁ => ?_
  have F := F.call G
  have T₁r := TT.tr fr₁.has
  rw [e₁] at T₁r
  refine oEqT X Y (n := 20) W (T.mono (le₁.trans F.gw.sub)) T₁r (sameL_refl cs) hd hzc (le₁.trans F.gw.sub) (R.mono (by omega)) fun h₅ t₅ L => ?_
  have F := F.ext L
  rw [eqD_iff.mpr rfl]
  refine tBool (orB (fun e => nomatch e) fun _ => ?_)
  refine tOr (tNot (tCmp (ld F (by walk_at "at") (eCallF F W (esc ▸ gag_built) X.built (sCons (ld F (by walk_at "at") (sNil ⟨F.kin W, ?_⟩)))))))
  refine built_spec X Y 20 _ hd (W.mono F.gw.le) (hv.mono F.gw.le) (by omega) F.gw.sub (R.mono (by omega)) fun h₆ t₆ T₂ G e₂ fr₂ => ?_
  have F := F.call G
  have T₂r := TT.tr fr₂.has
  rw [e₂] at T₂r
  refine oEqT X Y (n := 20) W (T.mono (le₁.trans F.gw.sub)) T₂r (sameL_refl cs) hd hzc (le₁.trans F.gw.sub) (R.mono (by omega)) fun h₇ t₇ L => ?_
  have F := F.ext L
  rw [eqD_iff.mpr rfl]
  refine tBool (orB (fun e => nomatch e) fun _ => ?_)
  refine tOr (tCmp (eCallF F W (esc ▸ gag_written) X.written (sCons (ld F (by walk_at "at") (sNil ⟨F.kin W, ?_⟩)))))
  refine written_spec X Y 20 _ hd (W.mono F.gw.le) (T.mono F.gw.le) ok (by omega) F.gw.sub (R.mono (by omega)) fun h₈ t₈ u₈ G => ?_
  have F := F.call G
  refine ld F (by walk_at "at") (oNeS (tBool (orB (fun e => ?_) fun _ => ?_)))
  · rw [bne_self_eq_false] at e; cases e
  refine tOr0 (ifB (fun e => nomatch e) fun _ => xNil ?_)
  refine xAsg (eMeth rfl rfl (by decide) (ld F (by walk_at "at") ?_))
  refine mTr (F.kin W) Y.tree (N.mono (le₁.trans F.gw.sub)) Y.prods (by decide +kernel) (cwF0 (F.kin W) (Fn.keep Y.prods.fn) ?_)
  refine prods_spec X Y 20 hd (W.mono F.gw.le) (N.mono le₁) hzc F.gw.sub (R.mono (by omega)) fun g₂ h₉ t₉ rl ps G hrl hps => ?_
  have le₂ := le₁.trans G.le
  have F := F.call G
  refine stL F (by walk_at "put") fun h₁₀ t₁₀ F => ?_
  refine xAsg (eList (sCons (eInt fun _ => sNil (nLstM F (zL (Nat.le_add_left 1 99999)) fun al h₁₁ hal F => ?_))))
  refine stL F (by walk_at "put") fun h₁₂ t₁₂ F => ?_
  refine xIf (tBoolOp (tOr (tCmp (eCallF F W (esc ▸ gag_again) X.again (sCons (ld F (by walk_at "at") (sCons (ld F (by walk_at "at") (sNil ⟨F.kin W, ?_⟩)))))))))
  obtain ⟨oa, hoa, ⟨na, rfl⟩, gal⟩ := F.has (.head _)
  have rlen := rulesN_len (.node l cs)
  have rps := hps.len
  refine again_spec X Y (R := rulesN (.node l cs)) (by omega) 20 l cs (i := 0) hd ok (by omega) ⟨[], by simp⟩ (W.mono F.gw.le) hrl hps gal hoa ⟨rfl, na, rfl⟩ F.gw.sub (R.mono (by omega)) fun g₃ h₁₃ t₁₃ va ua oa' G eo ho => ?_
  have le₃ := le₂.trans G.le
  rw [Nat.zero_add] at ho
  have F := F.callG (μ' := [(al, lsx [.int ((rulesN (.node l cs)).length : Nat) ua])]) G (fun b hb => by simp at hb; subst hb; simp) rfl (fun p hp => by
    simp only [List.mem_cons, List.not_mem_nil, or_false] at hp
    subst hp; exact .inr ⟨_, eo, ho⟩)
  have hrl3 := hrl.up G.le
  refine ld F (by walk_at "at") (oNeS (tBool (orB (fun e => ?_) fun _ => ?_)))
  · rw [bne_self_eq_false] at e; cases e
  refine tOr (tCmp (eSub (ld F (by walk_at "at") (eInt fun _ => ?_))))
  refine tItem (vs := [.int ((rulesN (.node l cs)).length : Nat) ua]) ⟨oa', eo, ho⟩ (by decide) (by decide) rfl rfl ?_
  refine eCallB F W (esc ▸ gag_len) X.len (sCons (ld F (by walk_at "at") (sNil ?_)))
  refine cLen (F.gl' hrl3) (by omega) fun u₃ t₁₄ => oNeI (tBool (orB (fun e => ?_) fun _ => ?_))
  · rw [rps, bne_self_eq_false] at e; cases e
  refine tOr0 (ifB (fun e => nomatch e) fun _ => xNil ?_)
  have F := F.drop1
  refine xAsg (eList (sNil (nLst F (Nat.zero_le _) fun ll g₄ h₁₄ F le₄ hll => ?_)))
  refine stL F (by walk_at "put") fun h₁₅ t₁₅ F => ?_
  refine xAsg (eList (sNil (nLstM F (Nat.zero_le _) fun tl h₁₆ htl F => ?_)))
  refine stL F (by walk_at "put") fun h₁₇ t₁₇ F => ?_
  refine xAsg (eInt fun _ => ?_)
  refine stL F (by walk_at "put") fun h₁₈ t₁₈ F => ?_
  refine xAsg (eCallF F W (esc ▸ gag_parts) X.parts (sCons (ld F (by walk_at "at") (sNil ⟨F.kin W, ?_⟩))))
  refine parts_spec X (W.mono F.gw.le) F.gw.sub (R.mono (by omega)) z1 z2 z3 fun g₅ h₁₉ t₁₉ D pvs G hD hs => ?_
  have le₅ := (le₃.trans le₄).trans G.le
  have hll := hll.up G.le
  have F := F.call G
  refine stL F (by walk_at "put") fun h₂₀ t₂₀ F => ?_
  rw [hp] at hs
  have hall := fun gg => hs.is (g := gg)
  have vlen : pvs.length = toks.length + 2 := by have := (hall g₅).len; simpa using this
  have getp : ∀ {j : Nat} {s : Str}, (Str.ofString "(" :: y :: toks)[j]? = some s → ∃ us, pvs[j]? = some (.str s us) := fun {j s} e => by
    obtain ⟨v, ev, iv⟩ := (hall g₅).get (i := j) (d := .str s) (by rw [List.getElem?_map, e]; rfl)
    obtain ⟨us, rfl⟩ := iv.of_str
    exact ⟨us, ev⟩
  generalize eP : Str.ofString "(" :: y :: toks = P at hs sc getp hall
  have Plen : P.length = toks.length + 2 := by rw [← eP]; simp
  refine xFor (eCallT F W (esc ▸ gag_range) X.range (sCons (eCallB F W (esc ▸ gag_len) X.len (sCons (ld F (by walk_at "at") (sNil ?_))))))
  refine cLen (F.gl' hD) (by omega) fun u₄ t₂₁ => sNil ?_
  refine rng1 F (by omega) (by omega) fun I h₂₂ t₂₂ hI F => ?_
  refine floop (σ := SS) (P := ritr 0 1 (pvs.length : Int).toNat) (n := (pvs.length : Int).toNat) (V := fun i v => ∃ u, v = .int (0 + 1 * i) u)
    (μI := fun a => [(tl, lst a.tv)]) (lcI := fun a o => [(Str.ofString "tree", some (.ref x)), (Str.ofString "node", some vn), (Str.ofString "text", some (.str (Nd.node l cs).text ut)), (Str.ofString "rules", some (.ref rl)), (Str.ofString "at", some (.ref al)), (Str.ofString "labels", some (.ref a.lv)), (Str.ofString "tags", some (.ref tl)), (Str.ofString "high", some (.int (a.hi : Nat) a.u)), (Str.ofString "parts", some (.ref D)), (Str.ofString "k", o)])
    ⟨ll, [], [], [], 0, t₁₇⟩ none (fun i a g => SInv P (tagsN (.node l cs)) (hgt (.node l cs)) i a g) R.handled F hI itrRange ⟨⟨[], hll, .nil⟩, .nil, Nat.zero_le _, Nat.zero_le _, sc⟩ (fun a o v => by walk_at "put") ?_ ?_
  · intro i vi a g' h' t' hi hv l' inv F
    obtain ⟨ui, rfl⟩ := hv
    obtain ⟨lvi, lsi, tvi, tgi, hii, uii⟩ := a
    obtain ⟨⟨lvs, hlv, lstr⟩, itg, zl, zt, sc⟩ := inv
    dsimp only at hlv lstr itg zl zt sc F ⊢
    have hi' : i < P.length := by omega
    have ei : ((0 : Int) + 1 * (i : Int)).toNat = i := by omega
    have lvl : lvs.length = lsi.length := by have := (lstr.is (g := g')).len; simpa using this
    have tvl : tvi.length = tgi.length := by have := itg.len; simpa using this
    have hD' := hD.up l'
    obtain ⟨z, r, ed⟩ : ∃ z r, P.drop i = z :: r := by
      cases e : P.drop i with
      | nil => have := List.drop_eq_nil_iff.mp e; omega
      | cons z r => exact ⟨z, r, rfl⟩
    have ez : P[i]? = some z := by
      have : (P.drop i)[0]? = some z := by rw [ed]; rfl
      simpa using this
    have ed' : P.drop (i + 1) = r := by rw [← List.drop_drop, ed]; rfl
    have pz : prevS P (i + 1) = z := by simp only [prevS, List.getElem?_cons_succ, ez]; rfl
    obtain ⟨uz, evz⟩ := getp ez
    rw [ed] at sc
    refine xIf (tCmp (eSub (ld F (by walk_at "at") (ld F (by walk_at "at") ?_))))
    refine tItem (F.gl' hD') (by omega) (by omega) (by rw [ei]; exact evz) rfl ?_
    refine eStr fun _ => oEqS (tBool ?_)
    generalize ep : prevS P i = p at sc
    cases sc with
    | up sc =>
      rw [beq_self_eq_true]
      refine xAsg (eSub (ld F (by walk_at "at") (eSl (pNone (pSome (eM1 fun u₃ t₁₃ => ?_))))))
      obtain ⟨g₆, F, le₆, hsl, _⟩ := F.sliceH .none (.int (-1) u₃)
      refine sliceL (vs := lvs) F (F.gl' (hlv.up le₆)) hsl .none (.int _ _) (zL (by omega)) fun l2 g₇ h₂₃ F le₇ hl2 => ?_
      rw [cut_init] at hl2
      refine stL F (by walk_at "put") fun h₂₄ t₂₄ F => xNil (xNil ?_)
      refine Turn.next (g' := g₇) ⟨l2, lsi.dropLast, tvi, tgi, hii, uii⟩ (some (.int (0 + 1 * (i : Int)) ui)) ?_ ?_ ?_
      · exact le₆.trans le₇
      · exact F
      · refine ⟨⟨_, hl2, ?_⟩, itg.mono (le₆.trans le₇), ?_, by dsimp only; omega, ?_⟩
        · dsimp only; exact lstr.dropLast
        · dsimp only; rw [List.length_dropLast]; omega
        · dsimp only; rw [ed', pz]; exact sc
    | down sc =>
      rw [show (Str.ofString "(" == Str.ofString ")") = false by decide +kernel]
      refine xIf (tBoolOp (tAnd (tCmp (eSub (ld F (by walk_at "at") (ld F (by walk_at "at") ?_))))))
      refine tItem (F.gl' hD') (by omega) (by omega) (by rw [ei]; exact evz) rfl ?_
      refine eStr fun _ => oNeS (tBool (andB (fun e => ?_) fun _ => ?_))
      · rw [bne_self_eq_false] at e; cases e
      refine xIf (tCmp (eSub (ld F (by walk_at "at") (ld F (by walk_at "at") ?_))))
      refine tItem (F.gl' hD') (by omega) (by omega) (by rw [ei]; exact evz) rfl ?_
      refine eStr fun _ => oNeS (tBool (ifB (fun e => ?_) fun _ => xNil (xNil (xNil (xNil ?_)))))
      · rw [bne_self_eq_false] at e; cases e
      refine Turn.next (g' := g') ⟨lvi, lsi, tvi, tgi, hii, uii⟩ (some (.int (0 + 1 * (i : Int)) ui)) ?_ ?_ ?_
      · exact Le.refl _
      · exact F
      · refine ⟨⟨_, hlv, lstr⟩, itg, by dsimp only; omega, by dsimp only; omega, ?_⟩
        dsimp only; rw [ed', pz]; exact sc
    | label n1 n2 sc =>
      have i1 : 1 ≤ i := by
        rcases Nat.eq_zero_or_pos i with e | e
        · subst e; rw [show prevS P 0 = Str.ofString "" from rfl] at ep; exact absurd ep (by decide +kernel)
        · exact e
      have ep' : P[i - 1]? = some (Str.ofString "(") := by
        obtain ⟨j, rfl⟩ : ∃ j, i = j + 1 := ⟨i - 1, by omega⟩
        simp only [prevS, List.getElem?_cons_succ] at ep
        have : P[j]? = some (P[j]'(by omega)) := List.getElem?_eq_getElem _
        rw [this] at ep
        rw [Nat.add_sub_cancel, this]; exact congrArg some ep
      obtain ⟨up, evp⟩ := getp ep'
      have eim : ((0 : Int) + 1 * (i : Int) - 1).toNat = i - 1 := by omega
      rw [show (z == Str.ofString ")") = false from beq_eq_false_iff_ne.mpr n1]
      refine xIf (tBoolOp (tAnd (tCmp (eSub (ld F (by walk_at "at") (ld F (by walk_at "at") ?_))))))
      refine tItem (F.gl' hD') (by omega) (by omega) (by rw [ei]; exact evz) rfl ?_
      refine eStr fun _ => oNeS (tBool (andB (fun _ => ?_) fun e => ?_))
      rotate_left
      · rw [bne_eq_false_iff_eq] at e; exact absurd e n2
      refine tAnd (tCmp (eSub (ld F (by walk_at "at") (eBin (ld F (by walk_at "at") (eInt fun _ => oSub fun u₅ t₂₅ => ?_))))))
      refine tItem (F.gl' hD') (by omega) (by omega) (by rw [eim]; exact evp) rfl ?_
      refine eStr fun _ => oEqS (tBool (andB (fun _ => ?_) fun e => ?_))
      rotate_left
      · rw [beq_self_eq_true] at e; cases e
      refine tAnd0 (ifB (fun _ => ?_) (fun e => nomatch e))
      refine xAsg (eBin (ld F (by walk_at "at") (eList (sCons (eSub (ld F (by walk_at "at") (ld F (by walk_at "at") ?_)))))))
      refine tItem (F.gl' hD') (by omega) (by omega) (by rw [ei]; exact evz) rfl ?_
      refine sNil (nLst F (zL (Nat.le_add_left 1 99999)) fun l1 g₆ h₂₃ F le₆ hl1 => ?_)
      refine oAddL F (F.gl' (hlv.up le₆)) (F.gl' hl1) (by rw [sizeLine_eq]; simp; omega) fun l2 g₇ h₂₄ F le₇ hl2 => ?_
      refine stL F (by walk_at "put") fun h₂₅ t₂₆ F => ?_
      refine xAsg (eCallB F W (esc ▸ gag_max) X.max (sCons (ld F (by walk_at "at") (sCons (eCallB F W (esc ▸ gag_len) X.len (sCons (ld F (by walk_at "at") (sNil ?_))))))))
      refine cLen (F.gl' hl2) (by simp; omega) fun u₆ t₂₇ => sNil ?_
      refine cMax R.handled F fun u₇ h₂₆ t₂₈ F => ?_
      refine stL F (by walk_at "put") fun h₂₇ t₂₉ F => xNil (xNil (xNil ?_))
      have em : max (hii : Int) ((lvs ++ [Value.str z uz]).length : Nat) = ((max hii (lsi.length + 1) : Nat) : Int) := by
        rw [List.length_append, lvl]; simp only [List.length_cons, List.length_nil]; omega
      rw [em] at F
      refine Turn.next (g' := g₇) ⟨l2, lsi ++ [z], tvi, tgi, max hii (lsi.length + 1), u₇⟩ (some (.int (0 + 1 * (i : Int)) ui)) ?_ ?_ ?_
      · exact le₆.trans le₇
      · exact F
      · refine ⟨⟨_, hl2, lstr.app (.cons .nil)⟩, itg.mono (le₆.trans le₇), ?_, by dsimp only; omega, ?_⟩
        · dsimp only; simp; omega
        · dsimp only; rw [ed', pz]; exact sc
    | @word _ _ b _ ls' _ _ _ _ n1 n2 n3 sc =>
      have i1 : 1 ≤ i := by simp at zl; omega
      have ep' : P[i - 1]? = some p := by
        obtain ⟨j, rfl⟩ : ∃ j, i = j + 1 := ⟨i - 1, by omega⟩
        simp only [prevS, List.getElem?_cons_succ] at ep
        have : P[j]? = some (P[j]'(by omega)) := List.getElem?_eq_getElem _
        rw [this] at ep
        rw [Nat.add_sub_cancel, this]; exact congrArg some ep
      obtain ⟨up, evp⟩ := getp ep'
      have eim : ((0 : Int) + 1 * (i : Int) - 1).toNat = i - 1 := by omega
      have lvl' : lvs.length = ls'.length + 1 := by rw [lvl]; simp
      rw [show (z == Str.ofString ")") = false from beq_eq_false_iff_ne.mpr n1]
      refine xIf (tBoolOp (tAnd (tCmp (eSub (ld F (by walk_at "at") (ld F (by walk_at "at") ?_))))))
      refine tItem (F.gl' hD') (by omega) (by omega) (by rw [ei]; exact evz) rfl ?_
      refine eStr fun _ => oNeS (tBool (andB (fun _ => ?_) fun e => ?_))
      rotate_left
      · rw [bne_eq_false_iff_eq] at e; exact absurd e n2
      refine tAnd (tCmp (eSub (ld F (by walk_at "at") (eBin (ld F (by walk_at "at") (eInt fun _ => oSub fun u₅ t₂₅ => ?_))))))
      refine tItem (F.gl' hD') (by omega) (by omega) (by rw [eim]; exact evp) rfl ?_
      refine eStr fun _ => oEqS (tBool (andB (fun e => absurd (eq_of_beq e) n3) fun _ => ?_))
      refine xIf (tCmp (eSub (ld F (by walk_at "at") (ld F (by walk_at "at") ?_))))
      refine tItem (F.gl' hD') (by omega) (by omega) (by rw [ei]; exact evz) rfl ?_
      refine eStr fun _ => oNeS (tBool (ifB (fun _ => ?_) fun e => ?_))
      rotate_left
      · rw [bne_eq_false_iff_eq] at e; exact absurd e n2
      refine xExpr F.kf (eMeth rfl rfl (by decide) (ld F (by walk_at "at") (mLst F (l := tl) (vs := tvi) (by walk_at "m") slAppend tyAppend (cwB (sCons (eTuple (sCons (eSub (ld F (by walk_at "at") (ld F (by walk_at "at") ?_))))))))))
      refine tItem (F.gl' hD') (by omega) (by omega) (by rw [ei]; exact evz) rfl ?_
      refine sCons (eSub (ld F (by walk_at "at") (eM1 fun u₆ t₂₆ => ?_)))
      obtain ⟨vb, evb, ivb⟩ := (lstr.is (g := g')).get (i := ls'.length) (d := .str b) (by simp)
      obtain ⟨ub, rfl⟩ := ivb.of_str
      refine tItemN (F.gl' hlv) (by decide) (by omega) (by decide) (by rw [lvl', show ((-1 : Int) + ((ls'.length + 1 : Nat) : Int)).toNat = ls'.length by omega]; exact evb) rfl ?_
      refine sNil (nTup F (zL (Nat.le_add_left 2 99998)) fun lt g₆ h₂₃ F le₆ hlt => sNil ?_)
      refine cAppend F (l := tl) (vs := tvi) (v := .ref lt) (by walk_at "m") (by walk_at "mput") (zL (by omega)) fun h₂₄ F => ?_
      refine xAsg (eCallB F W (esc ▸ gag_max) X.max (sCons (ld F (by walk_at "at") (sCons (eBin (eCallB F W (esc ▸ gag_len) X.len (sCons (ld F (by walk_at "at") (sNil ?_)))))))))
      refine cLen (F.gl' (hlv.up le₆)) (by omega) fun u₇ t₂₇ => eInt fun _ => oAdd fun u₈ t₂₈ => sNil ?_
      refine cMax R.handled F fun u₉ h₂₆ t₂₉ F => ?_
      refine stL F (by walk_at "put") fun h₂₇ t₃₀ F => xNil (xNil (xNil (xNil ?_)))
      have em : max (hii : Int) ((lvs.length : Nat) + 1 : Int) = ((max hii (ls'.length + 1 + 1) : Nat) : Int) := by
        rw [lvl']; omega
      rw [em] at F
      refine Turn.next (g' := g₆) ⟨lvi, ls' ++ [b], tvi ++ [.ref lt], tgi ++ [(z, b)], max hii (ls'.length + 1 + 1), u₉⟩ (some (.int (0 + 1 * (i : Int)) ui)) ?_ ?_ ?_
      · exact le₆
      · exact F
      · refine ⟨⟨_, hlv.up le₆, lstr⟩, ?_, by dsimp only; omega, by simp; omega, ?_⟩
        · dsimp only; rw [List.map_append]
          exact (itg.mono le₆).app (.one (.tuple hlt (.cons (.str z uz) (.one (.str b ub)))))
        · dsimp only; rw [ed', pz]; exact sc
  · intro a o g' h' t' l' inv F
    obtain ⟨_, itg, _, zt, sc⟩ := inv
    rw [List.drop_eq_nil_of_le (by omega)] at sc
    obtain ⟨lvi, lsi, tvi, tgi, hii, uii⟩ := a
    dsimp only at itg sc zt F
    generalize etg : tagsN (.node l cs) = tgs at sc
    generalize ehg : hgt (.node l cs) = hg at sc
    generalize prevS P _ = pq at sc
    cases sc
    subst etg ehg
    have hl6 : (Nd.node l cs).dep ≤ 20 := hd
    have tvl : tvi.length = (tagsN (.node l cs)).length := by have := itg.len; simpa using this
    obtain ⟨g₆, oD, F, le₆, eD, nD, hoD⟩ := F.frz htl
    have htg : g₆.IsList tl tvi.toArray := ⟨oD, eD, by rw [hoD], nD, by rw [hoD]⟩
    have itg := itg.mono le₆
    have lle : Le g g₆ := (le₅.trans l').trans le₆
    have oks := tagsN_ok (.node l cs) ok
    refine xRet (eAnd (eCmp (eMeth rfl rfl (by decide) (ld F (by walk_at "at") ?_))))
    refine mTr (F.kin W) Y.tree (N.mono (lle.trans F.gw.sub)) Y.leaves (by decide +kernel) (cwF0 (F.kin W) (Fn.keep Y.leaves.fn) ?_)
    refine leaves_spec X Y 20 hd (W.mono F.gw.le) (N.mono lle) hzc F.gw.sub (R.mono (by omega)) fun g₇ h₂₃ t₂₃ rv G isr => ?_
    have F := F.call G
    have htg := htg.up G.le
    have itg := itg.mono G.le
    have lle := lle.trans G.le
    refine eComp (cl := []) (closure_of (by rw [ecl]; decide +kernel)) (by decide +kernel) (ld F (by walk_at "at") ?_)
    refine iLst F (F.gl' htg) fun I h₂₄ t₂₄ hI F => ?_
    refine cloop0 (σ := Unit) (P := litr tl) (n := tvi.length) (V := fun i v => tvi[i]? = some v) (μI := fun _ => []) () (fun i outs _ _ => StrAll outs (((tagsN (.node l cs)).map (·.1)).take i)) R.handled (by decide +kernel) (zL (by omega)) F hI (fun _ _ _ _ => selfL) (itrSq (.of_list htg)) .nil ?_ ?_
    · intro i v outs _ g' h' t' D C Lo hi hv l' inv F
      obtain ⟨d', e', id'⟩ := itg.at hv
      rw [List.getElem?_map] at e'
      obtain ⟨tg, ec, rfl⟩ := Option.map_eq_some_iff.mp e'
      obtain ⟨lt, tvs, rfl, hlt, it⟩ := id'.of_tuple
      obtain ⟨v0, ev0, iv0⟩ := it.get (i := 0) (d := .str tg.1) rfl
      obtain ⟨u0, rfl⟩ := iv0.of_str
      refine eSub (ld F (by walk_at "at") (eInt fun _ => ?_))
      refine tItemU ((hlt.up l').up F.gw.sub) (by decide) (by decide) ev0 rfl ?_
      refine Elt.mk' () (Le.refl _) F ?_
      rw [List.take_add_one, List.getElem?_map, ec]
      exact inv.app (.cons .nil)
    · intro outs _ g' h' t' D l' inv F hD
      rw [List.take_of_length_le (by simp; omega)] at inv
      have lle := lle.trans l'
      refine oEq R (isr.mono (l'.trans F.gw.sub)) (.list (F.ml (.head _)) inv.is) ?_ ?_ (nbS _) (nbS _) fun r hr => ?_
      · rw [lvs_tags l cs]; exact shS (by rw [List.all_eq_true] at oks ⊢; intro z hz; obtain ⟨q, hq, rfl⟩ := List.mem_map.mp hz; have := oks q hq; simp only [Bool.and_eq_true] at this; exact this.1)
      · exact shS (by rw [List.all_eq_true] at oks ⊢; intro z hz; obtain ⟨q, hq, rfl⟩ := List.mem_map.mp hz; have := oks q hq; simp only [Bool.and_eq_true] at this; exact this.1)
      have : r = true := hr.mpr (by rw [lvs_tags l cs]; rfl)
      subst this
      refine tBool ?_
      rw [if_pos rfl]
      have F := F.drop1
      have htg := htg.up l'
      have itg := itg.mono l'
      refine eAnd (eCmp (eMeth rfl rfl (by decide) (ld F (by walk_at "at") ?_)))
      refine mTr (F.kin W) Y.tree (N.mono (lle.trans F.gw.sub)) Y.pos (by decide +kernel) (cwF0 (F.kin W) (Fn.keep Y.pos.fn) ?_)
      refine pos_spec X Y 20 hd (W.mono F.gw.le) (N.mono lle) hzc F.gw.sub (R.mono (by omega)) fun g₈ h₂₅ t₂₅ rv' G isr' => ?_
      have F := F.call G
      refine ld F (by walk_at "at") ?_
      refine oEq R (isr'.mono F.gw.sub) (.list (F.gl' (htg.up G.le)) (itg.mono (G.le.trans F.gw.sub))) (shT oks) (shT oks) (nbT _) (nbT _) fun r hr => ?_
      have : r = true := hr.mpr rfl
      subst this
      refine tBool ?_
      rw [if_pos rfl]
      refine eBoolOne (eCmp (eMeth rfl rfl (by decide) (ld F (by walk_at "at") ?_)))
      refine mTr (F.kin W) Y.tree (N.mono ((lle.trans G.le).trans F.gw.sub)) Y.height (by decide +kernel) (cwF0 (F.kin W) (Fn.keep Y.height.fn) ?_)
      refine height_spec X Y 20 hd (W.mono F.gw.le) (N.mono (lle.trans G.le)) hzc F.gw.sub (R.mono (by omega)) fun h₂₆ t₂₆ u₇ G => ?_
      have F := F.call G
      refine ld F (by walk_at "at") (oEqI ?_)
      rw [beq_self_eq_true]
      exact k _ _ _ F.gw
end
end TL

end
section
open PySem PySem.W PyProof.Rows PySem.Calls
set_option maxRecDepth 100000
set_option linter.unusedVariables false
set_option linter.unusedSimpArgs false
namespace TL
open TL
/-- c's place is taken by z -/
def sbs (c : Nat) (z l : List Nat) : List Nat := l.flatMap fun k => if k = c then z else [k]
theorem sbs_cons (c : Nat) (z : List Nat) (k : Nat) (r : List Nat) : sbs c z (k :: r) = (if k = c then z else [k]) ++ sbs c z r := by simp [sbs]
theorem sbs_app (c : Nat) (z a b : List Nat) : sbs c z (a ++ b) = sbs c z a ++ sbs c z b := by simp [sbs]
theorem sbs_free (c : Nat) (z l : List Nat) (h : c ∉ l) : sbs c z l = l := by
  induction l with
  | nil => simp [sbs]
  | cons k r ih =>
    rw [List.mem_cons, not_or] at h
    rw [sbs_cons, ih h.2, if_neg (Ne.symm h.1)]; rfl
theorem sbs_join (c : Nat) (z : Str) (parts : List Str) (h : ∀ p ∈ parts, c ∉ p.cps.toList) : sbs c z.cps.toList (Str.join ⟨#[c]⟩ parts).cps.toList = (Str.join z parts).cps.toList := by
  induction parts with
  | nil => rfl
  | cons p r ih =>
    have hp := sbs_free c z.cps.toList _ (h p (.head _))
    have ih := ih fun q hq => h q (.tail _ hq)
    cases r with
    | nil => exact hp
    | cons q r =>
      have e : ∀ s : Str, Str.join s (p :: q :: r) = p ++ s ++ Str.join s (q :: r) := fun _ => rfl
      rw [e, e]
      simp only [Str.cps_append, Array.toList_append, sbs_app, ih, hp]
      simp [sbs]
theorem replace_sbs (x z : Str) (c : Nat) : (Txt.replace x ⟨#[c]⟩ z).cps.toList = sbs c z.cps.toList x.cps.toList := by
  rw [StrLaws.replace_one, ← sbs_join c z _ (StrLaws.split_free x c), StrLaws.join_split]
theorem sbs_len (c : Nat) (z : List Nat) (m : Nat) (hm : 1 ≤ m) (hz : z.length ≤ m) : ∀ l, (sbs c z l).length ≤ m * l.length
  | [] => by simp [sbs]
  | k :: r => by
    have ih := sbs_len c z m hm hz r
    have : (if k = c then z else [k]).length ≤ m := by
      by_cases h : k = c
      · rw [if_pos h]; exact hz
      · rw [if_neg h]; exact hm
    simp only [sbs_cons, List.length_append, List.length_cons, Nat.mul_add, Nat.mul_one]
    omega
/-- ( and ) set apart -/
def apart (l : List Nat) : List Nat := sbs 41 [32, 41] (sbs 40 [40, 32] l)
theorem apart_app (a b : List Nat) : apart (a ++ b) = apart a ++ apart b := by unfold apart; rw [sbs_app, sbs_app]
theorem eOpen : (Str.ofString "(") = ⟨#[40]⟩ := by decide +kernel
theorem eClose : (Str.ofString ")") = ⟨#[41]⟩ := by decide +kernel
theorem eOpen2 : (Str.ofString "( ") = ⟨#[40, 32]⟩ := by decide +kernel
theorem eClose2 : (Str.ofString " )") = ⟨#[32, 41]⟩ := by decide +kernel
theorem eBlank : (Str.ofString " ") = ⟨#[32]⟩ := by decide +kernel
theorem parts_fold (x : Str) : partsT x = KWd.fin ((apart x.cps.toList).foldl KWd.step ([], Str.empty)) := by
  unfold partsT
  rw [KWd.words_scan]
  show KWd.fin (KWd.scan (Txt.replace (Txt.replace x (Str.ofString "(") (Str.ofString "( ")) (Str.ofString ")") (Str.ofString " )"))) = _
  unfold KWd.scan
  rw [eClose, eClose2, replace_sbs, eOpen, eOpen2, replace_sbs]
  rfl
/-- a plain sign -/
def okC (n : Nat) : Bool := decide (42 ≤ n ∧ n < 127 ∧ n ≠ 90) || n == 39
theorem okC_ne {n : Nat} (h : okC n = true) : n ≠ 40 ∧ n ≠ 41 := by
  simp only [okC, Bool.or_eq_true, decide_eq_true_eq, beq_iff_eq] at h; omega
theorem okC_sp {n : Nat} (h : okC n = true) : Unicode.isSpace n = false := by
  simp only [okC, Bool.or_eq_true, decide_eq_true_eq, beq_iff_eq] at h
  have : n < 127 := by omega
  have all : ∀ k : Fin 127, 33 ≤ k.val → Unicode.isSpace k.val = false := by decide +kernel
  exact all ⟨n, this⟩ (by show 33 ≤ n; omega)
theorem okS_all {s : Str} (h : okS s = true) : ∀ n ∈ s.cps.toList, okC n = true := by
  simp only [okS, Bool.and_eq_true, List.all_eq_true] at h
  exact h.2
theorem okS_len {s : Str} (h : okS s = true) : s.length ≠ 0 := by
  simp only [okS, Bool.and_eq_true, decide_eq_true_eq] at h; omega
theorem apart_plain : ∀ l : List Nat, (∀ n ∈ l, okC n = true) → apart l = l := fun l h => by
  unfold apart
  rw [sbs_free 40 _ l fun m => (okC_ne (h _ m)).1 rfl, sbs_free 41 _ l fun m => (okC_ne (h _ m)).2 rfl]
/-- what the scan holds: words -/
structure Rep (st : KWd.St) (L : List Str) : Prop where
  is : st.1 ++ [st.2] = L
  ne : st.2.length ≠ 0
theorem Rep.fin {st : KWd.St} {L : List Str} (R : Rep st L) : KWd.fin st = L := by
  unfold KWd.fin; rw [if_neg R.ne]; exact R.is
theorem fold_plain : ∀ (l : List Nat) (ws : List Str) (run : Str), (∀ n ∈ l, okC n = true) → l.foldl KWd.step (ws, run) = (ws, run ++ ⟨l.toArray⟩)
  | [], ws, run, _ => by
    simp only [List.foldl_nil, Prod.mk.injEq, true_and]
    exact Str.ext' (by rw [Str.cps_append]; exact Array.append_empty.symm)
  | k :: r, ws, run, h => by
    rw [List.foldl_cons]
    have : KWd.step (ws, run) k = (ws, run ++ ⟨#[k]⟩) := by
      unfold KWd.step
      rw [if_neg (by rw [okC_sp (h k (.head _))]; exact Bool.false_ne_true)]
    rw [this, fold_plain r ws _ fun n hn => h n (.tail _ hn)]
    congr 1
    exact Str.ext' (Array.toList_inj.mp (by simp [Str.cps_append]))
theorem empty_app (s : Str) : Str.empty ++ s = s := Str.ext' (by rw [Str.cps_append]; exact Array.empty_append)
theorem Rep.word (ws : List Str) {s : Str} (h : okS s = true) : Rep ((apart s.cps.toList).foldl KWd.step (ws, Str.empty)) (ws ++ [s]) := by
  rw [apart_plain _ (okS_all h), fold_plain _ _ _ (okS_all h), empty_app]
  exact ⟨rfl, okS_len h⟩
theorem step_blank {st : KWd.St} {L : List Str} (R : Rep st L) : KWd.step st 32 = (L, Str.empty) := by
  unfold KWd.step
  rw [if_pos (by decide +kernel), if_neg R.ne, R.is]
theorem step_open (ws : List Str) : [40, 32].foldl KWd.step (ws, Str.empty) = (ws ++ [Str.ofString "("], Str.empty) := by
  have h : KWd.step (ws, Str.empty) 40 = (ws, Str.ofString "(") := by
    unfold KWd.step
    rw [if_neg (by decide +kernel), empty_app, eOpen]
  simp only [List.foldl_cons, List.foldl_nil, h]
  exact step_blank (L := ws ++ [Str.ofString "("]) ⟨rfl, by show (Str.ofString "(").length ≠ 0; decide +kernel⟩
theorem Rep.close {st : KWd.St} {L : List Str} (R : Rep st L) : Rep ([32, 41].foldl KWd.step st) (L ++ [Str.ofString ")"]) := by
  simp only [List.foldl_cons, List.foldl_nil, step_blank R]
  have h : KWd.step (L, Str.empty) 41 = (L, Str.ofString ")") := by
    unfold KWd.step
    rw [if_neg (by decide +kernel), empty_app, eClose]
  rw [h]
  exact ⟨rfl, by show (Str.ofString ")").length ≠ 0; decide +kernel⟩
mutual
/-- the parts of a node's text -/
def toksN : Nd → List Str
  | .leaf w => [w]
  | .node l cs => Str.ofString "(" :: l :: (toksL cs ++ [Str.ofString ")"])
def toksL : List Nd → List Str
  | [] => []
  | c :: cs => toksN c ++ toksL cs
end
theorem join_cat (x : Str) (xs : List Str) : Txt.join "" (x :: xs) = x ++ Txt.join "" xs := by
  refine Str.ext_list ?_
  rw [Str.list_app, join_list, join_list]; simp
mutual
theorem repN : ∀ (nd : Nd) (ws : List Str), nd.ok = true → Rep ((apart nd.text.cps.toList).foldl KWd.step (ws, Str.empty)) (ws ++ toksN nd)
  | .leaf w, ws, h => by
    simp only [Nd.text, toksN]
    exact Rep.word ws (by simpa [Nd.ok] using h)
  | .node l cs, ws, h => by
    simp only [Nd.ok, Bool.and_eq_true] at h
    simp only [Nd.text, toksN, Str.cps_append, Array.toList_append, apart_app, List.foldl_append]
    have e1 : (apart (Str.cps (Str.ofString "(")).toList).foldl KWd.step (ws, Str.empty) = (ws ++ [Str.ofString "("], Str.empty) := by
      rw [eOpen, ← eOpen]; exact step_open ws
    have e2 : ∀ st, (apart (Str.cps (Str.ofString ")")).toList).foldl KWd.step st = [32, 41].foldl KWd.step st := fun st => by
      rw [eClose]; rfl
    rw [show ("(" : Str) = Str.ofString "(" from rfl, show (")" : Str) = Str.ofString ")" from rfl, e1, e2]
    have := ((Rep.word (ws ++ [Str.ofString "("]) h.1))
    have := (repL cs _ _ h.2 this).close
    simpa using this
theorem repL : ∀ (cs : List Nd) (st : KWd.St) (L : List Str), oks cs = true → Rep st L → Rep ((apart (Txt.join "" (texts cs)).cps.toList).foldl KWd.step st) (L ++ toksL cs)
  | [], st, L, _, R => by
    have : (apart (Txt.join "" (texts [])).cps.toList) = [] := by simp only [texts, join_nil]; rfl
    rw [this]
    simpa [toksL] using R
  | c :: cs, st, L, h, R => by
    simp only [oks, Bool.and_eq_true] at h
    simp only [texts, toksL, join_cat, Str.cps_append, Array.toList_append, apart_app, List.foldl_append]
    have e : (apart (Str.cps (Str.ofString " ")).toList).foldl KWd.step st = (L, Str.empty) := by
      rw [eBlank]; exact step_blank R
    rw [show (" " : Str) = Str.ofString " " from rfl, e, ← List.append_assoc]
    exact repL cs _ _ h.2 (repN c L h.1)
end
theorem parts_toks {nd : Nd} (h : nd.ok = true) : partsT nd.text = toksN nd := by
  rw [parts_fold, (repN nd [] h).fin]; rfl
end TL

end
section
open PySem PySem.W PyProof.Rows PySem.Calls
set_option maxRecDepth 100000
set_option linter.unusedVariables false
set_option linter.unusedSimpArgs false
namespace TL
open TL
mutual
theorem toks_len : ∀ nd : Nd, (toksN nd).length ≤ 3 * nd.siz
  | .leaf w => by simp [toksN, Nd.siz]
  | .node l cs => by have := toksL_len cs; simp only [toksN, Nd.siz, List.length_cons, List.length_append, List.length_nil]; omega
theorem toksL_len : ∀ cs : List Nd, (toksL cs).length ≤ 3 * sizs cs
  | [] => by simp [toksL]
  | c :: cs => by have := toks_len c; have := toksL_len cs; simp only [toksL, sizs, List.length_append]; omega
end
theorem okS_ne {s : Str} (h : okS s = true) : s ≠ Str.ofString ")" ∧ s ≠ Str.ofString "(" := by
  have h := okS_all h
  constructor
  · rintro rfl; rw [eClose] at h; exact absurd (h 41 (by simp)) (by decide)
  · rintro rfl; rw [eOpen] at h; exact absurd (h 40 (by simp)) (by decide)
theorem mod_at : ∀ (p : List Nat) {T : Nd} {l : Str} {ds : List Nd} (f : List Nd → List Nd), T.at p = some (.node l ds) → (T.mod f p).at p = some (.node l (f ds))
  | [], .leaf s, _, _, f, h => by simp [Nd.at] at h
  | [], .node l cs, _, _, f, h => by simp [Nd.at] at h; obtain ⟨rfl, rfl⟩ := h; simp [Nd.mod, Nd.at]
  | i :: p, .leaf s, _, _, f, h => by simp [Nd.at] at h
  | i :: p, .node l cs, l', ds, f, h => by
    simp only [Nd.at] at h
    obtain ⟨c, hc, h⟩ := Option.bind_eq_some_iff.mp h
    have hi := (List.getElem?_eq_some_iff.mp hc).1
    simp only [Nd.mod, hc, Nd.at, List.getElem?_set_self hi, Option.bind_some]
    exact mod_at p f h
theorem at_snoc : ∀ (p : List Nat) {T : Nd} {l : Str} {ds : List Nd} {i : Nat}, T.at p = some (.node l ds) → T.at (p ++ [i]) = ds[i]?
  | [], .leaf s, _, _, i, h => by simp [Nd.at] at h
  | [], .node l cs, _, _, i, h => by
    simp [Nd.at] at h; obtain ⟨rfl, rfl⟩ := h
    simp only [List.nil_append, Nd.at]
    cases cs[i]? <;> rfl
  | j :: p, .leaf s, _, _, i, h => by simp [Nd.at] at h
  | j :: p, .node l cs, l', ds, i, h => by
    simp only [Nd.at] at h
    obtain ⟨c, hc, h⟩ := Option.bind_eq_some_iff.mp h
    simp only [List.cons_append, Nd.at, hc, Option.bind_some]
    exact at_snoc p h
theorem mod_mod : ∀ (p : List Nat) (T : Nd) (f g : List Nd → List Nd), (T.mod f p).mod g p = T.mod (fun ds => g (f ds)) p
  | [], .leaf s, f, g => by simp [Nd.mod]
  | [], .node l cs, f, g => by simp [Nd.mod]
  | i :: p, .leaf s, f, g => by simp [Nd.mod]
  | i :: p, .node l cs, f, g => by
    simp only [Nd.mod]
    cases hc : cs[i]? with
    | none => simp [Nd.mod, hc]
    | some c =>
      have hi := (List.getElem?_eq_some_iff.mp hc).1
      simp only [Nd.mod, List.getElem?_set_self hi, List.set_set, mod_mod p c f g]
theorem mod_id : ∀ (p : List Nat) (T : Nd) (f : List Nd → List Nd), (∀ ds, f ds = ds) → T.mod f p = T
  | [], .leaf s, f, h => by simp [Nd.mod]
  | [], .node l cs, f, h => by simp [Nd.mod, h]
  | i :: p, .leaf s, f, h => by simp [Nd.mod]
  | i :: p, .node l cs, f, h => by
    simp only [Nd.mod]
    cases hc : cs[i]? with
    | none => rfl
    | some c =>
      simp only [mod_id p c f h]
      obtain ⟨hi, e⟩ := List.getElem?_eq_some_iff.mp hc
      rw [← e, List.set_getElem_self]
/-- what is added at the last child is added below -/
theorem mod_down : ∀ (p : List Nat) {T : Nd} {l y : Str} {ds es : List Nd}, T.at p = some (.node l ds) → (T.mod (· ++ [.node y []]) p).mod (· ++ es) (p ++ [ds.length]) = T.mod (· ++ [.node y es]) p
  | [], .leaf s, _, _, _, _, h => by simp [Nd.at] at h
  | [], .node l cs, _, y, _, es, h => by
    simp [Nd.at] at h; obtain ⟨rfl, rfl⟩ := h
    simp [Nd.mod]
  | i :: p, .leaf s, _, _, _, _, h => by simp [Nd.at] at h
  | i :: p, .node l cs, l', y, ds, es, h => by
    simp only [Nd.at] at h
    obtain ⟨c, hc, h⟩ := Option.bind_eq_some_iff.mp h
    have hi := (List.getElem?_eq_some_iff.mp hc).1
    simp only [List.cons_append, Nd.mod, hc, List.getElem?_set_self hi, List.set_set]
    rw [mod_down p h]
theorem siz_mod : ∀ (p : List Nat) {T : Nd} {l : Str} {ds es : List Nd}, T.at p = some (.node l ds) → (T.mod (· ++ es) p).siz = T.siz + sizs es
  | [], .leaf s, _, _, _, h => by simp [Nd.at] at h
  | [], .node l cs, _, _, es, h => by simp only [Nd.mod, Nd.siz, sizs_app]; omega
  | i :: p, .leaf s, _, _, _, h => by simp [Nd.at] at h
  | i :: p, .node l cs, l', ds, es, h => by
    simp only [Nd.at] at h
    obtain ⟨c, hc, h⟩ := Option.bind_eq_some_iff.mp h
    obtain ⟨hi, e⟩ := List.getElem?_eq_some_iff.mp hc
    have ih := siz_mod p (es := es) h
    simp only [Nd.mod, hc, Nd.siz]
    have e1 : cs = cs.take i ++ ([c] ++ cs.drop (i + 1)) := by
      rw [← List.append_assoc, ← (show cs.take (i + 1) = cs.take i ++ [c] by rw [List.take_add_one, hc]; rfl), List.take_append_drop]
    have e2 : cs.set i (c.mod (· ++ es) p) = cs.take i ++ ([c.mod (· ++ es) p] ++ cs.drop (i + 1)) := by
      rw [List.set_eq_take_append_cons_drop, if_pos hi]; simp
    have e3 := congrArg sizs e1
    have e4 := congrArg sizs e2
    simp only [sizs_app, sizs] at e3 e4
    omega
theorem rdL : ∀ (cs : List Nd) {T : Nd} {p : List Nat} {l : Str} {ds : List Nd} {r : List Str} {res : Nd}, oks cs = true → T.at p = some (.node l ds) → T.siz + sizs cs ≤ 9000 → p.length + deps cs ≤ 23 →
    Rd r (T.mod (· ++ cs) p) p res → Rd (toksL cs ++ r) T p res
  | [], T, p, l, ds, r, res, _, ha, hz, hd, rd => by
    rw [mod_id p T _ (fun ds => List.append_nil ds)] at rd
    simpa [toksL] using rd
  | .leaf w :: cs, T, p, l, ds, r, res, ho, ha, hz, hd, rd => by
    simp only [oks, Nd.ok, Bool.and_eq_true] at ho
    simp only [sizs, Nd.siz, deps, Nd.dep] at hz hd
    have ne := okS_ne ho.1
    simp only [toksL, toksN, List.cons_append, List.nil_append]
    refine Rd.word ne.1 ne.2 ha (by omega) (by omega) ?_
    refine rdL cs ho.2 (mod_at p _ ha) ?_ (by omega) ?_
    · rw [siz_mod p ha]; simp only [sizs, Nd.siz]; omega
    · rw [mod_mod]
      simpa using rd
  | .node y es :: cs, T, p, l, ds, r, res, ho, ha, hz, hd, rd => by
    simp only [oks, Nd.ok, Bool.and_eq_true] at ho
    simp only [sizs, Nd.siz, deps, Nd.dep] at hz hd
    have e : toksL (.node y es :: cs) ++ r = Str.ofString "(" :: y :: (toksL es ++ (Str.ofString ")" :: (toksL cs ++ r))) := by
      simp [toksL, toksN]
    rw [e]
    refine Rd.down ha (by omega) (by omega) ?_
    have ha1 := mod_at p (· ++ [Nd.node y []]) ha
    have ha2 : (T.mod (· ++ [Nd.node y []]) p).at (p ++ [ds.length]) = some (.node y []) := by
      rw [at_snoc p ha1]; simp
    refine rdL es ho.1.2 ha2 ?_ (by simp only [List.length_append, List.length_cons, List.length_nil]; omega) ?_
    · rw [siz_mod p ha]; simp only [sizs, Nd.siz]; omega
    · rw [mod_down p ha]
      refine Rd.up ?_ (by simp only [List.length_append, List.length_cons, List.length_nil]; omega)
      rw [List.dropLast_concat]
      refine rdL cs ho.2 (mod_at p _ ha) ?_ (by omega) ?_
      · rw [siz_mod p ha]; simp only [sizs, Nd.siz]; omega
      · rw [mod_mod]
        simpa using rd
termination_by cs => sizs cs
decreasing_by all_goals simp only [sizs, Nd.siz] ; omega
theorem rd_of {l : Str} {cs : List Nd} (ho : oks cs = true) (hz : sizs cs ≤ 8000) (hd : deps cs ≤ 23) : Rd (toksL cs ++ [Str.ofString ")"]) (.node l []) [] (.node l cs) := by
  refine rdL cs (l := l) (ds := []) ho rfl (by simp only [Nd.siz, sizs]; omega) (by simp; omega) ?_
  refine Rd.up ?_ (by simp)
  simp only [Nd.mod, List.nil_append, List.dropLast_nil]
  exact .done
/-- scanning children -/
theorem scL : ∀ (cs : List Nd) {p : Str} {r ls : List Str} {l : Str} {tg tg' : List (Str × Str)} {hi hi' : Nat}, oks cs = true → p ≠ Str.ofString "(" →
    (∀ q, q ≠ Str.ofString "(" → Sc q r (ls ++ [l]) (tg ++ tagsL l cs) (max hi (if cs = [] then 0 else ls.length + 1 + hgts cs)) tg' hi') → Sc p (toksL cs ++ r) (ls ++ [l]) tg hi tg' hi'
  | [], p, r, ls, l, tg, tg', hi, hi', _, hp, k => by
    have := k p hp
    simpa [toksL, tagsL] using this
  | .leaf w :: cs, p, r, ls, l, tg, tg', hi, hi', ho, hp, k => by
    simp only [oks, Nd.ok, Bool.and_eq_true] at ho
    have ne := okS_ne ho.1
    simp only [toksL, toksN, List.cons_append, List.nil_append]
    refine Sc.word ne.1 ne.2 hp ?_
    refine scL cs ho.2 ne.2 fun q hq => ?_
    have := k q hq
    have e : max (max hi (ls.length + 1 + 1)) (if cs = [] then 0 else ls.length + 1 + hgts cs) = max hi (if Nd.leaf w :: cs = [] then 0 else ls.length + 1 + hgts (.leaf w :: cs)) := by
      rw [if_neg (by simp : ¬ (Nd.leaf w :: cs = []))]
      simp only [hgts, hgt]
      by_cases h : cs = []
      · subst h; simp [hgts]
      · rw [if_neg h]; omega
    rw [e]
    simpa [tagsL] using this
  | .node y es :: cs, p, r, ls, l, tg, tg', hi, hi', ho, hp, k => by
    simp only [oks, Nd.ok, Bool.and_eq_true] at ho
    have ne := okS_ne ho.1.1
    have e : toksL (.node y es :: cs) ++ r = Str.ofString "(" :: y :: (toksL es ++ (Str.ofString ")" :: (toksL cs ++ r))) := by
      simp [toksL, toksN]
    rw [e]
    refine Sc.down (Sc.label ne.1 ne.2 ?_)
    refine scL es (ls := ls ++ [l]) ho.1.2 ne.2 fun q hq => ?_
    refine Sc.up ?_
    rw [List.dropLast_concat]
    refine scL cs ho.2 (by decide +kernel) fun q' hq' => ?_
    have := k q' hq'
    have e : max (max (max hi ((ls ++ [l]).length + 1)) (if es = [] then 0 else (ls ++ [l]).length + 1 + hgts es)) (if cs = [] then 0 else ls.length + 1 + hgts cs) = max hi (if Nd.node y es :: cs = [] then 0 else ls.length + 1 + hgts (.node y es :: cs)) := by
      rw [if_neg (by simp : ¬ (Nd.node y es :: cs = []))]
      simp only [hgts, hgt, List.length_append, List.length_cons, List.length_nil]
      by_cases h : cs = [] <;> by_cases h' : es = []
      · subst h h'; simp [hgts]
      · subst h; rw [if_neg h']; simp [hgts] <;> omega
      · subst h'; rw [if_neg h]; simp [hgts] <;> omega
      · rw [if_neg h, if_neg h']; omega
    rw [e]
    simpa [tagsL] using this
termination_by cs => sizs cs
decreasing_by all_goals simp only [sizs, Nd.siz] ; omega
theorem sc_of {l : Str} {cs : List Nd} (hl : okS l = true) (ho : oks cs = true) : Sc "" (toksN (.node l cs)) [] [] 0 (tagsN (.node l cs)) (hgt (.node l cs)) := by
  have ne := okS_ne hl
  simp only [toksN, tagsN]
  refine Sc.down (Sc.label ne.1 ne.2 ?_)
  refine scL cs (ls := []) ho ne.2 fun q hq => ?_
  refine Sc.up ?_
  have e : max (max 0 (([] : List Str).length + 1)) (if cs = [] then 0 else ([] : List Str).length + 1 + hgts cs) = hgt (.node l cs) := by
    simp only [hgt, List.length_nil]
    by_cases h : cs = []
    · subst h; simp [hgts]
    · rw [if_neg h]; omega
  rw [e]
  simpa using Sc.done
theorem told {l : Str} {cs : List Nd} (ho : (Nd.node l cs).ok = true) (hz : (Nd.node l cs).siz ≤ 2000) (hd : (Nd.node l cs).dep ≤ 20) : Told (.node l cs) := by
  have ho' := ho
  simp only [Nd.ok, Bool.and_eq_true] at ho'
  have hz' := hz
  have hd' := hd
  simp only [Nd.siz, Nd.dep] at hz' hd'
  have tl := text_len _ ho
  have l1 : (Txt.replace (Nd.node l cs).text "(" "( ").length ≤ 2 * (Nd.node l cs).text.length := by
    show (Txt.replace _ (Str.ofString "(") (Str.ofString "( ")).cps.size ≤ _
    rw [eOpen, eOpen2, ← Array.length_toList, replace_sbs]
    have := sbs_len 40 [40, 32] 2 (by omega) (by simp) (Nd.node l cs).text.cps.toList
    rw [Array.length_toList] at this; exact this
  have l2 : (Txt.replace (Txt.replace (Nd.node l cs).text "(" "( ") ")" " )").length ≤ 2 * (Txt.replace (Nd.node l cs).text "(" "( ").length := by
    show (Txt.replace _ (Str.ofString ")") (Str.ofString " )")).cps.size ≤ _
    rw [eClose, eClose2, ← Array.length_toList, replace_sbs]
    have := sbs_len 41 [32, 41] 2 (by omega) (by simp) (Txt.replace (Nd.node l cs).text "(" "( ").cps.toList
    rw [Array.length_toList] at this; exact this
  have tk := toksL_len cs
  refine ⟨ho, hz, hd, by omega, by omega, by omega, l, toksL cs ++ [Str.ofString ")"], ?_, ?_, rd_of ho'.2 (by omega) (by omega), ?_⟩
  · rw [parts_toks ho]; simp [toksN]
  · simp; omega
  · have := sc_of ho'.1 ho'.2
    simpa [toksN] using this
end TL

end
section
open PySem PySem.W PyProof.Rows PySem.Calls
set_option maxRecDepth 100000
set_option linter.unusedVariables false
set_option linter.unusedSimpArgs false
namespace TL
open TL
/-! places, plainly -/
mutual
theorem places_at : ∀ (nd : Nd) (p : List Nat) (r : List Nat × Nd), r ∈ places nd p → ∃ q, r.1 = p ++ q ∧ nd.at q = some r.2
  | .leaf w, p, r, h => by
    simp only [places, List.mem_singleton] at h
    subst h
    exact ⟨[], by simp, rfl⟩
  | .node l cs, p, r, h => by
    simp only [places, List.mem_cons] at h
    rcases h with rfl | h
    · exact ⟨[], by simp, rfl⟩
    · obtain ⟨j, q, e1, e2⟩ := placess_at cs p 0 r h
      refine ⟨j :: q, by rw [e1, Nat.zero_add], ?_⟩
      simp only [Nd.at]
      exact e2
theorem placess_at : ∀ (cs : List Nd) (p : List Nat) (i : Nat) (r : List Nat × Nd), r ∈ placess cs p i → ∃ j q, r.1 = p ++ (i + j) :: q ∧ ((cs[j]?).bind fun c => c.at q) = some r.2
  | [], p, i, r, h => by simp [placess] at h
  | c :: cs, p, i, r, h => by
    simp only [placess, List.mem_append] at h
    rcases h with h | h
    · obtain ⟨q, e1, e2⟩ := places_at c _ r h
      exact ⟨0, q, by rw [e1]; simp, by simpa using e2⟩
    · obtain ⟨j, q, e1, e2⟩ := placess_at cs p (i + 1) r h
      exact ⟨j + 1, q, by rw [e1]; congr 2; omega, by simpa using e2⟩
end
mutual
theorem at_places : ∀ (nd : Nd) (p q : List Nat) (s : Nd), nd.at q = some s → (p ++ q, s) ∈ places nd p
  | .leaf w, p, [], s, h => by simp [Nd.at] at h; subst h; simp [places]
  | .leaf w, p, i :: q, s, h => by simp [Nd.at] at h
  | .node l cs, p, [], s, h => by simp [Nd.at] at h; subst h; simp [places]
  | .node l cs, p, i :: q, s, h => by
    simp only [Nd.at] at h
    have := at_placess cs p 0 i q s h
    rw [Nat.zero_add] at this
    simp only [places, List.mem_cons]
    exact .inr this
theorem at_placess : ∀ (cs : List Nd) (p : List Nat) (i j : Nat) (q : List Nat) (s : Nd), ((cs[j]?).bind fun c => c.at q) = some s → (p ++ (i + j) :: q, s) ∈ placess cs p i
  | [], p, i, j, q, s, h => by simp at h
  | c :: cs, p, i, 0, q, s, h => by
    simp only [List.getElem?_cons_zero, Option.bind_some] at h
    have := at_places c (p ++ [i]) q s h
    simp only [placess, List.mem_append]
    refine .inl ?_
    simpa using this
  | c :: cs, p, i, j + 1, q, s, h => by
    simp only [List.getElem?_cons_succ] at h
    have := at_placess cs p (i + 1) j q s h
    simp only [placess, List.mem_append]
    refine .inr ?_
    rw [show i + (j + 1) = i + 1 + j by omega]; exact this
end
theorem at_dep : ∀ (p : List Nat) {nd s : Nd}, nd.at p = some s → p.length + s.dep ≤ nd.dep
  | [], nd, s, h => by
    have : nd = s := by cases nd <;> simpa [Nd.at] using h
    subst this; simp
  | i :: p, .leaf w, s, h => by simp [Nd.at] at h
  | i :: p, .node l cs, s, h => by
    simp only [Nd.at] at h
    obtain ⟨c, hc, h⟩ := Option.bind_eq_some_iff.mp h
    have := at_dep p h
    have := dep_lt (l := l) (List.mem_of_getElem? hc)
    simp only [List.length_cons]; omega
theorem at_siz : ∀ (p : List Nat) {nd s : Nd}, nd.at p = some s → s.siz ≤ nd.siz
  | [], nd, s, h => by
    have : nd = s := by cases nd <;> simpa [Nd.at] using h
    subst this; exact Nat.le_refl _
  | i :: p, .leaf w, s, h => by simp [Nd.at] at h
  | i :: p, .node l cs, s, h => by
    simp only [Nd.at] at h
    obtain ⟨c, hc, h⟩ := Option.bind_eq_some_iff.mp h
    have := at_siz p h
    have := siz_lt (l := l) (List.mem_of_getElem? hc)
    omega
theorem at_ok : ∀ (p : List Nat) {nd s : Nd}, nd.at p = some s → nd.ok = true → s.ok = true
  | [], nd, s, h, ho => by
    have : nd = s := by cases nd <;> simpa [Nd.at] using h
    subst this; exact ho
  | i :: p, .leaf w, s, h, ho => by simp [Nd.at] at h
  | i :: p, .node l cs, s, h, ho => by
    simp only [Nd.at] at h
    obtain ⟨c, hc, h⟩ := Option.bind_eq_some_iff.mp h
    exact at_ok p h (ok_mem ho (List.mem_of_getElem? hc))
theorem at_app : ∀ (p q : List Nat) {nd : Nd}, nd.at (p ++ q) = (nd.at p).bind fun c => c.at q
  | [], q, nd => by cases nd <;> simp [Nd.at]
  | i :: p, q, .leaf w => by simp [Nd.at]
  | i :: p, q, .node l cs => by
    simp only [List.cons_append, Nd.at]
    cases cs[i]? with
    | none => rfl
    | some c => simp only [Option.bind_some]; exact at_app p q
/-- a part's parent -/
theorem at_parent {nd s : Nd} {p : List Nat} (h : nd.at p = some s) (hp : p ≠ []) : ∃ p' i l ds, p = p' ++ [i] ∧ nd.at p' = some (.node l ds) ∧ ds[i]? = some s := by
  obtain ⟨p', i, rfl⟩ : ∃ p' i, p = p' ++ [i] := ⟨p.dropLast, p.getLast hp, (List.dropLast_concat_getLast hp).symm⟩
  rw [at_app] at h
  obtain ⟨c, hc, h⟩ := Option.bind_eq_some_iff.mp h
  cases c with
  | leaf w => simp [Nd.at] at h
  | node l ds =>
    refine ⟨p', i, l, ds, rfl, hc, ?_⟩
    simp only [Nd.at] at h
    obtain ⟨c', hc', h⟩ := Option.bind_eq_some_iff.mp h
    have : c' = s := by cases c' <;> simpa [Nd.at] using h
    rw [hc', this]
/-! the law's own edits -/
theorem getD_of {cs : List Nd} {i : Nat} {c x : Nd} (h : cs[i]? = some c) : cs.getD i x = c := by simp [List.getD, h]
theorem putN_mod : ∀ (p : List Nat) {nd : Nd} {l : Str} {ds : List Nd} {f : List Nd → List Nd}, nd.at p = some (.node l ds) → putN (.node l (f ds)) nd p = nd.mod f p
  | [], .leaf w, _, _, _, h => by simp [Nd.at] at h
  | [], .node l cs, _, _, _, h => by simp [Nd.at] at h; obtain ⟨rfl, rfl⟩ := h; simp [putN, Nd.mod]
  | i :: p, .leaf w, _, _, _, h => by simp [Nd.at] at h
  | i :: p, .node l cs, _, _, _, h => by
    simp only [Nd.at] at h
    obtain ⟨c, hc, h⟩ := Option.bind_eq_some_iff.mp h
    simp only [putN, Nd.mod, hc, getD_of hc, putN_mod p h]
theorem putN_rel : ∀ (p : List Nat) {nd : Nd} {l b : Str} {ds : List Nd}, nd.at p = some (.node l ds) → putN (.node b ds) nd p = nd.rel b p
  | [], .leaf w, _, _, _, h => by simp [Nd.at] at h
  | [], .node l cs, _, _, _, h => by simp [Nd.at] at h; obtain ⟨rfl, rfl⟩ := h; simp [putN, Nd.rel]
  | i :: p, .leaf w, _, _, _, h => by simp [Nd.at] at h
  | i :: p, .node l cs, _, _, _, h => by
    simp only [Nd.at] at h
    obtain ⟨c, hc, h⟩ := Option.bind_eq_some_iff.mp h
    simp only [putN, Nd.rel, hc, getD_of hc, putN_rel p h]
theorem putN_snoc : ∀ (p : List Nat) {nd x : Nd} {l : Str} {ds : List Nd} {i : Nat}, nd.at p = some (.node l ds) → i < ds.length → putN x nd (p ++ [i]) = nd.mod (fun cs => cs.set i x) p
  | [], .leaf w, _, _, _, _, h, _ => by simp [Nd.at] at h
  | [], .node l cs, x, _, _, i, h, hi => by
    simp [Nd.at] at h; obtain ⟨rfl, rfl⟩ := h
    simp only [List.nil_append, putN, Nd.mod]
  | j :: p, .leaf w, _, _, _, _, h, _ => by simp [Nd.at] at h
  | j :: p, .node l cs, _, _, _, _, h, hi => by
    simp only [Nd.at] at h
    obtain ⟨c, hc, h⟩ := Option.bind_eq_some_iff.mp h
    simp only [List.cons_append, putN, Nd.mod, hc, getD_of hc, putN_snoc p h hi]
theorem split_at {cs : List Nd} {i : Nat} {c : Nd} (hc : cs[i]? = some c) (x : Nd) : cs = cs.take i ++ ([c] ++ cs.drop (i + 1)) ∧ cs.set i x = cs.take i ++ ([x] ++ cs.drop (i + 1)) := by
  obtain ⟨hi, e⟩ := List.getElem?_eq_some_iff.mp hc
  constructor
  · rw [← List.append_assoc, ← (show cs.take (i + 1) = cs.take i ++ [c] by rw [List.take_add_one, hc]; rfl), List.take_append_drop]
  · rw [List.set_eq_take_append_cons_drop, if_pos hi]; simp
theorem oks_app : ∀ a b : List Nd, oks (a ++ b) = (oks a && oks b)
  | [], b => by simp [oks]
  | c :: a, b => by simp [oks, oks_app a b, Bool.and_assoc]
theorem deps_app : ∀ a b : List Nd, deps (a ++ b) = max (deps a) (deps b)
  | [], b => by simp [deps]
  | c :: a, b => by simp only [List.cons_append, deps, deps_app a b]; omega
theorem mod_ok : ∀ (p : List Nat) {nd : Nd} {l : Str} {ds : List Nd} {f : List Nd → List Nd}, nd.at p = some (.node l ds) → nd.ok = true → oks (f ds) = true → (nd.mod f p).ok = true
  | [], .leaf w, _, _, _, h, _, _ => by simp [Nd.at] at h
  | [], .node l cs, _, _, _, h, ho, hf => by
    simp [Nd.at] at h; obtain ⟨rfl, rfl⟩ := h
    simp only [Nd.mod, Nd.ok, Bool.and_eq_true] at ho ⊢; exact ⟨ho.1, hf⟩
  | i :: p, .leaf w, _, _, _, h, _, _ => by simp [Nd.at] at h
  | i :: p, .node l cs, _, _, f, h, ho, hf => by
    simp only [Nd.at] at h
    obtain ⟨c, hc, h⟩ := Option.bind_eq_some_iff.mp h
    have ih := mod_ok p h (ok_mem ho (List.mem_of_getElem? hc)) hf
    obtain ⟨e1, e2⟩ := split_at hc (c.mod f p)
    simp only [Nd.mod, hc, Nd.ok, Bool.and_eq_true] at ho ⊢
    refine ⟨ho.1, ?_⟩
    have ho2 := ho.2
    rw [e1] at ho2
    rw [e2]
    simp only [oks_app, oks, Bool.and_eq_true] at ho2 ⊢
    exact ⟨ho2.1, ⟨ih, trivial⟩, ho2.2.2⟩
theorem mod_siz : ∀ (p : List Nat) {nd : Nd} {l : Str} {ds : List Nd} {f : List Nd → List Nd}, nd.at p = some (.node l ds) → (nd.mod f p).siz + sizs ds = nd.siz + sizs (f ds)
  | [], .leaf w, _, _, _, h => by simp [Nd.at] at h
  | [], .node l cs, _, _, _, h => by
    simp [Nd.at] at h; obtain ⟨rfl, rfl⟩ := h
    simp only [Nd.mod, Nd.siz]; omega
  | i :: p, .leaf w, _, _, _, h => by simp [Nd.at] at h
  | i :: p, .node l cs, _, ds, f, h => by
    simp only [Nd.at] at h
    obtain ⟨c, hc, h⟩ := Option.bind_eq_some_iff.mp h
    have ih := mod_siz p (f := f) h
    obtain ⟨e1, e2⟩ := split_at hc (c.mod f p)
    have e1 := congrArg sizs e1
    have e2 := congrArg sizs e2
    simp only [sizs_app, sizs] at e1 e2
    simp only [Nd.mod, hc, Nd.siz]; omega
theorem mod_dep : ∀ (p : List Nat) {nd : Nd} {l : Str} {ds : List Nd} {f : List Nd → List Nd}, nd.at p = some (.node l ds) → (nd.mod f p).dep ≤ max nd.dep (p.length + 1 + deps (f ds))
  | [], .leaf w, _, _, _, h => by simp [Nd.at] at h
  | [], .node l cs, _, _, _, h => by
    simp [Nd.at] at h; obtain ⟨rfl, rfl⟩ := h
    simp only [Nd.mod, Nd.dep, List.length_nil]; omega
  | i :: p, .leaf w, _, _, _, h => by simp [Nd.at] at h
  | i :: p, .node l cs, _, ds, f, h => by
    simp only [Nd.at] at h
    obtain ⟨c, hc, h⟩ := Option.bind_eq_some_iff.mp h
    have ih := mod_dep p (f := f) h
    obtain ⟨e1, e2⟩ := split_at hc (c.mod f p)
    have e1 := congrArg deps e1
    have e2 := congrArg deps e2
    simp only [deps_app, deps] at e1 e2
    simp only [Nd.mod, hc, Nd.dep, List.length_cons]; omega
theorem rel_same : ∀ (p : List Nat) {nd : Nd} {l b : Str} {ds : List Nd}, nd.at p = some (.node l ds) → (nd.rel b p).siz = nd.siz ∧ (nd.rel b p).dep = nd.dep ∧ (okS b = true → nd.ok = true → (nd.rel b p).ok = true) ∧ sameSh nd (nd.rel b p) = true ∧ ∃ l' cs', nd.rel b p = .node l' cs'
  | [], .leaf w, _, _, _, h => by simp [Nd.at] at h
  | [], .node l cs, _, _, _, h => by
    refine ⟨rfl, rfl, fun hb ho => ?_, ?_, _, _, rfl⟩
    · simp only [Nd.rel, Nd.ok, Bool.and_eq_true] at ho ⊢; exact ⟨hb, ho.2⟩
    · simp only [Nd.rel, sameSh]; exact sameL_refl cs
  | i :: p, .leaf w, _, _, _, h => by simp [Nd.at] at h
  | i :: p, .node l cs, _, b, ds, h => by
    simp only [Nd.at] at h
    obtain ⟨c, hc, h⟩ := Option.bind_eq_some_iff.mp h
    obtain ⟨i1, i2, i3, i4, _⟩ := rel_same p (b := b) h
    obtain ⟨e1, e2⟩ := split_at hc (c.rel b p)
    have s1 := congrArg sizs e1
    have s2 := congrArg sizs e2
    have d1 := congrArg deps e1
    have d2 := congrArg deps e2
    simp only [sizs_app, sizs] at s1 s2
    simp only [deps_app, deps] at d1 d2
    have er : (Nd.node l cs).rel b (i :: p) = .node l (cs.set i (c.rel b p)) := by simp [Nd.rel, hc]
    rw [er]
    simp only [Nd.siz, Nd.dep, Nd.ok, sameSh]
    refine ⟨by omega, by omega, fun hb ho => ?_, ?_, _, _, rfl⟩
    · simp only [Bool.and_eq_true] at ho ⊢
      refine ⟨ho.1, ?_⟩
      have ho2 := ho.2
      rw [e1] at ho2
      rw [e2]
      simp only [oks_app, oks, Bool.and_eq_true] at ho2 ⊢
      exact ⟨ho2.1, ⟨i3 hb ho2.2.1.1, trivial⟩, ho2.2.2⟩
    · have : ∀ (cs : List Nd) (i : Nat) (x : Nd), cs[i]? = some c → sameSh c x = true → sameL cs (cs.set i x) = true := by
        intro cs
        induction cs with
        | nil => intro i x h; simp at h
        | cons d ds ih =>
          intro i x h hx
          cases i with
          | zero => simp at h; subst h; simp [sameL, hx, sameL_refl]
          | succ i => simp only [List.set_cons_succ, sameL, sameSh_refl, Bool.true_and]; exact ih i x (by simpa using h) hx
      exact this cs i _ hc i4
theorem rel_ne : ∀ (p : List Nat) {nd : Nd} {l b : Str} {ds : List Nd}, nd.at p = some (.node l ds) → l ≠ b → nd ≠ nd.rel b p
  | [], .leaf w, _, _, _, h, _ => by simp [Nd.at] at h
  | [], .node l cs, _, _, _, h, hne => by
    simp [Nd.at] at h; obtain ⟨rfl, rfl⟩ := h
    simp only [Nd.rel, ne_eq, Nd.node.injEq, not_and]
    exact fun e => absurd e hne
  | i :: p, .leaf w, _, _, _, h, _ => by simp [Nd.at] at h
  | i :: p, .node l cs, _, b, ds, h, hne => by
    simp only [Nd.at] at h
    obtain ⟨c, hc, h⟩ := Option.bind_eq_some_iff.mp h
    have ih := rel_ne p h hne
    simp only [Nd.rel, hc, ne_eq, Nd.node.injEq, true_and]
    intro e
    have hi := (List.getElem?_eq_some_iff.mp hc).1
    have := congrArg (fun x => x[i]?) e
    simp only [hc, List.getElem?_set_self hi, Option.some.injEq] at this
    exact ih this
theorem okS_notZ {l : Str} (h : okS l = true) : l ≠ Str.ofString "Z" := by
  rintro rfl
  exact absurd h (by decide +kernel)
/-! the order of places -/
def Lx : List Nat → List Nat → Prop
  | [], _ => True
  | _ :: _, [] => False
  | a :: p, b :: q => a < b ∨ (a = b ∧ Lx p q)
theorem Lx.pre : ∀ p q : List Nat, Lx p (p ++ q)
  | [], q => trivial
  | a :: p, q => .inr ⟨rfl, Lx.pre p q⟩
theorem Lx.app : ∀ (p : List Nat) {q r : List Nat}, Lx q r → Lx (p ++ q) (p ++ r)
  | [], _, _, h => h
  | a :: p, _, _, h => .inr ⟨rfl, Lx.app p h⟩
/-- between two that begin with r, all begin with r -/
theorem Lx.between : ∀ (r : List Nat) {a b c : List Nat}, Lx a b → Lx b c → a.take r.length = r → c.take r.length = r → b.take r.length = r
  | [], _, _, _, _, _, _, _ => by simp
  | x :: r, [], b, c, _, _, h, _ => by simp at h
  | x :: r, _, _, [], _, _, _, h => by simp at h
  | x :: r, a :: p, [], c :: s, h, _, _, _ => by simp [Lx] at h
  | x :: r, a :: p, b :: q, c :: s, h1, h2, e1, e2 => by
    simp only [List.length_cons, List.take_succ_cons, List.cons.injEq] at e1 e2 ⊢
    obtain ⟨rfl, e1⟩ := e1
    obtain ⟨rfl, e2⟩ := e2
    rcases h1 with h1 | ⟨rfl, h1⟩
    · rcases h2 with h2 | ⟨rfl, h2⟩ <;> omega
    · rcases h2 with h2 | ⟨_, h2⟩
      · omega
      · exact ⟨rfl, Lx.between r h1 h2 e1 e2⟩
mutual
theorem places_sorted : ∀ (nd : Nd) (p : List Nat), ((places nd p).map (·.1)).Pairwise Lx
  | .leaf w, p => by simp [places]
  | .node l cs, p => by
    simp only [places, List.map_cons, List.pairwise_cons]
    refine ⟨fun a ha => ?_, placess_sorted cs p 0⟩
    obtain ⟨r, hr, rfl⟩ := List.mem_map.mp ha
    obtain ⟨j, q, e, _⟩ := placess_at cs p 0 r hr
    rw [e]; exact Lx.pre _ _
theorem placess_sorted : ∀ (cs : List Nd) (p : List Nat) (i : Nat), ((placess cs p i).map (·.1)).Pairwise Lx
  | [], p, i => by simp [placess]
  | c :: cs, p, i => by
    simp only [placess, List.map_append, List.pairwise_append]
    refine ⟨places_sorted c _, placess_sorted cs p (i + 1), fun a ha b hb => ?_⟩
    obtain ⟨r, hr, rfl⟩ := List.mem_map.mp ha
    obtain ⟨s, hs, rfl⟩ := List.mem_map.mp hb
    obtain ⟨q, e, _⟩ := places_at c _ r hr
    obtain ⟨j, q', e', _⟩ := placess_at cs p (i + 1) s hs
    rw [e, e', List.append_assoc]
    exact Lx.app p (.inl (by omega))
end
theorem words_sorted (nd : Nd) : ((wrds nd []).map (·.1)).Pairwise Lx := (places_sorted nd []).sublist (List.Sublist.map _ List.filter_sublist)
/-- lowest = longest prefix of both ends -/
theorem low_cpre {ps : List (List Nat)} (hs : ps.Pairwise Lx) {a b : Nat} (hab : a < b) (hb : b ≤ ps.length) {sp ep : List Nat} (h1 : ps[a]? = some sp) (h2 : ps[b - 1]? = some ep) : ∀ (n : Nat) (p : List Nat), p.length = n → sp.take n = p → (cpre sp ep).length ≤ n → lowF n ((ps.drop a).take (b - a)) p = cpre sp ep := by
  have refl : ∀ p : List Nat, Lx p p := fun p => by have := Lx.pre p []; rwa [List.append_nil] at this
  have ord : ∀ i j x y, i ≤ j → ps[i]? = some x → ps[j]? = some y → Lx x y := fun i j x y hij hx hy => by
    rcases Nat.lt_or_eq_of_le hij with h | rfl
    · obtain ⟨hi, rfl⟩ := List.getElem?_eq_some_iff.mp hx
      obtain ⟨hj, rfl⟩ := List.getElem?_eq_some_iff.mp hy
      exact List.pairwise_iff_getElem.mp hs i j hi hj h
    · rw [hx] at hy; cases hy; exact refl x
  have get : ∀ q, q ∈ (ps.drop a).take (b - a) → ∃ j, a ≤ j ∧ j < b ∧ ps[j]? = some q := fun q hq => by
    obtain ⟨j, hj⟩ := List.mem_iff_getElem?.mp hq
    rw [List.getElem?_take] at hj
    split at hj
    · rename_i hlt
      rw [List.getElem?_drop] at hj
      exact ⟨a + j, by omega, by omega, hj⟩
    · cases hj
  have mem : ∀ j q, a ≤ j → j < b → ps[j]? = some q → q ∈ (ps.drop a).take (b - a) := fun j q h1 h2 h3 => by
    refine List.mem_iff_getElem?.mpr ⟨j - a, ?_⟩
    rw [List.getElem?_take, if_pos (by omega), List.getElem?_drop, show a + (j - a) = j by omega]; exact h3
  have ag : ∀ p : List Nat, sp.take p.length = p → (agreeP ((ps.drop a).take (b - a)) p = true ↔ ep.take p.length = p) := fun p hp => by
    unfold agreeP
    rw [List.all_eq_true]
    constructor
    · intro h
      exact of_decide_eq_true (h ep (mem (b - 1) ep (by omega) (by omega) h2))
    · intro h q hq
      obtain ⟨j, j1, j2, j3⟩ := get q hq
      exact decide_eq_true (Lx.between p (ord a j sp q j1 h1 j3) (ord j (b - 1) q ep (by omega) j3 h2) hp h)
  have pre : ∀ (n : Nat) (s e : List Nat), n ≤ (cpre s e).length → s.take n = (cpre s e).take n ∧ e.take n = (cpre s e).take n := by
    intro n s
    induction s generalizing n with
    | nil => intro e h; simp [cpre] at h; subst h; simp
    | cons x s ih =>
      intro e h
      cases e with
      | nil => simp [cpre] at h; subst h; simp
      | cons y e =>
        simp only [cpre] at h ⊢
        by_cases q : x = y
        · subst q
          rw [if_pos rfl] at h ⊢
          cases n with
          | zero => simp
          | succ n =>
            obtain ⟨a1, a2⟩ := ih n e (by simpa using h)
            simp [a1, a2]
        · rw [if_neg q] at h ⊢
          simp at h; subst h; simp
  have post : ∀ (n : Nat) (s e : List Nat), n ≤ s.length → s.take n = e.take n → n ≤ (cpre s e).length := by
    intro n s
    induction s generalizing n with
    | nil => intro e h _; simp at h; omega
    | cons x s ih =>
      intro e h he
      cases n with
      | zero => exact Nat.zero_le _
      | succ n =>
        cases e with
        | nil => simp at he
        | cons y e =>
          simp only [List.take_succ_cons, List.cons.injEq] at he
          obtain ⟨rfl, he⟩ := he
          have := ih n e (by simpa using h) he
          simp [cpre, this]
  intro n
  induction n with
  | zero =>
    intro p hp hpre hc
    have : p = [] := List.length_eq_zero_iff.mp hp
    subst this
    have : cpre sp ep = [] := List.length_eq_zero_iff.mp (by omega)
    rw [this]; rfl
  | succ n ih =>
    intro p hp hpre hc
    have hpre' : sp.take p.length = p := by rw [hp]; exact hpre
    have hlen : n + 1 ≤ sp.length := by have := congrArg List.length hpre; rw [List.length_take, hp] at this; omega
    simp only [lowF]
    by_cases q : ep.take p.length = p
    · rw [if_pos ((ag p hpre').mpr q)]
      have h1 := post (n + 1) sp ep hlen (by rw [hpre]; rw [hp] at q; exact q.symm)
      have h2 := (pre (n + 1) sp ep h1).1
      rw [hpre] at h2
      rw [h2, List.take_of_length_le (by omega)]
    · rw [if_neg (fun z => q ((ag p hpre').mp z))]
      refine ih p.dropLast (by rw [List.length_dropLast]; omega) ?_ ?_
      · rw [List.dropLast_eq_take, hp, ← hpre, List.take_take]; simp
      · rcases Nat.lt_or_ge n (cpre sp ep).length with z | z
        · have h2 := pre (n + 1) sp ep z
          rw [hpre] at h2
          rw [hp] at q
          exact absurd (h2.2.trans h2.1.symm) q
        · exact z
theorem cpre_take : ∀ (p q : List Nat), cpre p q = p.take (cpre p q).length
  | [], _ => by simp [cpre]
  | _ :: _, [] => by simp [cpre]
  | a :: p, b :: q => by
    simp only [cpre]
    by_cases h : a = b
    · rw [if_pos h, List.length_cons, List.take_succ_cons]; exact congrArg _ (cpre_take p q)
    · rw [if_neg h]; simp
theorem at_take {nd s : Nd} {p : List Nat} (n : Nat) (h : nd.at p = some s) : ∃ s', nd.at (p.take n) = some s' := by
  rw [← List.take_append_drop n p, at_app] at h
  obtain ⟨c, hc, _⟩ := Option.bind_eq_some_iff.mp h
  exact ⟨c, hc⟩
/-- the inner parts -/
def innr (nd : Nd) : List (List Nat × Nd) := (places nd []).filter fun r => !lf r.2
theorem innr_at {nd : Nd} {r : List Nat × Nd} (h : r ∈ innr nd) : ∃ l ds, r.2 = .node l ds ∧ nd.at r.1 = some (.node l ds) := by
  simp only [innr, List.mem_filter] at h
  obtain ⟨q, e1, e2⟩ := places_at nd [] r h.1
  rw [List.nil_append] at e1
  cases e : r.2 with
  | leaf w => rw [e] at h; simp [lf] at h
  | node l ds => exact ⟨l, ds, rfl, by rw [e1, e2, e]⟩
theorem at_innr {nd : Nd} {p : List Nat} {l : Str} {ds : List Nd} (h : nd.at p = some (.node l ds)) : (p, .node l ds) ∈ innr nd := by
  have := at_places nd [] p _ h
  rw [List.nil_append] at this
  simp [innr, this, lf]
theorem wrds_at {nd : Nd} {r : List Nat × Nd} (h : r ∈ wrds nd []) : ∃ s, r.2 = .leaf s ∧ nd.at r.1 = some (.leaf s) := by
  simp only [wrds, List.mem_filter] at h
  obtain ⟨q, e1, e2⟩ := places_at nd [] r h.1
  rw [List.nil_append] at e1
  cases e : r.2 with
  | node l ds => rw [e] at h; simp [lf] at h
  | leaf w => exact ⟨w, rfl, by rw [e1, e2, e]⟩
end TL

end
section
open PySem PySem.W PyProof.Rows PySem.Calls Builtin Builtin.ObjectAttr
open PySem.Spec PySem.SeqAt
set_option maxRecDepth 100000
set_option linter.unusedVariables false
set_option linter.unusedSimpArgs false
set_option pp.deepTerms false
set_option pp.deepTerms.threshold 4
set_option pp.maxSteps 2000
set_option maxHeartbeats 1000000
namespace TL
open TL
local macro_rules | `(tactic| walk_at "at") => `(tactic| repeat (first | exact At.head | apply At.tail))
local macro_rules | `(tactic| walk_at "put") => `(tactic| repeat (first | exact Put.head | apply Put.tail))
local macro_rules | `(tactic| walk_at "m") => `(tactic| repeat (first | exact List.Mem.head _ | apply List.Mem.tail))
local macro_rules | `(tactic| walk_at "mput") => `(tactic| repeat (first | exact MPut.head | apply MPut.tail))
/-! list.index -/
theorem ints_det {g : Heap} : ∀ {p q : List Nat} {vs : List Value}, IsAll g vs (p.map fun (n : Nat) => .int n) → IsAll g vs (q.map fun (n : Nat) => .int n) → p = q
  | [], [], _, _, _ => rfl
  | [], _ :: _, _, .nil, h => by cases h
  | _ :: _, [], _, h, .nil => by cases h
  | a :: p, b :: q, _, .cons x r, .cons y s => by
    obtain ⟨u, rfl⟩ := x.of_int
    obtain ⟨u', e⟩ := y.of_int
    rw [ints_det r s]
    injection e with e1 e2
    rw [Int.ofNat_inj.mp e1]
theorem pyP_det {g : Heap} {p q : List Nat} {v : Value} (h1 : Is g v (pyP p)) (h2 : Is g v (pyP q)) : p = q := by
  obtain ⟨l, vs, rfl, a1, a2⟩ := h1.of_tuple
  obtain ⟨l', vs', e, b1, b2⟩ := h2.of_tuple
  cases e
  obtain ⟨o, c1, _, n, c2⟩ := a1
  obtain ⟨o', d1, _, n', d2⟩ := b1
  rw [c1] at d1; cases d1
  rw [c2] at d2
  injection d2 with d3
  have := congrArg Array.toList d3
  simp only [List.toList_toArray] at this
  subst this
  exact ints_det a2 b2
theorem ints_any {g h : Heap} : ∀ {p : List Nat} {vs : List Value}, IsAll g vs (p.map fun (n : Nat) => .int n) → IsAll h vs (p.map fun (n : Nat) => .int n)
  | [], _, .nil => .nil
  | a :: p, _, .cons x r => by
    obtain ⟨u, rfl⟩ := x.of_int
    exact .cons (.int _ _) (ints_any r)
theorem not_before {q : List Nat} : ∀ {ps : List (List Nat)} {j : Nat}, j < ps.idxOf q → ps[j]? ≠ some q
  | [], j, h => by simp at h
  | p :: ps, j, h => by
    by_cases e : p = q
    · subst e; simp at h
    · have e' : (p == q) = false := by simpa using e
      rw [List.idxOf_cons, e'] at h
      cases j with
      | zero => simpa using e
      | succ j => simpa using not_before (ps := ps) (j := j) (by simpa using h)
section
variable {w : World} {A : Around} {env : Env} {S : List Addr} {g₀ h₀ g h h' g' : Heap} {μ μ' M : Mu} {lc : Lc} {c : Shared} {t : Tok} {Q : Value → Shared → Prop} {K : Frag} {mg mb : Str → Option Value} {d : Ad} {m : Md} {pos p : Pos}
theorem cIndex {l : Addr} {vs : List Value} {ps : List (List Nat)} {x : Value} {q : List Nat} (r : Room A 5) (hl : h.IsList l vs.toArray) (hi : IsAll h vs (ps.map pyP)) (hx : Is h x (pyP q)) (hq : q ∈ ps) (hz : ps.length ≤ 10000) (hd : ∃ o n, h.get? l = some o ∧ o = ({ cls := .type "list", data := .seq vs.toArray n } : Obj))
    (k : ∀ j u t', ps[j]? = some q → j < ps.length → Q (.int (j : Nat) u) (St c h t')) : Wp w A (call (.builtin "list.index") [.ref l, x]) Q (St c h t) := by
  obtain ⟨o, n, ho, rfl⟩ := hd
  have hj : ps.idxOf q < ps.length := List.idxOf_lt_length_iff.mpr hq
  have lv : vs.length = ps.length := by have := hi.len; simpa using this
  have at_ : ∀ y ∈ vs, ∃ p, Is h y (pyP p) := fun y hy => by
    obtain ⟨i, hi'⟩ := List.mem_iff_getElem?.mp hy
    obtain ⟨d', e', id'⟩ := hi.at hi'
    rw [List.getElem?_map] at e'
    obtain ⟨p, _, rfl⟩ := Option.map_eq_some_iff.mp e'
    exact ⟨p, id'⟩
  have get : ∀ i (hi' : i < vs.length), ∃ p, ps[i]? = some p ∧ Is h vs[i] (pyP p) := fun i hi' => by
    obtain ⟨d', e', id'⟩ := hi.at (List.getElem?_eq_getElem hi')
    rw [List.getElem?_map] at e'
    obtain ⟨p, e1, rfl⟩ := Option.map_eq_some_iff.mp e'
    exact ⟨p, e1, id'⟩
  refine ⟨call_meets (s := St c h t) PySem.F.slot_list_index ⟨_, ho, rfl⟩ PySem.F.entry_list_index (PySem.F.args_list_index_2 _ _)
    (SeqAt.list_indexAt l vs.toArray n none #[] x (fun y => @decide (Is h y (pyP q)) (Classical.propDecidable _)) (ps.idxOf q) (by simpa [lv] using hj) (by omega) ?_ ?_) ⟨ho, fun y hy => ?_, k _ _ _ ?_ hj⟩⟩
  · obtain ⟨p, e1, e2⟩ := get (ps.idxOf q) (by omega)
    rw [List.getElem?_eq_getElem hj, List.getElem_idxOf hj] at e1
    cases e1
    exact @decide_eq_true _ (Classical.propDecidable _) e2
  · intro i hi' hlt
    have hi'' : i < vs.length := by simpa using hi'
    obtain ⟨p, e1, e2⟩ := get i hi''
    refine @decide_eq_false _ (Classical.propDecidable _) fun z => ?_
    have := pyP_det e2 z
    subst this
    exact not_before hlt e1
  · obtain ⟨p, ip⟩ := at_ y (by simpa using hy)
    obtain ⟨as, ra⟩ := ip
    obtain ⟨bs, rb⟩ := hx
    have key := eqAt_reads (pyP p) (pyP q) A.in1 (St c h t) y x as bs ra rb (canLay_of_shaped (shP p)) (canLay_of_shaped (shP q)) (room_of_shaped (shP p) (by have := r.units; show A.units + 1 + 64 < 9900; omega))
    have e : PyData.eqv (pyP p) (pyP q) = @decide (Is h y (pyP q)) (Classical.propDecidable _) := by
      rw [← same_eq_eqv _ _ (mix_no _ _ (nbP p) (nbP q))]
      by_cases e : p = q
      · subst e
        rw [(same_iff _ _ (nbP p)).mpr rfl, @decide_eq_true _ (Classical.propDecidable _) ⟨as, ra⟩]
      · rw [@decide_eq_false _ (Classical.propDecidable _) fun z => e (pyP_det ⟨as, ra⟩ z)]
        exact Bool.eq_false_iff.mpr fun z => e (pyP_inj ((same_iff _ _ (nbP p)).mp z))
    rw [← e]
    exact key
  · rw [List.getElem?_eq_getElem hj, List.getElem_idxOf hj]
/-! what a call made is learnt -/
def adds (g h : Heap) : List Addr → Heap
  | [] => g
  | a :: as => match h.get? a with
    | some o => put (adds g h as) a o
    | none => adds g h as
theorem adds_in : ∀ {as : List Addr} {b : Addr}, b ∈ as → (∃ o, h.get? b = some o) → (adds g h as).get? b = h.get? b
  | a :: as, b, hb, ⟨o, ho⟩ => by
    simp only [adds]
    by_cases e : b = a
    · subst e
      rw [ho]
      exact put_self _ _ (Heap.get?_some_iff.mp ho).2
    · have hb' : b ∈ as := by
        rcases List.mem_cons.mp hb with z | z
        · exact absurd z e
        · exact z
      cases h.get? a with
      | none => exact adds_in hb' ⟨o, ho⟩
      | some o' => rw [put_ne _ _ e]; exact adds_in hb' ⟨o, ho⟩
theorem adds_out : ∀ {as : List Addr} {b : Addr}, b ∉ as → (adds g h as).get? b = g.get? b
  | [], b, _ => rfl
  | a :: as, b, hb => by
    simp only [List.mem_cons, not_or] at hb
    simp only [adds]
    cases h.get? a with
    | none => exact adds_out hb.2
    | some o' => rw [put_ne _ _ hb.1]; exact adds_out hb.2
theorem adds_le {as : List Addr} (le : Le g h) (H : ∀ a ∈ as, ∃ o, h.get? a = some o) : Le (adds g h as) h := fun b o e => by
  by_cases q : b ∈ as
  · rw [adds_in q (H b q)] at e; exact e
  · rw [adds_out q] at e; exact le b o e
theorem adds_ge {as : List Addr} (le : Le g h) (H : ∀ a ∈ as, ∃ o, h.get? a = some o) : Le g (adds g h as) := fun b o e => by
  by_cases q : b ∈ as
  · rw [adds_in q (H b q)]; exact le b o e
  · rw [adds_out q]; exact e
/-- a tree's things are no tuples -/
theorem mu_kind {C : Addr} : ∀ (T : TT) (q : Addr × (Obj → Prop)), q ∈ T.mu C → ∀ o, q.2 o → o.cls ≠ .type "tuple" := by
  have : ∀ n (T : TT), T.nd.siz ≤ n → ∀ (q : Addr × (Obj → Prop)), q ∈ T.mu C → ∀ o, q.2 o → o.cls ≠ .type "tuple" := by
    intro n
    induction n with
    | zero => intro T h; have := siz_pos T.nd; omega
    | succ n ih =>
      intro T hz q hq o ho
      cases T with
      | leaf s u => simp [TT.mu] at hq
      | node x dx l cs =>
        simp only [TT.mu, List.mem_cons] at hq
        simp only [TT.nd, Nd.siz, ndL_map] at hz
        rcases hq with rfl | rfl | hq
        · obtain ⟨k, rfl⟩ := ho
          exact fun z => nomatch z
        · obtain ⟨_, _, _, _, rfl⟩ := ho
          intro z
          have : ("dict" : String) = "tuple" := by injection z
          exact absurd this (by decide)
        · have : ∀ (cs : List TT), sizs (cs.map TT.nd) ≤ n → q ∈ muL C cs → ∃ c, c ∈ cs ∧ c.nd.siz ≤ n ∧ q ∈ c.mu C := by
            intro cs
            induction cs with
            | nil => intro _ h; simp [muL] at h
            | cons c cs ihc =>
              intro hz h
              simp only [List.map_cons, sizs] at hz
              simp only [muL, List.mem_append] at h
              rcases h with h | h
              · exact ⟨c, .head _, by omega, h⟩
              · obtain ⟨c', a, b⟩ := ihc (by omega) h
                exact ⟨c', .tail _ a, b⟩
          obtain ⟨c, _, h1, h2⟩ := this cs (by omega) hq
          exact ih c h1 q h2 o ho
  exact fun T => this _ T (Nat.le_refl _)
theorem Fm.learn {T : TT} {C : Addr} {v : Value} {p : List Nat} (F : Fm env S g₀ h₀ g (T.mu C ++ M) lc h) (G : Gw [] (adds g h ((T.mu C).map (·.1))) h g' h') (hv : Is g' v (pyP p)) : ∃ g₁, Fm env S g₀ h₀ g₁ (T.mu C ++ M) lc h' ∧ Le g g₁ ∧ Is g₁ v (pyP p) := by
  obtain ⟨l, vs, rfl, ⟨o, a1, a2, a3⟩, ai⟩ := hv.of_tuple
  have F' := F.ext G.all
  rcases G.fr l o a1 with z | z
  · by_cases q : l ∈ (T.mu C).map (·.1)
    · obtain ⟨r, hr, rfl⟩ := List.mem_map.mp q
      obtain ⟨⟨o', b1, b2⟩, _⟩ := F.mu r (List.mem_append_left _ hr)
      rw [adds_in q ⟨o', b1⟩, b1] at z
      cases z
      exact absurd a2 (mu_kind T r hr o b2)
    · rw [adds_out q] at z
      exact ⟨g, F', Le.refl _, .tuple ⟨o, z, a2, a3⟩ (ints_any ai)⟩
  · obtain ⟨n1, n2, n3, n4⟩ := F.none_new z
    obtain ⟨k1, k2, k3⟩ := F'.know (G.sub _ _ a1) n3 n2 n4 (fun o' e => by rw [n1] at e; cases e)
    exact ⟨_, k1, k2, .tuple ⟨o, k3, a2, a3⟩ (ints_any ai)⟩
/-- the caller's things, all -/
theorem Fm.ownAll {N : Mu} (F : Fm env S g₀ h₀ g μ lc h) (nd : (N.map (·.1)).Nodup) (has : ∀ p ∈ N, ∃ o, h.get? p.1 = some o ∧ p.2 o) (hS : ∀ p ∈ N, p.1 ∈ S) (hg : ∀ p ∈ N, g.get? p.1 = none) (h0 : ∀ p ∈ N, ∃ o, h₀.get? p.1 = some o) (hμ : ∀ p ∈ μ, h₀.get? p.1 = none) : Fm env S g₀ h₀ g (N ++ μ) lc h := by
  refine { F with mu := fun q hq => ?_, ndm := ?_ }
  · rcases List.mem_append.mp hq with hq | hq
    · obtain ⟨o, ho⟩ := h0 q hq
      exact ⟨has q hq, hg q hq, F.notL ho, .inl (hS q hq)⟩
    · exact F.mu q hq
  · rw [List.map_append, List.nodup_append]
    refine ⟨nd, F.ndm, fun a ha b hb e => ?_⟩
    obtain ⟨p, hp, rfl⟩ := List.mem_map.mp ha
    obtain ⟨q, hq, rfl⟩ := List.mem_map.mp hb
    obtain ⟨o, ho⟩ := h0 p hp
    rw [e, hμ q hq] at ho; cases ho
/-- behind a call that turns things of ours and brings new ones -/
theorem Fm.callN {S' : List Addr} (F : Fm env S g₀ h₀ g μ lc h) (G : Gw S' g h g' h') (hS : ∀ a ∈ S', a ∈ μ.map (·.1)) (nd : (μ'.map (·.1)).Nodup)
    (hm : ∀ p ∈ μ', (p.1 ∉ S' ∧ p ∈ μ) ∨ ((p.1 ∈ μ.map (·.1) ∨ h.get? p.1 = none) ∧ g'.get? p.1 = none ∧ ∃ o, h'.get? p.1 = some o ∧ p.2 o)) : Fm env S g₀ h₀ g' μ' lc h' := by
  have F0 := F.callU (μ' := μ'.filter fun p => decide (p.1 ∈ μ.map (·.1))) G hS (nd.sublist (List.Sublist.map _ List.filter_sublist)) (fun p hp => by
    simp only [List.mem_filter, decide_eq_true_eq] at hp
    rcases hm p hp.1 with z | ⟨_, _, z⟩
    · exact .inl z
    · exact .inr ⟨hp.2, z⟩)
  refine { F0 with mu := fun p hp => ?_, ndm := nd }
  by_cases q : p.1 ∈ μ.map (·.1)
  · exact F0.mu p (by simp only [List.mem_filter, decide_eq_true_eq]; exact ⟨hp, q⟩)
  · rcases hm p hp with ⟨_, z⟩ | ⟨z1, z2, z3⟩
    · exact absurd (List.mem_map_of_mem (f := (·.1)) z) q
    · have z1 := z1.resolve_left q
      obtain ⟨n1, n2, n3, n4⟩ := F.none_new z1
      exact ⟨z3, z2, n2, .inr n3⟩
/-- tree[place], a word -/
theorem getPlaceL (X : Wk K mg mb d) (Y : TM K d m) (W : Wg K mg mb g₀) {T : TT} {p : List Nat} {s : Str} {vp : Value} {value slice : Expr} (F : Fm env S g₀ h₀ g (T.mu d.tree ++ M) lc h) (hr : ∃ l cs, T.nd = .node l cs) (hat : T.nd.at p = some (.leaf s)) (hp : Is g vp (pyP p)) (hl : p.length ≤ 100) (hz : T.nd.siz ≤ 10000) (hs : noSl slice = true) (room : Room A (2 * p.length + 6))
    (k : ∀ h' t' u, Fm env S g₀ h₀ g (T.mu d.tree ++ M) lc h' → Q (.str s u) (St c h' t')) : Wp w A (subscriptTail value slice T.val vp) Q (St c h t) := by
  have has : ∀ q ∈ T.mu d.tree, ∃ o, h.get? q.1 = some o ∧ q.2 o := fun q hq => (F.mu q (List.mem_append_left _ hq)).1
  obtain ⟨Ts, hsub, hnd⟩ := TT.nd_sub hat
  obtain ⟨l0, cs0, e0⟩ := hr
  obtain ⟨x0, dx0, ts0, rfl, _⟩ := TT.node_of e0
  have m0 := TT.sub_mem (C := d.tree) (T := .node x0 dx0 l0 ts0) (p := []) rfl
  obtain ⟨⟨ox, od, a1, a2, a3, a4⟩, _, _, _⟩ := F.ownT (List.mem_append_left _ m0.1) (List.mem_append_left _ m0.2)
  refine tItemT (F.kin W) (a2.inst a1 a3) Y.getitem.find (beq_iff_eq.mp Y.getitem.isf) Y.giFn hs ?_
  obtain ⟨x', e', kk⟩ := gi_place X Y p _ _ (A := A.in1) (g := h) (h := h) (t := t) (Q := Q) (W.mono (F.gw.le.trans F.gw.sub)) (TT.tr has) ⟨_, _, e0⟩ hat (hp.mono F.gw.sub) hl hz (Le.refl _) (room.in1.mono (by omega)) fun h' t' v' G va tv => by
    obtain ⟨u, rfl⟩ := tv.of_leaf
    exact k h' t' u (F.ext G.all)
  cases e'
  exact kk
end
end TL

end
section
open PySem PySem.W PyProof.Rows PySem.Calls Builtin Builtin.ObjectAttr
set_option maxRecDepth 100000
set_option linter.unusedVariables false
set_option linter.unusedSimpArgs false
set_option pp.deepTerms false
set_option pp.deepTerms.threshold 4
set_option pp.maxSteps 2000
set_option maxHeartbeats 1000000
namespace TL
open TL
local macro_rules | `(tactic| walk_at "at") => `(tactic| repeat (first | exact At.head | apply At.tail))
local macro_rules | `(tactic| walk_at "put") => `(tactic| repeat (first | exact Put.head | apply Put.tail))
local macro_rules | `(tactic| walk_at "m") => `(tactic| repeat (first | exact List.Mem.head _ | apply List.Mem.tail))
local macro_rules | `(tactic| walk_at "mput") => `(tactic| repeat (first | exact MPut.head | apply MPut.tail))
set_option maxHeartbeats 4000000
theorem MPut.app {M M' : Mu} {a : Addr} {P : Obj → Prop} (x : MPut M a P M') : ∀ N : Mu, MPut (N ++ M) a P (N ++ M')
  | [] => x
  | n :: N => .tail (MPut.app x N)
/-- what is ours behind _law_edited -/
structure Mine (C tp : Addr) (gT : Heap) (S : List Addr) (h g' h' : Heap) (T : TT) : Prop where
  mu : ∀ p ∈ T.mu C ++ [(tp, tapeO gT)], (∃ o, h'.get? p.1 = some o ∧ p.2 o) ∧ g'.get? p.1 = none ∧ (p.1 ∈ S ∨ h.get? p.1 = none)
  nd : ((T.mu C ++ [(tp, tapeO gT)]).map (·.1)).Nodup
section
variable {w : World} {A : Around} {env : Env} {S : List Addr} {g₀ h₀ g h : Heap} {μ μ' M : Mu} {lc : Lc} {c : Shared} {t : Tok} {Q : Value → Shared → Prop} {K : Frag} {mg mb : Str → Option Value} {d : Ad} {m : Md} {pos p : Pos}
theorem Fm.mine {C tp : Addr} {gT : Heap} {T : TT} (F : Fm env S g₀ h₀ g (T.mu C ++ (tp, tapeO gT) :: M) lc h) : Mine C tp gT S h₀ g h T := by
  have F1 : Fm env S g₀ h₀ g ((T.mu C ++ [(tp, tapeO gT)]) ++ M) lc h := by rw [List.append_assoc]; exact F
  refine ⟨fun p hp => ?_, ?_⟩
  · obtain ⟨a1, a2, _, a4⟩ := F1.mu p (List.mem_append_left _ hp)
    exact ⟨a1, a2, a4⟩
  · have := F1.ndm
    rw [List.map_append] at this
    exact (List.nodup_append.mp this).1
theorem Fm.widen (F : Fm env [] g₀ h₀ g μ lc h) (S : List Addr) : Fm env S g₀ h₀ g μ lc h :=
  { F with gw := F.gw.mono (fun a m => nomatch m), mu := fun p hp => let ⟨a, b, c, e⟩ := F.mu p hp; ⟨a, b, c, .inr (e.resolve_left fun m => nomatch m)⟩ }
theorem hsw_of {elt : Expr} {gs : List Comprehension} {s : Scope} {p' q : Pos} {y : Str} {line : Nat} {st : Stmt} (esc : env.scope = scopeOf st)
    (hb : ((if (scopeOf st).kind.isAnnotationScope then ScopeKind.function else (scopeOf st).kind) == .function && (scopeOf st).names.lookup y == some .local && q.line == p'.line && !(s.names.any fun (n, k) => n == y && (k == .local || k == .cell))) = true) :
    swapsWith (.ListComp elt gs s p') (some (.Name y q)) line env = pure true := by
  rw [← esc] at hb
  exact congrArg pure hb
theorem xIfB {test : Expr} {body orelse rest : List Stmt} {Q : Flow → Shared → Prop} (F : Fm env S g₀ h₀ g μ lc h) (b : Bool) (k : Wp w A (isTrue test env (eval test env)) (fun b' s' => ∃ h' t', s' = St c h' t' ∧ Fm env S g₀ h₀ g μ lc h' ∧ b' = b) (St c h t))
    (r : ∀ h' t', Fm env S g₀ h₀ g μ lc h' → onTest w A body orelse env (thenDo w A rest env Q) b (St c h' t')) : Wp w A (execs (.If test body orelse pos :: rest) env) Q (St c h t) :=
  xIf (k.mono fun b' s' ⟨h', t', e1, F', e2⟩ => by subst e1 e2; exact r h' t' F')
/-- an If that may turn a cell -/
theorem xIfC {test : Expr} {body orelse rest : List Stmt} {Q : Flow → Shared → Prop} {N : Mu} {e : Addr × (Obj → Prop)} {C : Addr} {v : Value} (F : Fm env S g₀ h₀ g (N ++ [e, (C, celO (some v))]) lc h) (P : Value → Heap → Prop)
    (k : Wp w A (isTrue test env (eval test env)) (onTest w A body orelse env (fun f s => f = .next ∧ ∃ g' h' t' v', s = St c h' t' ∧ Le g g' ∧ P v' g' ∧ Fm env S g₀ h₀ g' (N ++ [e, (C, celO (some v'))]) lc h')) (St c h t))
    (r : ∀ g' h' t' v', Le g g' → P v' g' → Fm env S g₀ h₀ g' (N ++ [e, (C, celO (some v'))]) lc h' → Wp w A (execs rest env) Q (St c h' t')) : Wp w A (execs (.If test body orelse pos :: rest) env) Q (St c h t) :=
  xIf (k.mono fun b s' q => by
    have : ∀ f s'', (f = Flow.next ∧ ∃ g' h' t' v', s'' = St c h' t' ∧ Le g g' ∧ P v' g' ∧ Fm env S g₀ h₀ g' (N ++ [e, (C, celO (some v'))]) lc h') → thenDo w A rest env Q f s'' := by
      rintro _ _ ⟨rfl, g', h', t', v', rfl, a, b, F'⟩
      exact r g' h' t' v' a b F'
    cases b <;> exact Wp.mono q this)
theorem spl_map {α β : Type} (f : α → β) (a b : Option Int) (vs ns : List α) : (spl a b vs ns).map f = spl a b (vs.map f) (ns.map f) := by
  simp [spl, List.map_append, List.map_take, List.map_drop, List.length_map]
theorem spl_in {α : Type} {vs ns : List α} {a b : Nat} (h1 : a ≤ b) (h2 : b ≤ vs.length) : spl (some (a : Int)) (some (b : Int)) vs ns = vs.take a ++ ns ++ vs.drop b := by
  unfold spl loA hiA
  simp only [Option.elim, clipAt_nat]
  rw [Nat.min_eq_left (by omega), Nat.min_eq_left h2, Nat.max_eq_right h1]
theorem spl_00 {α : Type} {vs ns : List α} : spl (some 0) (some 0) vs ns = ns ++ vs := by
  have := spl_in (vs := vs) (ns := ns) (a := 0) (b := 0) (Nat.le_refl _) (Nat.zero_le _)
  simpa using this
theorem mod_node {nd : Nd} {p : List Nat} {l : Str} {ds : List Nd} {f : List Nd → List Nd} (h : nd.at p = some (.node l ds)) : ∃ l cs, nd.mod f p = .node l cs := by
  obtain ⟨l', cs', rfl⟩ := at_root (nd' := nd) h
  cases p with
  | nil => exact ⟨_, _, rfl⟩
  | cons i p =>
    simp only [Nd.mod]
    cases cs'[i]? <;> exact ⟨_, _, rfl⟩
theorem modFin {nd : Nd} {p : List Nat} {l : Str} {ds : List Nd} {f : List Nd → List Nd} (h : nd.at p = some (.node l ds)) (ho : nd.ok = true) (h1 : oks (f ds) = true) (h2 : sizs (f ds) ≤ sizs ds + nd.siz + 2) (h3 : deps (f ds) ≤ max 1 nd.dep) :
    (∃ l cs, nd.mod f p = .node l cs) ∧ (nd.mod f p).ok = true ∧ (nd.mod f p).siz ≤ 2 * nd.siz + 2 ∧ (nd.mod f p).dep ≤ 2 * nd.dep + 1 := by
  have a1 := mod_siz p (f := f) h
  have a2 := mod_dep p (f := f) h
  have a3 := at_dep p h
  simp only [Nd.dep] at a3
  exact ⟨mod_node h, mod_ok p h ho h1, by omega, by omega⟩
theorem Fm.adoptT {C : Addr} {T : TT} {hB gB : Heap} (B : Fm env S g₀ h₀ gB μ lc hB) (F : Fm env S g₀ h₀ g μ lc h) (Z : FreshT C hB h T) (le : Le g hB) : Fm env S g₀ h₀ g (T.mu C ++ μ) lc h :=
  B.adoptAll F (fun p hp => let ⟨⟨o, a, _⟩, _⟩ := B.mu p hp; ⟨o, a⟩) Z.nd Z.new (fun p hp => by
    cases q : g.get? p.1 with
    | none => rfl
    | some o => have := le _ _ q; rw [Z.new p hp] at this; cases this) Z.has
theorem si_placeR (X : Wk K mg mb d) (Y : TM K d m) {xs dxs xa : Addr} {oxs ods : Obj} {vss : List Value} {i : Nat} {v vp : Value} {p : List Nat} {nd : Nd} {Q : Value → Shared → Prop} (hi : i < vss.length) (hz : vss.length ≤ 100000) (hne : xs ≠ dxs) (W : Wg K mg mb g) (hT : Tr h d.tree (.ref xa) nd) (hn : nd.siz ≤ 10000) (hva : VAt h (.ref xa) p (.ref xs)) (h1 : h.get? xs = some oxs) (h2 : treeO d.tree dxs vss oxs) (h3 : h.get? dxs = some ods) (h4 : g.get? xs = none) (h5 : Is g vp (pyP (p ++ [i]))) (h6 : p.length ≤ 100) (le : Le g h) (room : Room A (2 * p.length + 4))
    (k : ∀ h' t' ox', Gw [xs] g h g h' → h'.get? xs = some ox' → treeO d.tree dxs (vss.set i v) ox' → Q .none (St c h' t')) : Wp w A (call (.ref m.setitem) [.ref xa, vp, v]) Q (St c h t) := by
  obtain ⟨xa', e, kk⟩ := si_place X Y hi hz hne p (A := A) (Q := Q) W hT hn hva h1 h2 h3 h4 h5 h6 le room k
  cases e
  exact kk
theorem ged_places : Gl (scopeOf (stI 21)) (Str.ofString "_law_places") := by decide +kernel
theorem ged_take : Gl (scopeOf (stI 21)) (Str.ofString "_law_take") := by decide +kernel
theorem ged_len : Gl (scopeOf (stI 21)) (Str.ofString "len") := by decide +kernel
theorem ged_lowest : Gl (scopeOf (stI 21)) (Str.ofString "_law_lowest") := by decide +kernel
theorem ged_isi : Gl (scopeOf (stI 21)) (Str.ofString "isinstance") := by decide +kernel
theorem ged_str : Gl (scopeOf (stI 21)) (Str.ofString "str") := by decide +kernel
theorem ged_put : Gl (scopeOf (stI 21)) (Str.ofString "_law_put") := by decide +kernel
theorem ged_tree : Gl (scopeOf (stI 21)) (Str.ofString "Tree") := by decide +kernel
theorem ged_built : Gl (scopeOf (stI 21)) (Str.ofString "_law_built") := by decide +kernel
abbrev csEd (L : Nat) : List (Str × Addr) := [(Str.ofString "place", L + 1)]
theorem csEd_eq (L : Nat) : cellsFrom (L + 1) (scopeOf (stI 21)).names [] = csEd L := by kernel_rfl
theorem ked1 : (scopeOf (stI 21)).names.lookup (Str.ofString "place") = some .cell := by decide +kernel
theorem ked2 : (scopeOf (stI 21)).names.lookup (Str.ofString "tape") = some .local := by decide +kernel
theorem ked3 : (scopeOf (stI 21)).names.lookup (Str.ofString "tree") = some .local := by decide +kernel
theorem ked4 : (scopeOf (stI 21)).names.lookup (Str.ofString "node") = some .local := by decide +kernel
/-- a row of places -/
theorem row_of {rows : List (List Nat × Nd)} {vs : List Value} (hi : IsAll g vs (rows.map pyR)) {j : Nat} {r : List Nat × Nd} (e : rows[j]? = some r) : ∃ lt pv nv, vs[j]? = some (.ref lt) ∧ g.IsTuple lt [pv, nv].toArray ∧ Is g pv (pyP r.1) ∧ Is g nv r.2.py := by
  obtain ⟨v, ev, iv⟩ := hi.get (i := j) (d := pyR r) (by rw [List.getElem?_map, e]; rfl)
  obtain ⟨lt, tvs, rfl, ht, hit⟩ := iv.of_tuple
  cases hit with
  | cons i1 r1 =>
    cases r1 with
    | cons i2 r2 =>
      cases r2
      exact ⟨lt, _, _, ev, ht, i1, i2⟩
theorem row_at {rows : List (List Nat × Nd)} {vs : List Value} (hi : IsAll g vs (rows.map pyR)) {j : Nat} {v : Value} (e : vs[j]? = some v) : ∃ r lt pv nv, rows[j]? = some r ∧ v = .ref lt ∧ g.IsTuple lt [pv, nv].toArray ∧ Is g pv (pyP r.1) ∧ Is g nv r.2.py := by
  obtain ⟨d', e', _⟩ := hi.at e
  rw [List.getElem?_map] at e'
  obtain ⟨r, er, _⟩ := Option.map_eq_some_iff.mp e'
  obtain ⟨lt, pv, nv, ev, a, b, c⟩ := row_of hi er
  rw [e] at ev
  cases ev
  exact ⟨r, lt, pv, nv, er, rfl, a, b, c⟩
/-- is it a word? -/
theorem saysW {nd : Nd} {v : Value} {cls : Value} (hv : Is h v nd.py) (hc : cls = .type "str") : Says w c h v cls (lf nd) := by
  subst hc
  cases nd with
  | leaf s =>
    rw [Nd.py_leaf] at hv
    obtain ⟨u, rfl⟩ := hv.of_str
    exact says_str
  | node l cs =>
    rw [Nd.py_node] at hv
    obtain ⟨l, vs, rfl, ⟨o, a, b, _⟩, _⟩ := hv.of_list
    exact says_list_str a b
theorem ne_loader {nd : Nd} {v : Value} (hv : Is h v nd.py) : v ≠ .builtin "__main__.__loader__#opaque" := by
  cases nd with
  | leaf s =>
    rw [Nd.py_leaf] at hv
    obtain ⟨u, rfl⟩ := hv.of_str
    exact fun e => nomatch e
  | node l cs =>
    rw [Nd.py_node] at hv
    obtain ⟨l, vs, rfl, _⟩ := hv.of_list
    exact fun e => nomatch e
theorem edited_spec (X : Wk K mg mb d) (Y : TM K d m) {gT : Heap} (WT : Wg K mg mb gT) (lT : Le gT g) {tp : Addr} {T : TT} {l : Str} {cs : List Nd} {vn : Value} (eT : T.nd = .node l cs)
    (hM : ∀ p ∈ T.mu d.tree ++ [(tp, tapeO gT)], (∃ o, h.get? p.1 = some o ∧ p.2 o) ∧ g.get? p.1 = none) (nd : ((T.mu d.tree ++ [(tp, tapeO gT)]).map (·.1)).Nodup)
    (hv : Is g vn T.nd.py) (ok : T.nd.ok = true) (hz : T.nd.siz ≤ 900) (hd : T.nd.dep ≤ 14) (le : Le g h) (room : Room A 60)
    (k : ∀ g' h' t' v T', Gw ((T.mu d.tree ++ [(tp, tapeO gT)]).map (·.1)) g h g' h' → Mine d.tree tp gT ((T.mu d.tree ++ [(tp, tapeO gT)]).map (·.1)) h g' h' T' → T'.val = T.val → Is g' v T'.nd.py → (∃ l cs, T'.nd = .node l cs) → T'.nd.ok = true → T'.nd.siz ≤ 2 * T.nd.siz + 2 → T'.nd.dep ≤ 2 * T.nd.dep + 1 → Q v (St c h' t')) :
    Wp w A (call (.ref d.edited) [.ref tp, T.val, vn]) Q (St c h t) := by
  have W := WT.mono lT
  refine call_fnC (S := []) (n := 59) [(Str.ofString "tape", .ref tp), (Str.ofString "tree", T.val), (Str.ofString "node", vn)]
    [(Str.ofString "tape", some (.ref tp)), (Str.ofString "tree", some T.val), (Str.ofString "node", some vn), (Str.ofString "places", none), (Str.ofString "words", none), (Str.ofString "inner", none), (Str.ofString "kind", none), (Str.ofString "part", none), (Str.ofString "first", none), (Str.ofString "last", none), (Str.ofString "more", none)] csEd (fun L => [(L + 1, celO none)]) W X.edited.2 le room (by
      show okFnC (stI 21) [Str.ofString "tape", Str.ofString "tree", Str.ofString "node", Str.ofString "places", Str.ofString "words", Str.ofString "inner", Str.ofString "kind", Str.ofString "part", Str.ofString "first", Str.ofString "last", Str.ofString "more"] = true
      decide +kernel) (fun _ _ _ _ _ _ _ => rfl) csEd_eq
    (fun L y hy => by
      simp only [List.mem_cons, List.not_mem_nil, or_false] at hy
      rcases hy with rfl | rfl | rfl
      · exact .inl ked2
      · exact .inl ked3
      · exact .inl ked4) (fun p hp => by
      simp only [List.mem_cons, List.not_mem_nil, or_false] at hp
      rcases hp with rfl | rfl | rfl | rfl | rfl | rfl | rfl | rfl | rfl | rfl | rfl <;> kernel_rfl) (fun L => by kernel_rfl) (fun L => (by decide +kernel : ([Str.ofString "place"] : List Str).Nodup)) fun env h₁ t₁ A' L R esc ecl hk F => ?_
  have kP := kd_of esc ked1
  have F := (F.widen ((T.mu d.tree ++ [(tp, tapeO gT)]).map (·.1))).ownAll (N := T.mu d.tree ++ [(tp, tapeO gT)]) nd (fun p hp => let ⟨⟨o, a, b⟩, _⟩ := hM p hp; ⟨o, hk _ _ a, b⟩) (fun p hp => List.mem_map_of_mem (f := (·.1)) hp) (fun p hp => (hM p hp).2) (fun p hp => let ⟨⟨o, a, b⟩, _⟩ := hM p hp; ⟨o, a⟩) (fun p hp => by
    obtain ⟨_, _, _, z⟩ := F.mu p hp
    exact z.resolve_left fun m => nomatch m)
  rw [List.append_assoc] at F
  have W₀ := W
  refine xAsg (eCallF F W (esc ▸ ged_places) X.places (sCons (ld F (by walk_at "at") (sCons (eTuple (sNil ?_))))))
  refine nTup F (Nat.zero_le _) fun l0 g₁ h₂ F le₁ hl0 => sNil ⟨F.kin W, ?_⟩
  refine places_spec X 14 T.nd (p := []) hd (W.mono F.gw.le) (hv.mono le₁) (.tuple hl0 .nil) (by omega) (by simp) F.gw.sub (R.mono (by omega)) fun g₂ h₃ t₂ rv G isr => ?_
  have le₂ := le₁.trans G.le
  have F := F.call G
  obtain ⟨lp, pvs, rfl, hlp, hip⟩ := isr.of_list
  refine stL F (by walk_at "put") fun h₄ t₃ F => ?_
  have plen := places_len T.nd []
  have pvl : pvs.length = T.nd.siz := by rw [← plen]; have := hip.len; simpa using this
  refine xAsgComp (cl := []) (closure_of (by rw [ecl]; kernel_rfl)) (by decide +kernel) (hsw_of esc (by decide +kernel)) (ld F (by walk_at "at") ?_)
  refine iLst F (F.gl' hlp) fun I h₅ t₄ hI F => ?_
  refine cloop1A (σ := Unit) (P := litr lp) (n := pvs.length) (V := fun i v => pvs[i]? = some v) (μI := fun _ => T.mu d.tree ++ [(tp, tapeO gT), (L + 1, celO none)]) () (fun i outs _ g => IsAll g outs ((((places T.nd []).take i).filter fun r => lf r.2).map pyR)) R.handled (by decide +kernel) (zL (by omega)) F hI (fun _ _ _ _ => selfL) (itrSq (.of_list hlp)) .nil
    (fun v => [(Str.ofString "tape", some (.ref tp)), (Str.ofString "tree", some T.val), (Str.ofString "node", some vn), (Str.ofString "places", some (.ref lp)), (Str.ofString "words", some v), (Str.ofString "inner", none), (Str.ofString "kind", none), (Str.ofString "part", none), (Str.ofString "first", none), (Str.ofString "last", none), (Str.ofString "more", none)]) (fun v => by walk_at "put") ?_ ?_
  · intro i v outs _ g' h' t' D C Lo hi hv' l' inv ho F
    obtain ⟨r, lt, pv, nv, er, rfl, ht, ip, inn⟩ := row_at (hip.mono l') hv'
    refine tVal (eCallB F W (glC (by decide +kernel)) X.isi (sCons (eSub (ld F (by walk_at "at") (eInt fun _ => ?_)))))
    refine tItemU (ht.up F.gw.sub) (by decide) (by decide) rfl rfl ?_
    refine sCons (ldB F W (glC (by decide +kernel)) X.str (sNil ?_))
    refine isiGo (saysW (inn.mono F.gw.sub) rfl).at0 (fun t₅ => tBool ?_) (ne_loader inn)
    refine ⟨(), g', _, _, rfl, Le.refl _, F, ?_⟩
    have e1 : (places T.nd []).take (i + 1) = (places T.nd []).take i ++ [r] := by rw [List.take_add_one, er]; rfl
    cases hlf : lf r.2 with
    | true =>
      rw [if_pos rfl]
      refine ld F (by walk_at "at") (Elt.mk' () (Le.refl _) F ?_)
      rw [e1, List.filter_append, List.map_append]
      refine inv.app ?_
      simp only [List.filter_cons, hlf, if_true, List.filter_nil, List.map_cons, List.map_nil]
      exact .one (.tuple ht (.cons ip (.one inn)))
    | false =>
      rw [if_neg (by decide)]
      rw [e1, List.filter_append, List.map_append]
      simp only [List.filter_cons, hlf, Bool.false_eq_true, if_false, List.filter_nil, List.map_nil, List.append_nil]
      exact inv
  intro wvs _ g₃ h₆ t₅ D le₃ hiw F hD
  rw [List.take_of_length_le (by omega)] at hiw
  obtain ⟨g₄, oW, F, le₄, eW, nW, hoW⟩ := F.frz hD
  have hlw : g₄.IsList D wvs.toArray := ⟨oW, eW, by rw [hoW], nW, by rw [hoW]⟩
  have hiw : IsAll g₄ wvs ((wrds T.nd []).map pyR) := hiw.mono le₄
  have up4 := le₃.trans le₄
  have hlp := hlp.up up4
  have hip := hip.mono up4
  have hv4 := hv.mono (le₂.trans up4)
  refine xAsgComp (cl := []) (closure_of (by rw [ecl]; kernel_rfl)) (by decide +kernel) (hsw_of esc (by decide +kernel)) (ld F (by walk_at "at") ?_)
  refine iLst F (F.gl' hlp) fun I h₇ t₆ hI F => ?_
  refine cloop1A (σ := Unit) (P := litr lp) (n := pvs.length) (V := fun i v => pvs[i]? = some v) (μI := fun _ => T.mu d.tree ++ [(tp, tapeO gT), (L + 1, celO none)]) () (fun i outs _ g => IsAll g outs ((((places T.nd []).take i).filter fun r => !lf r.2).map pyR)) R.handled (by decide +kernel) (zL (by omega)) F hI (fun _ _ _ _ => selfL) (itrSq (.of_list hlp)) .nil
    (fun v => [(Str.ofString "tape", some (.ref tp)), (Str.ofString "tree", some T.val), (Str.ofString "node", some vn), (Str.ofString "places", some (.ref lp)), (Str.ofString "words", some (.ref D)), (Str.ofString "inner", some v), (Str.ofString "kind", none), (Str.ofString "part", none), (Str.ofString "first", none), (Str.ofString "last", none), (Str.ofString "more", none)]) (fun v => by walk_at "put") ?_ ?_
  · intro i v outs _ g' h' t' D C Lo hi hv' l' inv ho F
    obtain ⟨r, lt, pv, nv, er, rfl, ht, ip, inn⟩ := row_at (hip.mono l') hv'
    refine tNot (tVal (eCallB F W (glC (by decide +kernel)) X.isi (sCons (eSub (ld F (by walk_at "at") (eInt fun _ => ?_))))))
    refine tItemU (ht.up F.gw.sub) (by decide) (by decide) rfl rfl ?_
    refine sCons (ldB F W (glC (by decide +kernel)) X.str (sNil ?_))
    refine isiGo (saysW (inn.mono F.gw.sub) rfl).at0 (fun t₅ => tBool ?_) (ne_loader inn)
    refine ⟨(), g', _, _, rfl, Le.refl _, F, ?_⟩
    have e1 : (places T.nd []).take (i + 1) = (places T.nd []).take i ++ [r] := by rw [List.take_add_one, er]; rfl
    cases hlf : lf r.2 with
    | false =>
      rw [if_pos (by rfl : (!false) = true)]
      refine ld F (by walk_at "at") (Elt.mk' () (Le.refl _) F ?_)
      rw [e1, List.filter_append, List.map_append]
      refine inv.app ?_
      simp only [List.filter_cons, hlf, Bool.not_false, if_true, List.filter_nil, List.map_cons, List.map_nil]
      exact .one (.tuple ht (.cons ip (.one inn)))
    | true =>
      rw [if_neg (by decide : ¬ (!true) = true)]
      rw [e1, List.filter_append, List.map_append]
      simp only [List.filter_cons, hlf, Bool.not_true, Bool.false_eq_true, if_false, List.filter_nil, List.map_nil, List.append_nil]
      exact inv
  intro ivs _ g₅ h₈ t₇ E le₅ hii F hE
  rw [List.take_of_length_le (by omega)] at hii
  obtain ⟨g₆, oI, F, le₆, eI, nI, hoI⟩ := F.frz hE
  have hli : g₆.IsList E ivs.toArray := ⟨oI, eI, by rw [hoI], nI, by rw [hoI]⟩
  have hii : IsAll g₆ ivs ((innr T.nd).map pyR) := hii.mono le₆
  have up6 := le₅.trans le₆
  have hlp := hlp.up up6
  have hip := hip.mono up6
  have hlw := hlw.up up6
  have hiw := hiw.mono up6
  have hv6 := hv4.mono up6
  have le06 := (le₂.trans up4).trans up6
  have wlen : wvs.length = (wrds T.nd []).length := by have := hiw.len; simpa using this
  have ilen : ivs.length = (innr T.nd).length := by have := hii.len; simpa using this
  have wz : (wrds T.nd []).length ≤ 900 := by have := List.length_filter_le (fun r : List Nat × Nd => lf r.2) (places T.nd []); show (List.filter _ _).length ≤ _; omega
  have iz : (innr T.nd).length ≤ 900 := by have := List.length_filter_le (fun r : List Nat × Nd => !lf r.2) (places T.nd []); show (List.filter _ _).length ≤ _; omega
  have ipos : 0 < (innr T.nd).length := by
    have := at_innr (nd := T.nd) (p := []) (l := l) (ds := cs) (by rw [eT]; rfl)
    exact List.length_pos_of_mem this
  have mt : ∀ {M : Mu}, (tp, tapeO gT) ∈ T.mu d.tree ++ (tp, tapeO gT) :: M := List.mem_append_right _ (.head _)
  refine xAsg (eCallF F W (esc ▸ ged_take) X.take (sCons (ld F (by walk_at "at") (sCons (eInt fun _ => sNil ⟨F.kin W, ?_⟩)))))
  refine takeF X WT F mt (lT.trans F.gw.le) (by decide) (R.mono (by omega)) fun h₉ t₈ kd ukd F kd0 kd1 => ?_
  refine stL F (by walk_at "put") fun h₁₀ t₉ F => ?_
  refine xUnp (S := (T.mu d.tree ++ [(tp, tapeO gT)]).map (·.1)) (g₀ := g) (h₀ := h) R.handled (eSub (ld F (by walk_at "at") (eCallF F W (esc ▸ ged_take) X.take (sCons (ld F (by walk_at "at") (sCons (eCallB F W (esc ▸ ged_len) X.len (sCons (ld F (by walk_at "at") (sNil ?_)))))))))) 
  refine cLen (F.gl' hli) (by omega) fun u₁ t₁₀ => sNil ⟨F.kin W, ?_⟩
  refine takeF X WT F mt (lT.trans F.gw.le) (by omega) (R.mono (by omega)) fun h₁₁ t₁₁ ri uri F r0 r1 => ?_
  obtain ⟨r, er⟩ : ∃ r, (innr T.nd)[ri.toNat]? = some r := ⟨(innr T.nd)[ri.toNat]'(by omega), List.getElem?_eq_getElem (by omega)⟩
  obtain ⟨lt, pv, nv, ev, ht, ip, inn⟩ := row_of hii er
  obtain ⟨lp1, dp1, e2, hat⟩ := innr_at (List.mem_of_getElem? er)
  obtain ⟨pp, pn⟩ := r
  dsimp only at ip inn e2 hat
  subst e2
  refine tItem (F.gl' hli) r0 (by omega) ev rfl ?_
  refine ⟨h₁₁, g₆, _, _, t₁₁, c, lt, pv, nv, rfl, rfl, F, ht, fun h₁₂ t₁₂ F => ?_⟩
  refine stC F (C := L + 1) (v₀ := none) (List.mem_append_right _ (by walk_at "m")) (MPut.app (by walk_at "mput") _) kP (by rw [ecl]; rfl) fun h₁₃ F => ?_
  refine stL F (by walk_at "put") fun h₁₄ t₁₃ F => ?_
  refine xIfB F (decide (kd = 0) && decide (0 < wvs.length)) ?_ ?_
  · refine tBoolOp (tAnd (tCmp (ld F (by walk_at "at") (eInt fun _ => oEqI (tBool (andB (fun e => ?_) fun e => ?_))))))
    · refine tAnd (tCmp (eCallB F W (esc ▸ ged_len) X.len (sCons (ld F (by walk_at "at") (sNil ?_)))))
      refine cLen (F.gl' hlw) (by omega) fun u₂ t₁₄ => eInt fun _ => oGt (tBool (andB (fun e' => tAnd0 ?_) fun e' => ?_))
      · refine ⟨_, _, rfl, F, ?_⟩
        have := eq_of_beq e
        have := of_decide_eq_true e'
        rw [decide_eq_true (by assumption), decide_eq_true (by omega)]; rfl
      · refine ⟨_, _, rfl, F, ?_⟩
        have := of_decide_eq_false e'
        rw [show decide (0 < wvs.length) = false from decide_eq_false (by omega), Bool.and_false]
    · refine ⟨_, _, rfl, F, ?_⟩
      rw [show decide (kd = 0) = false from decide_eq_false (by simpa using e), Bool.false_and]
  intro h₁₅ t₁₅ F
  cases c0 : (decide (kd = 0) && decide (0 < wvs.length)) with
  | true =>
    have c0' : 0 < wvs.length := by
      rw [Bool.and_eq_true] at c0; exact of_decide_eq_true c0.2
    obtain ⟨x0, dx0, ts0, eT0, hts0⟩ := TT.node_of eT
    have eV : T.val = .ref x0 := by rw [eT0]; rfl
    refine xAsg (eCallF F W (esc ▸ ged_take) X.take (sCons (ld F (by walk_at "at") (sCons (eCallB F W (esc ▸ ged_len) X.len (sCons (ld F (by walk_at "at") (sNil ?_))))))))
    refine cLen (F.gl' hlw) (by omega) fun u₂ t₁₇ => sNil ⟨F.kin W, ?_⟩
    refine takeF X WT F mt (lT.trans F.gw.le) (by omega) (R.mono (by omega)) fun h₁₇ t₁₈ fj ufj F q0 q1 => ?_
    obtain ⟨fa, rfl⟩ := Int.eq_ofNat_of_zero_le q0
    refine stL F (by walk_at "put") fun h₁₈ t₁₉ F => ?_
    refine xAsg (eBin (eBin (ld F (by walk_at "at") (eInt fun _ => oAdd fun u₃ t₂₀ => eCallF F W (esc ▸ ged_take) X.take (sCons (ld F (by walk_at "at") (sCons (eBin (eCallB F W (esc ▸ ged_len) X.len (sCons (ld F (by walk_at "at") (sNil ?_))))))))))))
    refine cLen (F.gl' hlw) (by omega) fun u₄ t₂₁ => ld F (by walk_at "at") (oSub fun u₅ t₂₂ => sNil ⟨F.kin W, ?_⟩)
    refine takeF X WT F mt (lT.trans F.gw.le) (by omega) (R.mono (by omega)) fun h₁₉ t₂₃ lj ulj F q2 q3 => ?_
    obtain ⟨fb, rfl⟩ := Int.eq_ofNat_of_zero_le q2
    refine oAdd fun u₇ t₂₅ => ?_
    rw [show ((fa : Int) + 1 + (fb : Int)) = ((fa + 1 + fb : Nat) : Int) by omega]
    refine stL F (by walk_at "put") fun h₂₀ t₂₆ F => ?_
    obtain ⟨ra, era⟩ : ∃ r, (wrds T.nd [])[fa]? = some r := ⟨(wrds T.nd [])[fa]'(by omega), List.getElem?_eq_getElem (by omega)⟩
    obtain ⟨rb, erb⟩ : ∃ r, (wrds T.nd [])[fa + fb]? = some r := ⟨(wrds T.nd [])[fa + fb]'(by omega), List.getElem?_eq_getElem (by omega)⟩
    obtain ⟨swa, _, hata⟩ := wrds_at (List.mem_of_getElem? era)
    obtain ⟨swb, _, hatb⟩ := wrds_at (List.mem_of_getElem? erb)
    have dpa := at_dep _ hata
    have dpb := at_dep _ hatb
    have eqa : ((wrds T.nd []).map (·.1))[fa]? = some ra.1 := by rw [List.getElem?_map, era]; rfl
    have eqb : ((wrds T.nd []).map (·.1))[fa + 1 + fb - 1]? = some rb.1 := by rw [show fa + 1 + fb - 1 = fa + fb by omega, List.getElem?_map, erb]; rfl
    refine xAsg (eMeth rfl rfl (by decide) (ld F (by walk_at "at") ?_))
    have m0 := TT.sub_mem (C := d.tree) (T := T) (p := []) (x := x0) (dx := dx0) (l := l) (cs := ts0) (by rw [eT0]; rfl)
    obtain ⟨⟨ox0, od0, b1, b2, b3, b4⟩, gx0, gd0, ne0⟩ := F.ownT (List.mem_append_left _ m0.1) (List.mem_append_left _ m0.2)
    rw [eV]
    refine get_meth (F.kin W) Y.tree (b2.inst b1 b3) b4 (by decide +kernel) Y.spanning.find Y.spanning.isf (by obtain ⟨n, e⟩ := b2; exact ⟨dx0, by rw [e], b3⟩) (cwF (st := meth 5 19) (F.kin W) (Fn.keep Y.spanning.fn) (sCons (ld F (by walk_at "at") (sCons (ld F (by walk_at "at") (sNil ⟨F.kin W, ?_⟩))))))
    have has : ∀ q ∈ T.mu d.tree, ∃ o, h₂₀.get? q.1 = some o ∧ q.2 o := fun q hq => (F.mu q (List.mem_append_left _ hq)).1
    have Hin : ∀ a ∈ (T.mu d.tree).map (·.1), ∃ o, h₂₀.get? a = some o := fun a ha => by
      obtain ⟨q, hq, rfl⟩ := List.mem_map.mp ha
      obtain ⟨o, z, _⟩ := has q hq
      exact ⟨o, z⟩
    have hasR : ∀ q ∈ T.mu d.tree, ∃ o, (adds g₆ h₂₀ ((T.mu d.tree).map (·.1))).get? q.1 = some o ∧ q.2 o := fun q hq => by
      obtain ⟨o, z1, z2⟩ := has q hq
      exact ⟨o, by rw [adds_in (List.mem_map_of_mem (f := (·.1)) hq) ⟨o, z1⟩]; exact z1, z2⟩
    have leR := adds_le (g := g₆) F.gw.sub Hin
    have geR := adds_ge (g := g₆) F.gw.sub Hin
    have TR : Tr (adds g₆ h₂₀ ((T.mu d.tree).map (·.1))) d.tree (.ref x0) (.node l cs) := eT ▸ eV ▸ TT.tr hasR
    obtain ⟨x0', dx0', ox0', od0', vs0', ex0, NR⟩ := TR.of_node
    cases ex0
    refine span_spec X Y ((W.mono F.gw.le).mono geR) (fi := fa) (la := fa + 1 + fb) (sp := ra.1) (ep := rb.1) NR (by omega) (by rw [← eT]; exact eqa) (by rw [← eT]; exact eqb) (by rw [← eT]; omega) (by rw [← eT]; omega) (by omega) (by omega) leR (R.mono (by omega)) fun g₇ h₂₁ t₂₇ rv2 G isr => ?_
    obtain ⟨g₈, F, le₈, isp⟩ := F.learn G isr
    refine stC F (C := L + 1) (v₀ := some pv) (List.mem_append_right _ (by walk_at "m")) (MPut.app (by walk_at "mput") _) kP (by rw [ecl]; rfl) fun h₂₂ F => ?_
    refine xIf (tCmp (ldc F (C := L + 1) (List.mem_append_right _ (by walk_at "m")) kP (by rw [ecl]; rfl) (eCallF F W (esc ▸ ged_lowest) X.lowest (sCons (ld F (by walk_at "at") (sCons (ld F (by walk_at "at") (sCons (ld F (by walk_at "at") (sNil ⟨F.kin W, ?_⟩))))))))))
    refine lowest_spec X (rows := wrds T.nd []) (W.mono F.gw.le) (.list (hlw.up le₈) (hiw.mono le₈)) (a := fa) (b := fa + 1 + fb) (by omega) (by omega) (by omega) (fun r hr => by obtain ⟨s, _, hs⟩ := wrds_at hr; have := at_dep _ hs; omega) F.gw.sub (R.mono (by omega)) fun g₉ h₂₃ t₂₈ rl p₀ G ep0 isl => ?_
    have F := F.call G
    rw [era] at ep0
    have ep0 : ra.1 = p₀ := by simpa using ep0
    subst ep0
    have clen := congrArg List.length (cpre_take ra.1 rb.1)
    rw [List.length_take] at clen
    rw [low_cpre (words_sorted T.nd) (a := fa) (b := fa + 1 + fb) (by omega) (by simp; omega) eqa eqb ra.1.length ra.1 rfl (by simp) (by omega)] at isl
    refine oNe R (isp.mono (G.le.trans F.gw.sub)) (isl.mono F.gw.sub) (shP _) (shP _) (nbP _) (nbP _) fun bb hbb => tBool ?_
    have : bb = false := by
      cases bb with
      | false => rfl
      | true => exact absurd rfl (hbb.mp rfl)
    subst this
    refine ifB (fun e => nomatch e) fun _ => xNil ?_
    have isp := isp.mono G.le
    have up9 := le₈.trans G.le
    obtain ⟨sub, hsubat⟩ := at_take (cpre ra.1 rb.1).length hata
    rw [← cpre_take] at hsubat
    have dpc := at_dep _ hsubat
    generalize hcp : cpre ra.1 rb.1 = cp at isp hsubat dpc
    refine xIfC F (fun v g => ∃ q l' ds, Is g v (pyP q) ∧ T.nd.at q = some (.node l' ds)) ?_ ?_
    · refine tVal (eCallB F W (esc ▸ ged_isi) X.isi (sCons (eSub (ld F (by walk_at "at") (ldc F (C := L + 1) (List.mem_append_right _ (by walk_at "m")) kP (by rw [ecl]; rfl) ?_)))))
      cases sub with
      | leaf s =>
        refine getPlaceL X Y W F ⟨_, _, eT⟩ hsubat isp (by omega) (by omega) rfl (R.mono (by omega)) fun h₂₄ t₂₉ us F => ?_
        refine sCons (ldB F W (esc ▸ ged_str) X.str (sNil ?_))
        refine isiGo says_str.at0 fun t₃₀ => tBool ?_
        obtain ⟨q', iq, lq, dq, ecp, hatq, hiq⟩ := at_parent hsubat (fun e => by rw [e, eT] at hsubat; simp [Nd.at] at hsubat)
        obtain ⟨lpp, ppv, rfl, hlpp, hipp⟩ := isp.of_tuple
        have ppl : ppv.length = cp.length := by have := hipp.len; simpa using this
        refine xAsg (eSub (ldc F (C := L + 1) (List.mem_append_right _ (by walk_at "m")) kP (by rw [ecl]; rfl) (eSl (pNone (pSome (eM1 fun u₈ t₃₁ => ?_))))))
        obtain ⟨g₁₀, F, le₁₀, hsl, _⟩ := F.sliceH .none (.int (-1) u₈)
        refine sliceT (vs := ppv) F (hlpp.up le₁₀) hsl .none (.int _ _) (zL (by omega)) fun l2 g₁₁ h₂₅ F le₁₁ hl2 => ?_
        rw [cut_init] at hl2
        refine stC F (C := L + 1) (v₀ := some (.ref lpp)) (List.mem_append_right _ (by walk_at "m")) (MPut.app (by walk_at "mput") _) kP (by rw [ecl]; rfl) fun h₂₆ F => xNil ?_
        refine ⟨rfl, g₁₁, h₂₆, _, .ref l2, rfl, le₁₀.trans le₁₁, ⟨q', lq, dq, ?_, hatq⟩, F⟩
        have := (hipp.mono (le₁₀.trans le₁₁)).take (ppv.length - 1)
        rw [← List.dropLast_eq_take, ppl] at this
        unfold pyP
        have e : q' = cp.dropLast := by rw [ecp]; simp
        rw [e, List.map_dropLast, List.dropLast_eq_take (l := List.map _ _), List.length_map]
        exact .tuple hl2 this
      | node l' ds =>
        refine getPlace X Y W F hsubat isp (by omega) (by omega) rfl (R.mono (by omega)) fun h₂₄ t₂₉ xa dxa ts F hsub hts => ?_
        have ms := TT.sub_mem (C := d.tree) hsub
        obtain ⟨⟨oxa, oda, a1, a2, a3, a4⟩, gx, gd, ne⟩ := F.ownT (List.mem_append_left _ ms.1) (List.mem_append_left _ ms.2)
        refine sCons (ldB F W (esc ▸ ged_str) X.str (sNil ?_))
        refine isiGo (says_tree_str (F.kin W) Y.tree (a2.inst a1 a3)).at0 fun t₃₀ => tBool (xNil ?_)
        exact ⟨rfl, _, _, _, _, rfl, Le.refl _, ⟨cp, l', ds, isp, hsubat⟩, F⟩
    rintro g₁₀ h₂₇ t₃₁ vq le₁₀ ⟨q, l', ds, isq, hatq⟩ F
    have adp := at_dep q hatq
    simp only [Nd.dep] at adp
    refine xExpr F.kf (eMeth rfl rfl (by decide) (eSub (ld F (by walk_at "at") (ldc F (C := L + 1) (List.mem_append_right _ (by walk_at "m")) kP (by rw [ecl]; rfl) ?_))))
    refine getPlace X Y W F hatq isq (by omega) (by omega) rfl (R.mono (by omega)) fun h₂₈ t₃₂ xa dxa ts F hsub hts => ?_
    have ms := TT.sub_mem (C := d.tree) hsub
    obtain ⟨⟨oxa, oda, a1, a2, a3, a4⟩, gx, gd, ne⟩ := F.ownT (List.mem_append_left _ ms.1) (List.mem_append_left _ ms.2)
    refine get_meth (F.kin W) Y.tree (a2.inst a1 a3) a4 (by decide +kernel) Y.set_label.find Y.set_label.isf (by obtain ⟨n, e⟩ := a2; exact ⟨dxa, by rw [e], a3⟩) (cwF (st := meth 5 10) (F.kin W) (Fn.keep Y.set_label.fn) (sCons (eStr fun _ => sNil ⟨F.kin W, ?_⟩)))
    refine setlabel_spec Y (W.mono F.gw.le) (b := Str.ofString "Q") a1 a2 a3 (.of a4) ne gd F.gw.sub (R.mono (by omega)) fun h₂₉ t₃₃ od' G e1 e2 => ?_
    have F := F.relT G hsub e1 e2
    have up10 := up9.trans le₁₀
    have hli := hli.up up10
    have hii := hii.mono up10
    refine xRet (eCallF F W (esc ▸ ged_put) X.put (sCons (ld F (by walk_at "at") (sCons (ldc F (C := L + 1) (List.mem_append_right _ (by walk_at "m")) kP (by rw [ecl]; rfl) (sCons (eList (sCons (eStr fun _ => sCons (eSub (eSub (eComp (cl := [(Str.ofString "place", L + 1)]) (closure_of (by rw [ecl]; kernel_rfl)) (by decide +kernel) (ld F (by walk_at "at") ?_)))))))))))))
    refine iLst F (F.gl' hli) fun I h₃₀ t₃₄ hI F => ?_
    refine cloop1 (σ := Unit) (P := litr E) (n := ivs.length) (V := fun i v => ivs[i]? = some v) (μI := fun _ => (T.rel (Str.ofString "Q") q).mu d.tree ++ [(tp, tapeO gT), (L + 1, celO (some vq))]) () (fun i outs _ g => IsAll g outs ((((innr T.nd).take i).filter fun r => decide (r.1 = q)).map fun r => r.2.py)) R.handled (by decide +kernel) (zL (by omega)) F hI (fun _ _ _ _ => selfL) (itrSq (.of_list hli)) .nil ?_ ?_
    · intro i v outs _ g' h' t' D C Lo hi hv' l' inv ho F
      obtain ⟨r, lt, pv, nv, er, rfl, ht, ip, inn⟩ := row_at (hii.mono l') hv'
      refine tCmp (eSub (ld F (by walk_at "at") (eInt fun _ => ?_)))
      refine tItemU (ht.up F.gw.sub) (by decide) (by decide) rfl rfl ?_
      refine ldc F (C := L + 1) (List.mem_cons_of_mem _ (List.mem_cons_of_mem _ (List.mem_cons_of_mem _ (List.mem_append_right _ (by walk_at "m"))))) (kindC (by decide +kernel) (by rw [esc]; decide +kernel) kP) rfl ?_
      refine oEq R (ip.mono F.gw.sub) ((isq.mono l').mono F.gw.sub) (shP _) (shP _) (nbP _) (nbP _) fun bb hbb => tBool ?_
      refine ⟨(), g', _, _, rfl, Le.refl _, F, ?_⟩
      have e1 : (innr T.nd).take (i + 1) = (innr T.nd).take i ++ [r] := by rw [List.take_add_one, er]; rfl
      by_cases eq : r.1 = q
      · have : bb = true := hbb.mpr (by rw [eq])
        subst this
        rw [if_pos rfl]
        refine eSub (ld F (by walk_at "at") (eInt fun _ => ?_))
        refine tItemU (ht.up F.gw.sub) (by decide) (by decide) rfl rfl ?_
        refine Elt.mk' () (Le.refl _) F ?_
        rw [e1, List.filter_append, List.map_append]
        refine inv.app ?_
        simp only [List.filter_cons, decide_eq_true eq, if_true, List.filter_nil, List.map_cons, List.map_nil]
        exact .one inn
      · have : bb = false := by
          cases bb with
          | false => rfl
          | true => exact absurd (pyP_inj (hbb.mp rfl)) eq
        subst this
        rw [if_neg (by decide)]
        rw [e1, List.filter_append, List.map_append]
        simp only [List.filter_cons, decide_eq_false eq, Bool.false_eq_true, if_false, List.filter_nil, List.map_nil, List.append_nil]
        exact inv
    intro outs _ g₁₁ h₃₁ t₃₅ D3 le₁₁ hio F hD3
    rw [List.take_of_length_le (by omega)] at hio
    have hmem := at_innr hatq
    obtain ⟨r0, rr, efl⟩ : ∃ r0 rr, ((innr T.nd).filter fun r => decide (r.1 = q)) = r0 :: rr := by
      cases e : (innr T.nd).filter fun r => decide (r.1 = q) with
      | cons r0 rr => exact ⟨r0, rr, rfl⟩
      | nil =>
        have : (q, Nd.node l' ds) ∈ (innr T.nd).filter fun r => decide (r.1 = q) := List.mem_filter.mpr ⟨hmem, decide_eq_true rfl⟩
        rw [e] at this; cases this
    have hr0 : r0 ∈ (innr T.nd).filter fun r => decide (r.1 = q) := by rw [efl]; exact .head _
    obtain ⟨hr1, hr2⟩ := List.mem_filter.mp hr0
    have hr2 := of_decide_eq_true hr2
    obtain ⟨lr, dr, er2, hatr⟩ := innr_at hr1
    rw [hr2, hatq] at hatr
    have er3 : r0.2 = .node l' ds := by rw [er2]; exact (Option.some.inj hatr).symm
    rw [efl, List.map_cons, er3] at hio
    obtain ⟨o0, eo0, io0⟩ := hio.get (i := 0) rfl
    rw [Nd.py_node] at io0
    obtain ⟨la, avs, rfl, hla, hia⟩ := io0.of_list
    cases hia with
    | @cons v0 _ _ _ i0 hia =>
    cases hia with
    | @cons v1 _ _ _ i1 hia =>
    cases hia
    refine eInt fun _ => ?_
    refine tItem (F.ml (.head _)) (by decide) (by decide) eo0 rfl ?_
    have F := F.drop1
    refine eInt fun _ => ?_
    refine tItem (F.gl' hla) (by decide) (by decide) rfl rfl ?_
    refine sNil (nLst F (zL (Nat.le_add_left 2 99998)) fun l7 g₁₂ h₃₂ F le₁₂ hl7 => sNil ⟨F.kin W, ?_⟩)
    have isx : Is g₁₂ (.ref l7) (Nd.node (Str.ofString "Q") ds).py := by
      rw [Nd.py_node]
      exact .list hl7 (.cons (.str _ _) (.one (i1.mono le₁₂)))
    have upE := up10.trans (le₁₁.trans le₁₂)
    refine put_spec X q T.nd _ (W.mono F.gw.le) (hv6.mono upE) (isq.mono (le₁₁.trans le₁₂)) isx (by rw [hatq]; rfl) (by omega) (by omega) F.gw.sub (R.mono (by omega)) fun g₂₀ h₃₄ t₃₄ rr G isr => ?_
    have F := F.call G
    rw [putN_rel q hatq] at isr
    have en : (T.rel (Str.ofString "Q") q).nd = T.nd.rel (Str.ofString "Q") q := TT.nd_rel
    obtain ⟨s1, s2, s3, s4, s5⟩ := rel_same q (b := Str.ofString "Q") hatq
    have s3 := s3 (by decide +kernel) ok
    refine k _ _ _ _ (T.rel (Str.ofString "Q") q) F.gw F.mine TT.val_rel ?_ ?_ ?_ ?_ ?_ <;> rw [en]
    · exact isr
    · exact s5
    · exact s3
    · omega
    · omega
  | false =>
  refine xNil ?_
  refine xIfB F (decide (kd = 1) && decide (0 < wvs.length)) ?_ ?_
  · refine tBoolOp (tAnd (tCmp (ld F (by walk_at "at") (eInt fun _ => oEqI (tBool (andB (fun e => ?_) fun e => ?_))))))
    · refine tAnd (tCmp (eCallB F W (esc ▸ ged_len) X.len (sCons (ld F (by walk_at "at") (sNil ?_)))))
      refine cLen (F.gl' hlw) (by omega) fun u₂ t₁₄ => eInt fun _ => oGt (tBool (andB (fun e' => tAnd0 ?_) fun e' => ?_))
      · refine ⟨_, _, rfl, F, ?_⟩
        have := eq_of_beq e
        have := of_decide_eq_true e'
        rw [decide_eq_true (by assumption), decide_eq_true (by omega)]; rfl
      · refine ⟨_, _, rfl, F, ?_⟩
        have := of_decide_eq_false e'
        rw [show decide (0 < wvs.length) = false from decide_eq_false (by omega), Bool.and_false]
    · refine ⟨_, _, rfl, F, ?_⟩
      rw [show decide (kd = 1) = false from decide_eq_false (by simpa using e), Bool.false_and]
  intro h₁₆ t₁₆ F
  cases c1 : (decide (kd = 1) && decide (0 < wvs.length)) with
  | true =>
    have c1' : 0 < wvs.length := by
      rw [Bool.and_eq_true] at c1; exact of_decide_eq_true c1.2
    obtain ⟨x0, dx0, ts0, eT0, hts0⟩ := TT.node_of eT
    have eV : T.val = .ref x0 := by rw [eT0]; rfl
    refine xAsg (eSub (eSub (ld F (by walk_at "at") (eCallF F W (esc ▸ ged_take) X.take (sCons (ld F (by walk_at "at") (sCons (eCallB F W (esc ▸ ged_len) X.len (sCons (ld F (by walk_at "at") (sNil ?_)))))))))))
    refine cLen (F.gl' hlw) (by omega) fun u₂ t₁₇ => sNil ⟨F.kin W, ?_⟩
    refine takeF X WT F mt (lT.trans F.gw.le) (by omega) (R.mono (by omega)) fun h₁₇ t₁₈ rj urj F q0 q1 => ?_
    obtain ⟨r2, er2⟩ : ∃ r, (wrds T.nd [])[rj.toNat]? = some r := ⟨(wrds T.nd [])[rj.toNat]'(by omega), List.getElem?_eq_getElem (by omega)⟩
    obtain ⟨lt2, pv2, nv2, ev2, ht2, ip2, inn2⟩ := row_of hiw er2
    obtain ⟨sw, ew1, hat2⟩ := wrds_at (List.mem_of_getElem? er2)
    have ewp : ((wrds T.nd []).map (·.1))[rj.toNat]? = some r2.1 := by rw [List.getElem?_map, er2]; rfl
    refine tItem (F.gl' hlw) q0 (by omega) ev2 rfl ?_
    refine eInt fun tw => ?_
    refine tItemU (ht2.up F.gw.sub) (by decide) (by decide) rfl rfl ?_
    refine stC F (C := L + 1) (v₀ := some pv) (List.mem_append_right _ (by walk_at "m")) (MPut.app (by walk_at "mput") _) kP (by rw [ecl]; rfl) fun h₁₈ F => ?_
    have adp := at_dep r2.1 hat2
    obtain ⟨pp', ix, lq, dsq, ep, hatp, hix⟩ := at_parent hat2 (fun e => by rw [e, eT] at hat2; simp [Nd.at] at hat2)
    have plen2 : r2.1.length = pp'.length + 1 := by rw [ep]; simp
    have ixl := (List.getElem?_eq_some_iff.mp hix).1
    refine xSetItem (eStr fun _ => ld F (by walk_at "at") ?_)
    refine eMeth rfl rfl (by decide) (ld F (by walk_at "at") ?_)
    have m0 := TT.sub_mem (C := d.tree) (T := T) (p := []) (x := x0) (dx := dx0) (l := l) (cs := ts0) (by rw [eT0]; rfl)
    obtain ⟨⟨ox0, od0, b1, b2, b3, b4⟩, gx0, gd0, ne0⟩ := F.ownT (List.mem_append_left _ m0.1) (List.mem_append_left _ m0.2)
    rw [eV]
    refine get_meth (F.kin W) Y.tree (b2.inst b1 b3) b4 (by decide +kernel) Y.leafpos.find Y.leafpos.isf (by obtain ⟨n, e⟩ := b2; exact ⟨dx0, by rw [e], b3⟩) (cwF (st := meth 5 18) (F.kin W) (Fn.keep Y.leafpos.fn) (sCons ?_))
    refine eMeth rfl rfl (by decide) (eComp (cl := []) (closure_of (by rw [ecl]; kernel_rfl)) (by decide +kernel) (ld F (by walk_at "at") ?_))
    refine iLst F (F.gl' hlw) fun I h₁₉ t₁₉ hI F => ?_
    refine cloop0 (σ := Unit) (P := litr D) (n := wvs.length) (V := fun i v => wvs[i]? = some v) (μI := fun _ => T.mu d.tree ++ [(tp, tapeO gT), (L + 1, celO (some pv2))]) () (fun i outs _ g => IsAll g outs ((((wrds T.nd []).map (·.1)).take i).map pyP)) R.handled (by decide +kernel) (zL (by omega)) F hI (fun _ _ _ _ => selfL) (itrSq (.of_list hlw)) .nil ?_ ?_
    · intro i v outs _ g' h' t' D C Lo hi hv' l' inv F
      obtain ⟨r, lt, pv, nv, er, rfl, ht, ip, inn⟩ := row_at (hiw.mono l') hv'
      refine eSub (ld F (by walk_at "at") (eInt fun _ => ?_))
      refine tItemU (ht.up F.gw.sub) (by decide) (by decide) rfl rfl ?_
      refine Elt.mk' () (Le.refl _) F ?_
      rw [List.take_add_one, List.getElem?_map, er, List.map_append]
      exact inv.app (.one ip)
    intro outs _ g₇ h₂₀ t₂₀ E2 le₇ hio F hE2
    rw [List.take_of_length_le (by simp; omega)] at hio
    refine mLst F (l := E2) (vs := outs) (by walk_at "m") PySem.F.slot_list_index PySem.F.type_list_index (cwB (sCons (ldc F (C := L + 1) (List.mem_cons_of_mem _ (List.mem_append_right _ (by walk_at "m"))) kP (by rw [ecl]; rfl) (sNil ?_))))
    refine cIndex (R.mono (by omega)) (F.ml (.head _)) (hio.mono F.gw.sub) ((ip2.mono le₇).mono F.gw.sub) (List.mem_of_getElem? ewp) (by simp; omega) (by obtain ⟨o, n1, ⟨n, n2⟩, _⟩ := F.has (.head _); exact ⟨o, n, n1, n2⟩) fun j uj t₂₁ ej hj => sNil ⟨F.kin W, ?_⟩
    have F := F.drop1
    have has : ∀ q ∈ T.mu d.tree, ∃ o, h₂₀.get? q.1 = some o ∧ q.2 o := fun q hq => (F.mu q (List.mem_append_left _ hq)).1
    have Hin : ∀ a ∈ (T.mu d.tree).map (·.1), ∃ o, h₂₀.get? a = some o := fun a ha => by
      obtain ⟨q, hq, rfl⟩ := List.mem_map.mp ha
      obtain ⟨o, z, _⟩ := has q hq
      exact ⟨o, z⟩
    have hasR : ∀ q ∈ T.mu d.tree, ∃ o, (adds g₇ h₂₀ ((T.mu d.tree).map (·.1))).get? q.1 = some o ∧ q.2 o := fun q hq => by
      obtain ⟨o, z1, z2⟩ := has q hq
      exact ⟨o, by rw [adds_in (List.mem_map_of_mem (f := (·.1)) hq) ⟨o, z1⟩]; exact z1, z2⟩
    have leR := adds_le (g := g₇) F.gw.sub Hin
    have geR := adds_ge (g := g₇) F.gw.sub Hin
    refine lt_spec X Y ((W.mono F.gw.le).mono geR) (x := x0) (nd := T.nd) (res := r2.1) (eV ▸ TT.tr hasR) ej (by omega) (by omega) leR (R.mono (by omega)) fun g₈ h₂₁ t₂₂ rv2 G isr => ?_
    obtain ⟨g₉, F, le₉, isr⟩ := F.learn G isr
    rw [ep] at isr
    obtain ⟨Ts, hsub, hTs⟩ := TT.nd_sub hatp
    obtain ⟨xs, dxs, tss, rfl, htss⟩ := TT.node_of hTs
    have ms := TT.sub_mem (C := d.tree) hsub
    obtain ⟨⟨oxs, ods, a1, a2, a3, a4⟩, gx, gd, ne⟩ := F.ownT (List.mem_append_left _ ms.1) (List.mem_append_left _ ms.2)
    obtain ⟨⟨ox0, od0, b1, b2, b3, b4⟩, gx0, gd0, ne0⟩ := F.ownT (List.mem_append_left _ m0.1) (List.mem_append_left _ m0.2)
    have has : ∀ q ∈ T.mu d.tree, ∃ o, h₂₁.get? q.1 = some o ∧ q.2 o := fun q hq => (F.mu q (List.mem_append_left _ hq)).1
    have tsl : tss.length = dsq.length := by rw [← htss, List.length_map]
    have asz := at_siz pp' hatp
    simp only [Nd.siz] at asz
    have dsl := len_sizs dsq
    refine setItemT (F.kin W) Y.tree (b2.inst b1 b3) Y.setitem.find (beq_iff_eq.mp Y.setitem.isf) ?_
    have up9 := le₇.trans le₉
    refine si_placeR X Y (i := ix) (vss := tss.map TT.val) (p := pp') (by rw [List.length_map]; omega) (by rw [List.length_map]; omega) ne (W.mono F.gw.le) (eV ▸ TT.tr has) (by omega) (eV ▸ TT.vat has hsub) a1 a2 a3 gx isr (by omega) F.gw.sub (R.mono (by omega)) fun h₂₂ t₂₃ ox' G e1 e2 => ?_
    obtain ⟨cx, ecx⟩ : ∃ cx, tss[ix]? = some cx := ⟨tss[ix]'(by omega), List.getElem?_eq_getElem (by omega)⟩
    have F := (show Fm env ((T.mu d.tree ++ [(tp, tapeO gT)]).map (·.1)) g h g₉ (T.mu d.tree ++ [] ++ [(tp, tapeO gT), (L + 1, celO (some pv2))]) _ _ by rw [List.append_nil]; exact F).turnT (f := fun cs => cs.set ix (.leaf (Str.ofString "w") tw)) (N := []) G hsub (fun q hq => by
        have := muL_mem ecx q hq; simpa [TT.mu] using this) (fun a => by have := muL_set (C := d.tree) (c' := .leaf (Str.ofString "w") tw) ecx a; simp only [TT.mu] at this; simp only [cnt, List.map_nil, List.count_nil] at this ⊢; omega) e1 (by rw [List.map_set]; exact e2)
    refine xRet (eCallF F W (esc ▸ ged_put) X.put (sCons (ld F (by walk_at "at") (sCons (ldc F (C := L + 1) (List.mem_append_right _ (by walk_at "m")) kP (by rw [ecl]; rfl) (sCons (eStr fun _ => sNil ⟨F.kin W, ?_⟩)))))))
    refine put_spec X r2.1 T.nd (.leaf (Str.ofString "w")) (W.mono F.gw.le) (hv6.mono up9) (ip2.mono up9) (by rw [Nd.py_leaf]; exact .str _ _) (by rw [hat2]; rfl) (by omega) (by omega) F.gw.sub (R.mono (by omega)) fun g₂₀ h₃₄ t₃₄ rr G isr => ?_
    have F := F.call G
    rw [ep, putN_snoc pp' hatp ixl] at isr
    have en : (T.mod (fun cs => cs.set ix (.leaf (Str.ofString "w") tw)) pp').nd = T.nd.mod (fun cs => cs.set ix (.leaf (Str.ofString "w"))) pp' := TT.nd_mod (fun cs => by rw [List.map_set]; rfl)
    have okd := at_ok pp' hatp ok
    simp only [Nd.ok, Bool.and_eq_true] at okd
    have adq := at_dep pp' hatp
    simp only [Nd.dep] at adq
    obtain ⟨d1, d2⟩ := split_at hix (.leaf (Str.ofString "w"))
    obtain ⟨f1, f2, f3, f4⟩ := modFin (f := fun cs => cs.set ix (.leaf (Str.ofString "w"))) hatp ok (by
      have o1 := okd.2
      rw [d1, oks_app, oks_app, Bool.and_eq_true, Bool.and_eq_true] at o1
      show oks (dsq.set ix _) = true
      rw [d2, oks_app, oks_app, o1.1, o1.2.2]
      decide +kernel) (by
      have o1 := congrArg sizs d1
      have o2 := congrArg sizs d2
      simp only [sizs_app, sizs, Nd.siz] at o1 o2
      show sizs (dsq.set ix _) ≤ _
      omega) (by
      have o1 := congrArg deps d1
      have o2 := congrArg deps d2
      simp only [deps_app, deps, Nd.dep] at o1 o2
      show deps (dsq.set ix _) ≤ _
      omega)
    refine k _ _ _ _ (T.mod (fun cs => cs.set ix (.leaf (Str.ofString "w") tw)) pp') F.gw F.mine TT.val_mod ?_ ?_ ?_ ?_ ?_ <;> rw [en] <;> assumption
  | false =>
  refine xNil ?_
  refine xIf (tCmp (ld F (by walk_at "at") (eInt fun _ => oEqI (tBool (ifB (fun e => ?_) fun e => ?_)))))
  · rw [Nd.py_node] at inn
    obtain ⟨la, avs, rfl, hla, hia⟩ := inn.of_list
    cases hia with
    | @cons v0 _ _ _ i0 hia =>
    cases hia with
    | @cons v1 _ _ _ i1 hia =>
    cases hia
    obtain ⟨lb, bvs, rfl, hlb, hib⟩ := i1.of_list
    have bl : bvs.length = dp1.length := by have := hib.len; simpa using this
    have adp := at_dep pp hat
    have a5 := at_siz pp hat
    simp only [Nd.siz] at a5
    have a6 := len_sizs dp1
    refine xAsg (eCallF F W (esc ▸ ged_take) X.take (sCons (ld F (by walk_at "at") (sCons (eBin (eCallB F W (esc ▸ ged_len) X.len (sCons (eSub (ld F (by walk_at "at") (eInt fun _ => ?_)))))))))) 
    refine tItem (F.gl' hla) (by decide) (by decide) rfl rfl (sNil ?_)
    refine cLen (F.gl' hlb) (by omega) fun u₂ t₁₇ => eInt fun _ => oAdd fun u₃ t₁₈ => sNil ⟨F.kin W, ?_⟩
    refine takeF X WT F mt (lT.trans F.gw.le) (by omega) (R.mono (by omega)) fun h₁₇ t₁₉ fj ufj F q0 q1 => ?_
    obtain ⟨fa, rfl⟩ := Int.eq_ofNat_of_zero_le q0
    refine stL F (by walk_at "put") fun h₁₈ t₂₀ F => ?_
    refine xAsg (eBin (ld F (by walk_at "at") (eCallF F W (esc ▸ ged_take) X.take (sCons (ld F (by walk_at "at") (sCons (eBin (eBin (eCallB F W (esc ▸ ged_len) X.len (sCons (eSub (ld F (by walk_at "at") (eInt fun _ => ?_)))))))))))))
    refine tItem (F.gl' hla) (by decide) (by decide) rfl rfl (sNil ?_)
    refine cLen (F.gl' hlb) (by omega) fun u₄ t₂₁ => ld F (by walk_at "at") (oSub fun u₅ t₂₂ => eInt fun _ => oAdd fun u₆ t₂₃ => sNil ⟨F.kin W, ?_⟩)
    refine takeF X WT F mt (lT.trans F.gw.le) (by omega) (R.mono (by omega)) fun h₁₉ t₂₄ lj ulj F q2 q3 => ?_
    obtain ⟨fb, rfl⟩ := Int.eq_ofNat_of_zero_le q2
    refine oAdd fun u₇ t₂₅ => ?_
    rw [show ((fa : Int) + (fb : Int)) = ((fa + fb : Nat) : Int) by omega]
    refine stL F (by walk_at "put") fun h₂₀ t₂₆ F => ?_
    refine xSetItem (eList (sCons (eStr fun _ => sCons (eCallC F W (esc ▸ ged_tree) X.treeC Y.keepT (sCons (eStr fun _ => sCons (eList (sNil (nLst F (Nat.zero_le _) fun le0 g₇ h₂₁ F le₇ hle => sNil ⟨F.kin W, ?_⟩)))))))))
    refine cTree X Y F W (F.gl' hle) (Nat.zero_le _) (R.mono (by omega)) fun xn dxn h₂₂ t₂₇ F => ?_
    refine sNil (nLst F (zL (Nat.le_add_left 2 99998)) fun ln g₈ h₂₃ F le₈ hln => ?_)
    have F : Fm env ((T.mu d.tree ++ [(tp, tapeO gT)]).map (·.1)) g h g₈ (T.mu d.tree ++ ([(xn, treeO d.tree dxn []), (dxn, lblO (Str.ofString "D"))] ++ [(tp, tapeO gT), (L + 1, celO (some pv))])) _ h₂₃ := F.perm (by
      have := List.Perm.append_right [(tp, tapeO gT), (L + 1, celO (some pv))] (List.perm_append_comm (l₁ := [(xn, treeO d.tree dxn []), (dxn, lblO (Str.ofString "D"))]) (l₂ := T.mu d.tree))
      simpa using this)
    refine eSub (ld F (by walk_at "at") (ldc F (C := L + 1) (List.mem_append_right _ (List.mem_append_right _ (by walk_at "m"))) kP (by rw [ecl]; rfl) ?_))
    refine getPlace X Y W F hat (ip.mono (le₇.trans le₈)) (by omega) (by omega) rfl (R.mono (by omega)) fun h₂₄ t₂₈ xa dxa ts F hsub hts => ?_
    refine eSl (pSome (ld F (by walk_at "at") (pSome (ld F (by walk_at "at") ?_))))
    obtain ⟨g₉, F, le₉, hsl, esl⟩ := F.sliceH (.int (fa : Nat) ufj) (.int (fa + fb : Nat) u₇)
    have ms := TT.sub_mem (C := d.tree) hsub
    obtain ⟨⟨oxa, oda, a1, a2, a3', a4⟩, gx, gd, ne⟩ := F.ownT (List.mem_append_left _ ms.1) (List.mem_append_left _ ms.2)
    have hln' := hln.up le₉
    have tsl : ts.length = dp1.length := by rw [← hts, List.length_map]
    refine setItemT (F.kin W) Y.tree (a2.inst a1 a3') Y.setitem.find (beq_iff_eq.mp Y.setitem.isf) ?_
    refine si_slice X Y (W.mono F.gw.le) a1 a2 a3' ne gx (hsl.up F.gw.sub) (.int _ _) (.int _ _) (fun e => by rw [e, gx] at esl; cases esl) (F.gl' hln') (fun e => by obtain ⟨o, q, _⟩ := hln'; rw [e, gx] at q; cases q) (by rw [List.length_map]; simp; omega) F.gw.sub (R.mono (by omega)) fun h₂₅ t₂₉ ox' G e1 e2 => ?_
    obtain ⟨z1, z2⟩ := muL_spl (C := d.tree) (a := some (fa : Int)) (b := some ((fa + fb : Nat) : Int)) ts [.leaf (Str.ofString "u") t₂₆, .node xn dxn (Str.ofString "D") []]
    have F := (show Fm env ((T.mu d.tree ++ [(tp, tapeO gT)]).map (·.1)) g h g₉ (T.mu d.tree ++ [(xn, treeO d.tree dxn []), (dxn, lblO (Str.ofString "D"))] ++ [(tp, tapeO gT), (L + 1, celO (some pv))]) _ _ by rw [List.append_assoc]; exact F).turnT (f := fun cs => spl (some (fa : Int)) (some ((fa + fb : Nat) : Int)) cs [.leaf (Str.ofString "u") t₂₆, .node xn dxn (Str.ofString "D") []]) (N := [(xn, treeO d.tree dxn []), (dxn, lblO (Str.ofString "D"))]) G hsub (fun q hq => by
        have := z1 q hq; simpa [muL, TT.mu] using this) (fun a => by have := z2 a; simpa [muL, TT.mu] using this) e1 (by rw [spl_map]; exact e2)
    have up9 := (le₇.trans le₈).trans le₉
    have hla := hla.up up9
    have hlb := hlb.up up9
    have fab : fa + fb ≤ dp1.length := by omega
    refine xRet (eCallF F W (esc ▸ ged_put) X.put (sCons (ld F (by walk_at "at") (sCons (ldc F (C := L + 1) (List.mem_append_right _ (by walk_at "m")) kP (by rw [ecl]; rfl) (sCons (eList (sCons (eSub (ld F (by walk_at "at") (eInt fun _ => ?_)))))))))))
    refine tItem (F.gl' hla) (by decide) (by decide) rfl rfl ?_
    refine sCons (eBin (eBin (eSub (eSub (ld F (by walk_at "at") (eInt fun _ => ?_))))))
    refine tItem (F.gl' hla) (by decide) (by decide) rfl rfl ?_
    refine eSl (pNone (pSome (ld F (by walk_at "at") ?_)))
    obtain ⟨g₁₀, F, le₁₀, hsl1, _⟩ := F.sliceH .none (.int (fa : Nat) ufj)
    refine sliceL (vs := bvs) F (F.gl' (hlb.up le₁₀)) hsl1 .none (.int _ _) (zL (by omega)) fun l5 g₁₁ h₂₆ F le₁₁ hl5 => ?_
    rw [cut_to] at hl5
    refine eList (sCons (eStr fun _ => sCons (eList (sCons (eStr fun _ => sCons (eList (sNil (nLst F (Nat.zero_le _) fun l6 g₁₂ h₂₇ F le₁₂ hl6 => sNil (nLst F (zL (Nat.le_add_left 2 99998)) fun l7 g₁₃ h₂₈ F le₁₃ hl7 => sNil (nLst F (zL (Nat.le_add_left 2 99998)) fun l8 g₁₄ h₂₉ F le₁₄ hl8 => ?_))))))))))
    have upA := (le₁₂.trans le₁₃).trans le₁₄
    refine oAddL F (F.gl' (hl5.up upA)) (F.gl' hl8) (by rw [sizeLine_eq]; simp; omega) fun l9 g₁₅ h₃₀ F le₁₅ hl9 => ?_
    have upB := ((le₁₀.trans le₁₁).trans upA).trans le₁₅
    refine eSub (eSub (ld F (by walk_at "at") (eInt fun _ => ?_)))
    refine tItem (F.gl' (hla.up upB)) (by decide) (by decide) rfl rfl ?_
    refine eSl (pSome (ld F (by walk_at "at") (pNone ?_)))
    obtain ⟨g₁₆, F, le₁₆, hsl2, _⟩ := F.sliceH (.int (fa + fb : Nat) u₇) .none
    refine sliceL (vs := bvs) F (F.gl' (hlb.up (upB.trans le₁₆))) hsl2 (.int _ _) .none (zL (by omega)) fun l10 g₁₇ h₃₁ F le₁₇ hl10 => ?_
    rw [cut_from] at hl10
    refine oAddL F (F.gl' (hl9.up (le₁₆.trans le₁₇))) (F.gl' hl10) (by rw [sizeLine_eq]; simp; omega) fun l11 g₁₈ h₃₂ F le₁₈ hl11 => ?_
    refine sNil (nLst F (zL (Nat.le_add_left 2 99998)) fun l12 g₁₉ h₃₃ F le₁₉ hl12 => sNil ⟨F.kin W, ?_⟩)
    have upC := ((upB.trans le₁₆).trans (le₁₇.trans le₁₈)).trans le₁₉
    have es : ∀ cs : List Nd, cs.length = dp1.length → spl (some (fa : Int)) (some ((fa + fb : Nat) : Int)) cs [.leaf (Str.ofString "u"), .node (Str.ofString "D") []] = cs.take fa ++ [.leaf (Str.ofString "u"), .node (Str.ofString "D") []] ++ cs.drop (fa + fb) := fun cs hc => spl_in (by omega) (by omega)
    have isx : Is g₁₉ (.ref l12) (Nd.node lp1 (spl (some (fa : Int)) (some ((fa + fb : Nat) : Int)) dp1 [.leaf (Str.ofString "u"), .node (Str.ofString "D") []])).py := by
      rw [Nd.py_node]
      refine .list hl12 (.cons (i0.mono (up9.trans upC)) (.one (.list (hl11.up le₁₉) ?_)))
      rw [es dp1 rfl, List.map_append, List.map_append, List.map_take, List.map_drop]
      have hib := hib.mono (up9.trans upC)
      have upD := (((le₁₅.trans le₁₆).trans le₁₇).trans le₁₈).trans le₁₉
      refine ((hib.take fa).app ?_).app (hib.drop (fa + fb))
      refine .cons (by rw [Nd.py_leaf]; exact .str _ _) (.one ?_)
      rw [Nd.py_node]
      exact .list (hl7.up (le₁₄.trans upD)) (.cons (.str _ _) (.one (.list (hl6.up ((le₁₃.trans le₁₄).trans upD)) .nil)))
    refine put_spec X pp T.nd _ (W.mono F.gw.le) (hv6.mono (up9.trans upC)) (ip.mono (up9.trans upC)) isx (by rw [hat]; rfl) (by omega) (by omega) F.gw.sub (R.mono (by omega)) fun g₂₀ h₃₄ t₃₄ rr G isr => ?_
    have F := F.call G
    rw [putN_mod pp (f := fun cs => spl (some (fa : Int)) (some ((fa + fb : Nat) : Int)) cs [.leaf (Str.ofString "u"), .node (Str.ofString "D") []]) hat] at isr
    have en : (T.mod (fun cs => spl (some (fa : Int)) (some ((fa + fb : Nat) : Int)) cs [.leaf (Str.ofString "u") t₂₆, .node xn dxn (Str.ofString "D") []]) pp).nd = T.nd.mod (fun cs => spl (some (fa : Int)) (some ((fa + fb : Nat) : Int)) cs [.leaf (Str.ofString "u"), .node (Str.ofString "D") []]) pp := TT.nd_mod (fun cs => by rw [spl_map, List.map_cons, List.map_cons, List.map_nil]; simp [TT.nd, ndL])
    have okd := at_ok pp hat ok
    simp only [Nd.ok, Bool.and_eq_true] at okd
    simp only [Nd.dep] at adp
    have d1 := List.take_append_drop fa dp1
    have d2 := List.take_append_drop (fa + fb) dp1
    obtain ⟨f1, f2, f3, f4⟩ := modFin (f := fun cs => spl (some (fa : Int)) (some ((fa + fb : Nat) : Int)) cs [.leaf (Str.ofString "u"), .node (Str.ofString "D") []]) hat ok (by
      rw [es dp1 rfl, oks_app, oks_app]
      have o1 := okd.2
      have o2 := okd.2
      rw [← d1, oks_app, Bool.and_eq_true] at o1
      rw [← d2, oks_app, Bool.and_eq_true] at o2
      rw [o1.1, o2.2]
      decide +kernel) (by
      rw [es dp1 rfl, sizs_app, sizs_app]
      have o1 := congrArg sizs d1
      have o2 := congrArg sizs d2
      rw [sizs_app] at o1 o2
      simp only [sizs, Nd.siz]; omega) (by
      rw [es dp1 rfl, deps_app, deps_app]
      have o1 := congrArg deps d1
      have o2 := congrArg deps d2
      rw [deps_app] at o1 o2
      simp only [deps, Nd.dep]; omega)
    refine k _ _ _ _ (T.mod (fun cs => spl (some (fa : Int)) (some ((fa + fb : Nat) : Int)) cs [.leaf (Str.ofString "u") t₂₆, .node xn dxn (Str.ofString "D") []]) pp) F.gw F.mine TT.val_mod ?_ ?_ ?_ ?_ ?_ <;> rw [en] <;> assumption
  · refine xNil ?_
    refine xAsg (eSub (eSub (ld F (by walk_at "at") (eCallF F W (esc ▸ ged_take) X.take (sCons (ld F (by walk_at "at") (sCons (eCallB F W (esc ▸ ged_len) X.len (sCons (ld F (by walk_at "at") (sNil ?_)))))))))))
    have spos := siz_pos T.nd
    refine cLen (F.gl' hlp) (by omega) fun u₂ t₁₇ => sNil ⟨F.kin W, ?_⟩
    refine takeF X WT F mt (lT.trans F.gw.le) (by omega) (R.mono (by omega)) fun h₁₇ t₁₈ rj urj F q0 q1 => ?_
    obtain ⟨r2, er2⟩ : ∃ r, (places T.nd [])[rj.toNat]? = some r := ⟨(places T.nd [])[rj.toNat]'(by omega), List.getElem?_eq_getElem (by omega)⟩
    obtain ⟨lt2, pv2, nv2, ev2, ht2, ip2, inn2⟩ := row_of hip er2
    obtain ⟨q2, eq2, hat2⟩ := places_at T.nd [] r2 (List.mem_of_getElem? er2)
    obtain ⟨pp2, pn2⟩ := r2
    dsimp only at ip2 inn2 eq2 hat2
    have sz2 := at_siz q2 hat2
    have dp2 := at_dep q2 hat2
    have ok2 := at_ok q2 hat2 ok
    refine tItem (F.gl' hlp) q0 (by omega) ev2 rfl ?_
    refine eInt fun _ => ?_
    refine tItemU (ht2.up F.gw.sub) (by decide) (by decide) rfl rfl ?_
    refine stL F (by walk_at "put") fun h₁₈ t₁₉ F => ?_
    refine xSetItem (eList (sCons (eCallF F W (esc ▸ ged_built) X.built (sCons (ld F (by walk_at "at") (sNil ⟨F.kin W, ?_⟩))))))
    refine built_spec X Y 14 pn2 (by omega) (W.mono F.gw.le) inn2 (by omega) F.gw.sub (R.mono (by omega)) fun h₁₉ t₂₀ T2 G e₂ fr₂ => ?_
    have F := F.adoptT (F.call G) fr₂ F.gw.sub
    refine sNil (nLst F (zL (Nat.le_add_left 1 99999)) fun ln g₇ h₂₀ F le₇ hln => ?_)
    have F : Fm env ((T.mu d.tree ++ [(tp, tapeO gT)]).map (·.1)) g h g₇ (T.mu d.tree ++ (T2.mu d.tree ++ [(tp, tapeO gT), (L + 1, celO (some pv))])) _ h₂₀ := F.perm (by rw [← List.append_assoc, ← List.append_assoc]; exact List.Perm.append_right _ List.perm_append_comm)
    refine eSub (ld F (by walk_at "at") (ldc F (C := L + 1) (List.mem_append_right _ (List.mem_append_right _ (by walk_at "m"))) kP (by rw [ecl]; rfl) ?_))
    have adp := at_dep pp hat
    refine getPlace X Y W F hat (ip.mono le₇) (by omega) (by omega) rfl (R.mono (by omega)) fun h₂₁ t₂₁ xa dxa ts F hsub hts => ?_
    refine eSl (pSome (eInt fun ta => pSome (eInt fun tb => ?_)))
    obtain ⟨g₈, F, le₈, hsl, esl⟩ := F.sliceH (.int 0 t₂₁) (.int 0 ta)
    have ms := TT.sub_mem (C := d.tree) hsub
    obtain ⟨⟨oxa, oda, a1, a2, a3, a4⟩, gx, gd, ne⟩ := F.ownT (List.mem_append_left _ ms.1) (List.mem_append_left _ ms.2)
    have hln' := hln.up le₈
    have tsl : ts.length = dp1.length := by rw [← hts, List.length_map]
    have a5 := at_siz pp hat
    simp only [Nd.siz] at a5
    have a6 := len_sizs dp1
    refine setItemT (F.kin W) Y.tree (a2.inst a1 a3) Y.setitem.find (beq_iff_eq.mp Y.setitem.isf) ?_
    refine si_slice X Y (W.mono F.gw.le) a1 a2 a3 ne gx (hsl.up F.gw.sub) (.int _ _) (.int _ _) (fun e => by rw [e, gx] at esl; cases esl) (F.gl' hln') (fun e => by obtain ⟨o, q, _⟩ := hln'; rw [e, gx] at q; cases q) (by rw [List.length_map]; simp; omega) F.gw.sub (R.mono (by omega)) fun h₂₂ t₂₂ ox' G e1 e2 => ?_
    obtain ⟨z1, z2⟩ := muL_spl (C := d.tree) (a := some 0) (b := some 0) ts [T2]
    have F := (show Fm env ((T.mu d.tree ++ [(tp, tapeO gT)]).map (·.1)) g h g₈ (T.mu d.tree ++ T2.mu d.tree ++ [(tp, tapeO gT), (L + 1, celO (some pv))]) _ _ by rw [List.append_assoc]; exact F).turnT (f := fun cs => spl (some 0) (some 0) cs [T2]) (N := T2.mu d.tree) G hsub (fun q hq => by
        have := z1 q hq; simpa [muL] using this) (fun a => by have := z2 a; simpa [muL] using this) e1 (by rw [spl_map]; exact e2)
    have up8 := le₇.trans le₈
    have inn := inn.mono up8
    rw [Nd.py_node] at inn
    obtain ⟨la, avs, rfl, hla, hia⟩ := inn.of_list
    cases hia with
    | @cons v0 _ _ _ i0 hia =>
    cases hia with
    | @cons v1 _ _ _ i1 hia =>
    cases hia
    obtain ⟨lb, bvs, rfl, hlb, hib⟩ := i1.of_list
    have bl : bvs.length = dp1.length := by have := hib.len; simpa using this
    refine xRet (eCallF F W (esc ▸ ged_put) X.put (sCons (ld F (by walk_at "at") (sCons (ldc F (C := L + 1) (List.mem_append_right _ (by walk_at "m")) kP (by rw [ecl]; rfl) (sCons (eList (sCons (eSub (ld F (by walk_at "at") (eInt fun _ => ?_)))))))))))
    refine tItem (F.gl' hla) (by decide) (by decide) rfl rfl ?_
    refine sCons (eBin (eList (sCons (ld F (by walk_at "at") (sNil ?_)))))
    refine nLst F (zL (Nat.le_add_left 1 99999)) fun l5 g₉ h₂₃ F le₉ hl5 => ?_
    refine eSub (ld F (by walk_at "at") (eInt fun _ => ?_))
    refine tItem (F.gl' (hla.up le₉)) (by decide) (by decide) rfl rfl ?_
    refine oAddL F (F.gl' hl5) (F.gl' (hlb.up le₉)) (by rw [sizeLine_eq]; simp; omega) fun l6 g₁₀ h₂₄ F le₁₀ hl6 => ?_
    refine sNil (nLst F (zL (Nat.le_add_left 2 99998)) fun l7 g₁₁ h₂₅ F le₁₁ hl7 => sNil ⟨F.kin W, ?_⟩)
    have up11 := (le₉.trans le₁₀).trans le₁₁
    have isx : Is g₁₁ (.ref l7) (Nd.node lp1 (spl (some 0) (some 0) dp1 [pn2])).py := by
      rw [Nd.py_node]
      refine .list hl7 (.cons (i0.mono up11) (.one (.list (hl6.up le₁₁) ?_)))
      have e : spl (some 0) (some 0) dp1 [pn2] = [pn2] ++ dp1 := spl_00
      rw [e, List.map_append]
      exact (IsAll.one (inn2.mono (up8.trans up11))).app (hib.mono up11)
    refine put_spec X pp T.nd (.node lp1 (spl (some 0) (some 0) dp1 [pn2])) (W.mono F.gw.le) (hv6.mono (up8.trans up11)) (ip.mono (up8.trans up11)) isx (by rw [hat]; rfl) (by omega) (by omega) F.gw.sub (R.mono (by omega)) fun g₁₂ h₂₆ t₂₆ rr G isr => ?_
    have F := F.call G
    rw [putN_mod pp (f := fun cs => spl (some 0) (some 0) cs [pn2]) hat] at isr
    have en : (T.mod (fun cs => spl (some 0) (some 0) cs [T2]) pp).nd = T.nd.mod (fun cs => spl (some 0) (some 0) cs [pn2]) pp := TT.nd_mod (fun cs => by rw [spl_map, List.map_cons, List.map_nil, e₂])
    have es : spl (some 0) (some 0) dp1 [pn2] = [pn2] ++ dp1 := spl_00
    have okd := at_ok pp hat ok
    simp only [Nd.ok, Bool.and_eq_true] at okd
    simp only [Nd.dep] at adp
    obtain ⟨f1, f2, f3, f4⟩ := modFin (f := fun cs => spl (some 0) (some 0) cs [pn2]) hat ok (by rw [es, oks_app]; simp [oks, ok2, okd.2]) (by rw [es, sizs_app]; simp only [sizs]; omega) (by rw [es, deps_app]; simp only [deps]; omega)
    refine k _ _ _ _ (T.mod (fun cs => spl (some 0) (some 0) cs [T2]) pp) F.gw F.mine TT.val_mod ?_ ?_ ?_ ?_ ?_ <;> rw [en] <;> assumption
end
end TL

end
section
open PySem PySem.W PyProof.Rows PySem.Calls Builtin Builtin.ObjectAttr
set_option maxRecDepth 100000
set_option linter.unusedVariables false
set_option linter.unusedSimpArgs false
set_option pp.deepTerms false
set_option pp.deepTerms.threshold 4
set_option pp.maxSteps 2000
set_option maxHeartbeats 1000000
namespace TL
open TL
local macro_rules | `(tactic| walk_at "at") => `(tactic| repeat (first | exact At.head | apply At.tail))
local macro_rules | `(tactic| walk_at "put") => `(tactic| repeat (first | exact Put.head | apply Put.tail))
local macro_rules | `(tactic| walk_at "m") => `(tactic| repeat (first | exact List.Mem.head _ | apply List.Mem.tail))
local macro_rules | `(tactic| walk_at "mput") => `(tactic| repeat (first | exact MPut.head | apply MPut.tail))
set_option maxHeartbeats 4000000
def zN : Nat → Nat
  | 0 => 121
  | n + 1 => 2 * zN n + 2
def dN : Nat → Nat
  | 0 => 4
  | n + 1 => 2 * dN n + 1
structure LInv (v₀ : Value) (i : Nat) (a : TT × Value) (g : Heap) : Prop where
  is : Is g a.2 a.1.nd.py
  val : a.1.val = v₀
  node : ∃ l cs, a.1.nd = .node l cs
  ok : a.1.nd.ok = true
  siz : a.1.nd.siz ≤ zN i
  dep : a.1.nd.dep ≤ dN i
section
variable {w : World} {A : Around} {env : Env} {S : List Addr} {g₀ h₀ g h : Heap} {μ μ' M : Mu} {lc : Lc} {c : Shared} {t : Tok} {Q : Value → Shared → Prop} {K : Frag} {mg mb : Str → Option Value} {d : Ad} {m : Md} {pos p : Pos}
theorem gla_tape : Gl (scopeOf (stI 22)) (Str.ofString "_law_tape") := by decide +kernel
theorem glaw_node : Gl (scopeOf (stI 22)) (Str.ofString "_law_node") := by decide +kernel
theorem glaw_read : Gl (scopeOf (stI 22)) (Str.ofString "_law_read") := by decide +kernel
theorem glaw_text : Gl (scopeOf (stI 22)) (Str.ofString "_law_text") := by decide +kernel
theorem glaw_agree : Gl (scopeOf (stI 22)) (Str.ofString "_law_agree") := by decide +kernel
theorem glaw_range : Gl (scopeOf (stI 22)) (Str.ofString "range") := by decide +kernel
theorem glaw_edited : Gl (scopeOf (stI 22)) (Str.ofString "_law_edited") := by decide +kernel
theorem glaw_places : Gl (scopeOf (stI 22)) (Str.ofString "_law_places") := by decide +kernel
theorem glaw_built : Gl (scopeOf (stI 22)) (Str.ofString "_law_built") := by decide +kernel
theorem glaw_take : Gl (scopeOf (stI 22)) (Str.ofString "_law_take") := by decide +kernel
theorem glaw_len : Gl (scopeOf (stI 22)) (Str.ofString "len") := by decide +kernel
/-- tree and node agree -/
theorem agreeF (X : Wk K mg mb d) (Y : TM K d m) (W : Wg K mg mb g₀) {T : TT} {vn v : Value} {l : Str} {cs : List Nd} (ew : v = T.val) (F : Fm env S g₀ h₀ g (μ ++ (T.mu d.tree ++ M)) lc h) (eT : T.nd = .node l cs) (hv : Is g vn T.nd.py) (ok : T.nd.ok = true) (hz : T.nd.siz ≤ 2000) (hd : T.nd.dep ≤ 20) (room : Room A 120)
    (k : ∀ h' t', Fm env S g₀ h₀ g (μ ++ (T.mu d.tree ++ M)) lc h' → Q (.bool true) (St c h' t')) : Wp w A (call (.ref d.agree) [v, vn]) Q (St c h t) := by
  subst ew
  have has : ∀ q ∈ T.mu d.tree, ∃ o, h.get? q.1 = some o ∧ q.2 o := fun q hq => (F.mu q (List.mem_append_right _ (List.mem_append_left _ hq))).1
  have tr := TT.tr has
  rw [eT] at tr hv ok hz hd
  obtain ⟨x, dx, ox, od, vs, ev, N⟩ := tr.of_node
  rw [ev]
  exact agree_spec X Y (W.mono (F.gw.le.trans F.gw.sub)) N (hv.mono F.gw.sub) (told ok hz hd) (Le.refl _) room fun g' h' t' G => k h' t' (F.ext G.all)
theorem law_walk (X : Wk K mg mb d) (Y : TM K d m) (W : Wg K mg mb g) {sc : Addr} {vs : List Value} {ns : List Int} (hs : g.IsList sc vs.toArray) (hi : IntsAre vs ns) (hn : ns.length ≤ 63) (esc : env.scope = scopeOf (stI 22)) (ecl : env.cells = [])
    (F : Fm env [] g h₀ g [] [(Str.ofString "script", some (.ref sc)), (Str.ofString "tape", none), (Str.ofString "node", none), (Str.ofString "tree", none), (Str.ofString "turn", none), (Str.ofString "inner", none), (Str.ofString "other", none)] h) (R : Room A 125) :
    Wp w A (execs (bodyOf (stI 22)) env) (fun fl s' => fl = .ret (.bool true) ∧ ∃ h' t', s' = St c h' t' ∧ Le h₀ h' ∧ ∃ m, h'.Ns env.locals m) (St c h t) := by
  refine xAsg (eCallF F W (esc ▸ gla_tape) X.tape (sCons (ld F (by walk_at "at") (sNil ⟨F.kin W, ?_⟩))))
  refine tape_spec X (W.mono F.gw.le) hs hi hn F.gw.sub (R.mono (by omega)) fun gT h₁ t₁ tp o G n1 n2 e1 pt => ?_
  have lT := G.le
  have F := F.adopt (g₁ := g) (F.call G) n2 (fun p hp => nomatch hp) n1 e1 pt
  have WT := W.mono lT
  refine stL F (by walk_at "put") fun h₂ t₂ F => ?_
  refine xAsg (eCallF F W (esc ▸ glaw_node) X.node (sCons (ld F (by walk_at "at") (sCons (eInt fun _ => sCons (eList (sCons (eInt fun _ => sNil (nLstM F (zL (Nat.le_add_left 1 99999)) fun rm h₃ hrm F => sNil ⟨F.kin W, ?_⟩)))))))))
  obtain ⟨o1, ho1, hp1, hg1⟩ := F.has (P := tapeO gT) (a := tp) (by walk_at "m")
  obtain ⟨o2, ho2, ⟨na, eo2⟩, hg2⟩ := F.has (a := rm) (.head _)
  have hne : tp ≠ rm := fun e => by have := F.ndm; simp [e] at this
  refine node_spec X WT 3 (by omega) (Le.refl _) F.gw.sub hne hg1 hg2 ho1 hp1 ho2 ⟨8, _, by rw [eo2], na, by rw [eo2]⟩ (R.mono (by omega)) fun g₁ h₄ t₄ vn l cs o1' o2' G e1 p1 e2 p2 isn ok hd hz => ?_
  have F := F.callG (μ' := [(rm, roomO), (tp, tapeO gT)]) G (fun b hb => by
    simp only [List.mem_cons, List.not_mem_nil, or_false] at hb
    rcases hb with rfl | rfl <;> simp) rfl (fun p hp => by
    simp only [List.mem_cons, List.not_mem_nil, or_false] at hp
    rcases hp with rfl | rfl
    · exact .inr ⟨_, e2, p2⟩
    · exact .inr ⟨_, e1, p1⟩)
  have F := F.drop1
  have lT := G.le
  have hz : (Nd.node l cs).siz ≤ 121 := hz
  have hd : (Nd.node l cs).dep ≤ 4 := hd
  refine stL F (by walk_at "put") fun h₅ t₅ F => ?_
  obtain ⟨_, _, _, z1, z2, z3, y, toks, hp, hlen, rd, _⟩ := told ok (by omega) (by omega)
  refine xAsg (eCallF F W (esc ▸ glaw_read) X.read (sCons (eCallF F W (esc ▸ glaw_text) X.text (sCons (ld F (by walk_at "at") (sNil ⟨F.kin W, ?_⟩))))))
  refine text_spec X 4 _ hd (W.mono F.gw.le) isn ok (by omega) F.gw.sub (R.mono (by omega)) fun g₂ h₆ t₆ ut G => ?_
  have F := F.call G
  have lT := lT.trans G.le
  have isn := isn.mono G.le
  refine sNil ⟨F.kin W, ?_⟩
  refine read_spec X Y (W.mono F.gw.le) F.gw.sub (R.mono (by omega)) z1 z2 z3 hp hlen rd fun h₇ t₇ T G eT fr => ?_
  have F := F.adoptT (F.call G) fr F.gw.sub
  refine stL F (by walk_at "put") fun h₈ t₈ F => ?_
  rw [← eT] at isn ok hz hd
  refine xIf (tNot (tVal (eCallF F W (esc ▸ glaw_agree) X.agree (sCons (ld F (by walk_at "at") (sCons (ld F (by walk_at "at") (sNil ⟨F.kin W, ?_⟩))))))))
  refine agreeF X Y W (μ := []) rfl F eT isn ok (by omega) (by omega) (R.mono (by omega)) fun h₉ t₉ F => tBool ?_
  refine ifB (fun e => nomatch e) fun _ => xNil ?_
  rw [List.nil_append] at F
  refine xFor (eCallT F W (esc ▸ glaw_range) X.range (sCons (eInt fun _ => sNil ?_)))
  refine rng1 F (by decide) (by decide) fun I h₁₀ t₁₀ hI F => ?_
  refine floop (σ := TT × Value) (P := ritr 0 1 (2 : Int).toNat) (n := (2 : Int).toNat) (V := fun i v => ∃ u, v = .int (0 + 1 * i) u)
    (μI := fun a => a.1.mu d.tree ++ [(tp, tapeO gT)]) (lcI := fun a o => [(Str.ofString "script", some (.ref sc)), (Str.ofString "tape", some (.ref tp)), (Str.ofString "node", some a.2), (Str.ofString "tree", some T.val), (Str.ofString "turn", o), (Str.ofString "inner", none), (Str.ofString "other", none)])
    (T, vn) none (fun i a g => LInv T.val i a g) R.handled F hI itrRange ⟨isn, rfl, ⟨_, _, eT⟩, ok, hz, hd⟩ (fun a o v => by walk_at "put") ?_ ?_
  · intro i vi a g' h' t' hi hv l' inv F
    obtain ⟨T1, v1⟩ := a
    obtain ⟨is1, ev1, ⟨l1, cs1, en1⟩, ok1, sz1, dp1⟩ := inv
    dsimp only at is1 ev1 en1 ok1 sz1 dp1 F
    have hi : i < 2 := hi
    have zi : zN i ≤ 244 ∧ dN i ≤ 9 := by
      rcases Nat.lt_or_ge i 1 with z | z
      · have : i = 0 := by omega
        subst this; decide
      · have : i = 1 := by omega
        subst this; decide
    rw [← ev1] at F
    refine xAsg (eCallF F W (esc ▸ glaw_edited) X.edited (sCons (ld F (by walk_at "at") (sCons (ld F (by walk_at "at") (sCons (ld F (by walk_at "at") (sNil ⟨F.kin W, ?_⟩))))))))
    have nd0 := F.ndm
    rw [List.map_cons, List.nodup_cons] at nd0
    refine edited_spec X Y WT (lT.trans l') en1 (fun p hp => ⟨(F.mu p (.tail _ hp)).1, (F.mu p (.tail _ hp)).2.1⟩) nd0.2 is1 ok1 (by omega) (by omega) F.gw.sub (R.mono (by omega)) fun g₃ h₁₁ t₁₁ v2 T2 G Mi ev2 is2 en2 ok2 sz2 dp2 => ?_
    obtain ⟨oI, hoI, hpI, _⟩ := F.has (.head _)
    have nI : ∀ p ∈ T2.mu d.tree ++ [(tp, tapeO gT)], p.1 ≠ I := fun p hp e => by
      rcases (Mi.mu p hp).2.2 with z | z
      · rw [e] at z; exact nd0.1 z
      · rw [e, hoI] at z; cases z
    have F := F.callN (μ' := (I, ritr 0 1 (2 : Int).toNat (i + 1)) :: (T2.mu d.tree ++ [(tp, tapeO gT)])) G (fun a ha => List.mem_cons_of_mem _ ha) (by
      rw [List.map_cons, List.nodup_cons]
      refine ⟨fun z => ?_, Mi.nd⟩
      obtain ⟨p, hp, e⟩ := List.mem_map.mp z
      exact nI p hp e) (fun p hp => by
      rcases List.mem_cons.mp hp with rfl | hp
      · exact .inl ⟨nd0.1, .head _⟩
      · obtain ⟨a1, a2, a3⟩ := Mi.mu p hp
        exact .inr ⟨a3.imp_left fun z => List.mem_cons_of_mem _ z, a2, a1⟩)
    rw [ev1] at F
    refine stL F (by walk_at "put") fun h₁₂ t₁₂ F => ?_
    obtain ⟨l2, cs2, en2⟩ := en2
    have is2' := is2
    rw [en2, Nd.py_node] at is2'
    obtain ⟨lv, _, rfl, _, _⟩ := is2'.of_list
    refine xIf (tBoolOp (tOr (tCmp (ld F (by walk_at "at") (eNone (oIsNoneF (tBool (orB (fun e => nomatch e) fun _ => ?_))))))))
    refine tOr (tNot (tVal (eCallF F W (esc ▸ glaw_agree) X.agree (sCons (ld F (by walk_at "at") (sCons (ld F (by walk_at "at") (sNil ⟨F.kin W, ?_⟩))))))))
    have e12 : T.val = T2.val := by rw [ev2, ev1]
    refine agreeF X Y W (T := T2) (μ := [(I, ritr 0 1 (2 : Int).toNat (i + 1))]) e12 F en2 is2 ok2 (by omega) (by omega) (R.mono (by omega)) fun h₁₃ t₁₃ F => tBool (orB (fun e => nomatch e) fun _ => tOr0 (ifB (fun e => nomatch e) fun _ => xNil (xNil ?_)))
    refine Turn.next (g' := g₃) (T2, .ref lv) (some vi) ?_ ?_ ?_
    · exact G.le
    · exact F
    · exact ⟨is2, e12.symm, ⟨l2, cs2, en2⟩, ok2, by show T2.nd.siz ≤ 2 * zN i + 2; omega, by show T2.nd.dep ≤ 2 * dN i + 1; omega⟩
  · intro a o g' h' t' l' inv F
    obtain ⟨T1, v1⟩ := a
    obtain ⟨is1, ev1, ⟨l1, cs1, en1⟩, ok1, sz1, dp1⟩ := inv
    dsimp only at is1 ev1 en1 ok1 sz1 dp1 F
    have sz1 : T1.nd.siz ≤ 490 := sz1
    have dp1 : T1.nd.dep ≤ 19 := dp1
    refine xAsgComp (cl := []) (closure_of (by rw [ecl]; decide +kernel)) (by decide +kernel) (hsw_of esc (by decide +kernel)) (eCallF F W (esc ▸ glaw_places) X.places (sCons (ld F (by walk_at "at") (sCons (eTuple (sNil ?_))))))
    refine nTup F (Nat.zero_le _) fun l0 g₃ h₁₁ F le₃ hl0 => sNil ⟨F.kin W, ?_⟩
    refine places_spec X 19 T1.nd (p := []) dp1 (W.mono F.gw.le) (is1.mono le₃) (.tuple hl0 .nil) (by omega) (by simp) F.gw.sub (R.mono (by omega)) fun g₄ h₁₂ t₁₂ rv G isr => ?_
    have F := F.call G
    obtain ⟨lp, pvs, rfl, hlp, hip⟩ := isr.of_list
    have plen := places_len T1.nd []
    have pvl : pvs.length = T1.nd.siz := by rw [← plen]; have := hip.len; simpa using this
    refine iLst F (F.gl' hlp) fun I h₁₃ t₁₃ hI F => ?_
    refine cloop1A (σ := Unit) (P := litr lp) (n := pvs.length) (V := fun i v => pvs[i]? = some v) (μI := fun _ => T1.mu d.tree ++ [(tp, tapeO gT)]) () (fun i outs _ g => IsAll g outs ((((places T1.nd []).take i).filter fun r => !lf r.2).map pyR)) R.handled (by decide +kernel) (zL (by omega)) F hI (fun _ _ _ _ => selfL) (itrSq (.of_list hlp)) .nil
      (fun v => [(Str.ofString "script", some (.ref sc)), (Str.ofString "tape", some (.ref tp)), (Str.ofString "node", some v1), (Str.ofString "tree", some T.val), (Str.ofString "turn", o), (Str.ofString "inner", some v), (Str.ofString "other", none)]) (fun v => by walk_at "put") ?_ ?_
    · intro i v outs _ g' h' t' D C Lo hi hv' l' inv ho F
      obtain ⟨r, lt, pv, nv, er, rfl, ht, ip, inn⟩ := row_at (hip.mono l') hv'
      refine tNot (tVal (eCallB F W (glC (by decide +kernel)) X.isi (sCons (eSub (ld F (by walk_at "at") (eInt fun _ => ?_))))))
      refine tItemU (ht.up F.gw.sub) (by decide) (by decide) rfl rfl ?_
      refine sCons (ldB F W (glC (by decide +kernel)) X.str (sNil ?_))
      refine isiGo (saysW (inn.mono F.gw.sub) rfl).at0 (fun t₅ => tBool ?_) (ne_loader inn)
      refine ⟨(), g', _, _, rfl, Le.refl _, F, ?_⟩
      have e1 : (places T1.nd []).take (i + 1) = (places T1.nd []).take i ++ [r] := by rw [List.take_add_one, er]; rfl
      cases hlf : lf r.2 with
      | false =>
        rw [if_pos (by rfl : (!false) = true)]
        refine ld F (by walk_at "at") (Elt.mk' () (Le.refl _) F ?_)
        rw [e1, List.filter_append, List.map_append]
        refine inv.app ?_
        simp only [List.filter_cons, hlf, Bool.not_false, if_true, List.filter_nil, List.map_cons, List.map_nil]
        exact .one (.tuple ht (.cons ip (.one inn)))
      | true =>
        rw [if_neg (by decide : ¬ (!true) = true)]
        rw [e1, List.filter_append, List.map_append]
        simp only [List.filter_cons, hlf, Bool.not_true, Bool.false_eq_true, if_false, List.filter_nil, List.map_nil, List.append_nil]
        exact inv
    intro ivs _ g₅ h₁₄ t₁₄ E le₅ hii F hE
    rw [List.take_of_length_le (by omega)] at hii
    obtain ⟨g₆, oI, F, le₆, eI, nI, hoI⟩ := F.frz hE
    have hli : g₆.IsList E ivs.toArray := ⟨oI, eI, by rw [hoI], nI, by rw [hoI]⟩
    have hii : IsAll g₆ ivs ((innr T1.nd).map pyR) := hii.mono le₆
    have up6 := ((le₃.trans G.le).trans le₅).trans le₆
    have ilen : ivs.length = (innr T1.nd).length := by have := hii.len; simpa using this
    have iz : (innr T1.nd).length ≤ 490 := by have := List.length_filter_le (fun r : List Nat × Nd => !lf r.2) (places T1.nd []); show (List.filter _ _).length ≤ _; omega
    have ipos : 0 < (innr T1.nd).length := by
      have := at_innr (nd := T1.nd) (p := []) (l := l1) (ds := cs1) (by rw [en1]; rfl)
      exact List.length_pos_of_mem this
    refine xAsg (eCallF F W (esc ▸ glaw_built) X.built (sCons (ld F (by walk_at "at") (sNil ⟨F.kin W, ?_⟩))))
    refine built_spec X Y 19 T1.nd dp1 (W.mono F.gw.le) (is1.mono up6) (by omega) F.gw.sub (R.mono (by omega)) fun h₁₅ t₁₅ T2 G e₂ fr₂ => ?_
    have F := F.adoptT (F.call G) fr₂ F.gw.sub
    refine stL F (by walk_at "put") fun h₁₆ t₁₆ F => ?_
    refine xExpr F.kf (eMeth rfl rfl (by decide) (eSub (ld F (by walk_at "at") (eSub (eSub (ld F (by walk_at "at") (eCallF F W (esc ▸ glaw_take) X.take (sCons (ld F (by walk_at "at") (sCons (eCallB F W (esc ▸ glaw_len) X.len (sCons (ld F (by walk_at "at") (sNil ?_))))))))))))))
    refine cLen (F.gl' hli) (by omega) fun u₁ t₁₇ => sNil ⟨F.kin W, ?_⟩
    refine takeF X WT F (List.mem_append_right _ (List.mem_append_right _ (.head _))) ((lT.trans l').trans up6) (by omega) (R.mono (by omega)) fun h₁₇ t₁₈ ri uri F r0 r1 => ?_
    obtain ⟨r, er⟩ : ∃ r, (innr T1.nd)[ri.toNat]? = some r := ⟨(innr T1.nd)[ri.toNat]'(by omega), List.getElem?_eq_getElem (by omega)⟩
    obtain ⟨lt, pv, nv, ev, ht, ip, inn⟩ := row_of hii er
    obtain ⟨lq, dq, e3, hat⟩ := innr_at (List.mem_of_getElem? er)
    refine tItem (F.gl' hli) r0 (by omega) ev rfl ?_
    refine eInt fun _ => ?_
    refine tItemU (ht.up F.gw.sub) (by decide) (by decide) rfl rfl ?_
    have adp := at_dep r.1 hat
    simp only [Nd.dep] at adp
    refine getPlace X Y W F (e₂ ▸ hat) ip (by omega) (by rw [e₂]; omega) rfl (R.mono (by omega)) fun h₁₈ t₁₉ xa dxa ts F hsub hts => ?_
    have ms := TT.sub_mem (C := d.tree) hsub
    obtain ⟨⟨oxa, oda, a1, a2, a3, a4⟩, gx, gd, ne⟩ := F.ownT (List.mem_append_left _ ms.1) (List.mem_append_left _ ms.2)
    refine get_meth (F.kin W) Y.tree (a2.inst a1 a3) a4 (by decide +kernel) Y.set_label.find Y.set_label.isf (by obtain ⟨n, e⟩ := a2; exact ⟨dxa, by rw [e], a3⟩) (cwF (st := meth 5 10) (F.kin W) (Fn.keep Y.set_label.fn) (sCons (eStr fun _ => sNil ⟨F.kin W, ?_⟩)))
    refine setlabel_spec Y (W.mono F.gw.le) (b := Str.ofString "Z") a1 a2 a3 (.of a4) ne gd F.gw.sub (R.mono (by omega)) fun h₁₉ t₂₀ od' G e1 e2 => ?_
    have F := F.relT G hsub e1 e2
    have okl := at_ok r.1 hat ok1
    simp only [Nd.ok, Bool.and_eq_true] at okl
    have en : (T2.rel (Str.ofString "Z") r.1).nd = T1.nd.rel (Str.ofString "Z") r.1 := by rw [TT.nd_rel, e₂]
    obtain ⟨s1, s2, s3, s4, l5, cs5, s5⟩ := rel_same r.1 (b := Str.ofString "Z") hat
    have hneq := rel_ne r.1 hat (okS_notZ okl.1)
    have tr2 := TT.tr (h := h₁₉) (C := d.tree) (T := T2.rel (Str.ofString "Z") r.1) (fun q hq => (F.mu q (List.mem_append_left _ hq)).1)
    have tr1 := TT.tr (h := h₁₉) (C := d.tree) (T := T1) (fun q hq => (F.mu q (List.mem_append_right _ (List.mem_append_left _ hq))).1)
    rw [en, TT.val_rel, s5] at tr2
    rw [s5] at s4 hneq
    rw [en1] at tr1 s4 hneq sz1 dp1
    rw [ev1] at tr1
    simp only [sameSh] at s4
    simp only [Nd.siz] at sz1
    refine xRet (eNot (eCmp (ld F (by walk_at "at") (ld F (by walk_at "at") ?_))))
    have hzz : sizs cs1 ≤ 10000 := by omega
    refine oEqT X Y (n := 19) (W.mono (F.gw.le.trans F.gw.sub)) tr1 tr2 s4 dp1 hzz (Le.refl _) (R.mono (by omega)) fun h₂₀ t₂₁ L => tBool ?_
    rw [show eqD (Nd.node l1 cs1) (Nd.node l5 cs5) = false from Bool.eq_false_iff.mpr fun z => hneq (eqD_iff.mp z)]
    have F := F.ext L
    obtain ⟨mm, hmm, _⟩ := F.ns
    exact ⟨rfl, _, _, rfl, F.gw.all, mm, hmm⟩
end
end TL

end
section
open PySem PySem.W PyProof.Rows
set_option maxRecDepth 100000
set_option maxHeartbeats 8000000
namespace TL
open_top hd for PySem.Challenge.rw_vo0009_01
end TL
end
section
open PySem PySem.W PyProof.Rows PySem.Calls
set_option maxRecDepth 100000
set_option maxHeartbeats 4000000
set_option linter.unusedVariables false
namespace TL
open TL
def obK (K : Frag) (a : Addr) : Obj := (K.lookup a).getD { cls := .none, data := .freed }
def fdK (K : Frag) (a : Addr) : FuncData := match (obK K a).data with
  | .func fd => fd
  | _ => default
def seK (K : Frag) (a : Addr) : Array Value × Nat := match (obK K a).data with
  | .seq vs n => (vs, n)
  | _ => (#[], 0)
theorem fn_of {K : Frag} {f : Addr} {st : Stmt} (h : K.lookup f = some ⟨(obK K f).cls, (obK K f).dict, .func (fnOf (fdK K f).name (fdK K f).qualname (argsOf st) (bodyOf st) (scopeOf st) .none .none (fdK K f).doc (fdK K f).pyModule (fdK K f).annotations (fdK K f).code (fdK K f).closureTuple), (obK K f).slots⟩)
    (h2 : codeIn K (fdK K f).code (fdK K f).qualname = true) : Fn K f st := ⟨_, _, _, _, _, _, _, _, _, _, h, h2⟩
theorem fnD_of {K : Frag} {f T : Addr} {st : Stmt} (h : K.lookup f = some ⟨(obK K f).cls, (obK K f).dict, .func (fnOf (fdK K f).name (fdK K f).qualname (argsOf st) (bodyOf st) (scopeOf st) (.ref T) .none (fdK K f).doc (fdK K f).pyModule (fdK K f).annotations (fdK K f).code (fdK K f).closureTuple), (obK K f).slots⟩)
    (h2 : codeIn K (fdK K f).code (fdK K f).qualname = true) (h3 : K.lookup T = some (obK K T)) (h4 : (obK K T).data = .seq (seK K T).1 (seK K T).2) (h5 : (seK K T).1 = #[.none]) : FnD K f st := ⟨_, _, _, _, _, _, _, _, _, _, _, _, _, _, h, h2, h3, h4, h5⟩
def dA : Ad := ⟨310, 315, 322, 329, 334, 339, 346, 353, 358, 365, 370, 377, 382, 387, 392, 299, 143, 73⟩
def mA : Md := ⟨162, 211, 218, 225, 232, 239, 253, 275, 282, 289, 296, 169, 91, 98, 105, 35, 42⟩
section
variable (p : Params)
theorem wk {mg mb : Str → Option Value} {h : Heap} (X : (hd.heap_39 p).In h) (G : h.Ns mainGlobals mg) (B : ∀ x : Str, x ≠ "__name__" → mb x = bootBuiltins x) : Wk (hd.heap_39 p) mg mb dA where
  child := ⟨mg_of X G (by kernel_rfl), fn_of (by kernel_rfl) (by kernel_rfl)⟩
  tape := ⟨mg_of X G (by kernel_rfl), fn_of (by kernel_rfl) (by kernel_rfl)⟩
  take := ⟨mg_of X G (by kernel_rfl), fn_of (by kernel_rfl) (by kernel_rfl)⟩
  node := ⟨mg_of X G (by kernel_rfl), fn_of (by kernel_rfl) (by kernel_rfl)⟩
  text := ⟨mg_of X G (by kernel_rfl), fn_of (by kernel_rfl) (by kernel_rfl)⟩
  built := ⟨mg_of X G (by kernel_rfl), fn_of (by kernel_rfl) (by kernel_rfl)⟩
  parts := ⟨mg_of X G (by kernel_rfl), fn_of (by kernel_rfl) (by kernel_rfl)⟩
  read := ⟨mg_of X G (by kernel_rfl), fn_of (by kernel_rfl) (by kernel_rfl)⟩
  written := ⟨mg_of X G (by kernel_rfl), fn_of (by kernel_rfl) (by kernel_rfl)⟩
  again := ⟨mg_of X G (by kernel_rfl), fn_of (by kernel_rfl) (by kernel_rfl)⟩
  agree := ⟨mg_of X G (by kernel_rfl), fn_of (by kernel_rfl) (by kernel_rfl)⟩
  places := ⟨mg_of X G (by kernel_rfl), fn_of (by kernel_rfl) (by kernel_rfl)⟩
  put := ⟨mg_of X G (by kernel_rfl), fn_of (by kernel_rfl) (by kernel_rfl)⟩
  lowest := ⟨mg_of X G (by kernel_rfl), fn_of (by kernel_rfl) (by kernel_rfl)⟩
  edited := ⟨mg_of X G (by kernel_rfl), fn_of (by kernel_rfl) (by kernel_rfl)⟩
  treeC := mg_of X G (by kernel_rfl)
  prodC := mg_of X G (by kernel_rfl)
  nontC := mg_of X G (by kernel_rfl)
  max := ⟨mg_none_of X G (by kernel_rfl), (B _ (by decide)).trans (by kernel_rfl)⟩
  abs := ⟨mg_none_of X G (by kernel_rfl), (B _ (by decide)).trans (by kernel_rfl)⟩
  list := ⟨mg_none_of X G (by kernel_rfl), (B _ (by decide)).trans (by kernel_rfl)⟩
  int := ⟨mg_none_of X G (by kernel_rfl), (B _ (by decide)).trans (by kernel_rfl)⟩
  slice := ⟨mg_none_of X G (by kernel_rfl), (B _ (by decide)).trans (by kernel_rfl)⟩
  tuple := ⟨mg_none_of X G (by kernel_rfl), (B _ (by decide)).trans (by kernel_rfl)⟩
  len := ⟨mg_none_of X G (by kernel_rfl), (B _ (by decide)).trans (by kernel_rfl)⟩
  range := ⟨mg_none_of X G (by kernel_rfl), (B _ (by decide)).trans (by kernel_rfl)⟩
  isi := ⟨mg_none_of X G (by kernel_rfl), (B _ (by decide)).trans (by kernel_rfl)⟩
  str := ⟨mg_none_of X G (by kernel_rfl), (B _ (by decide)).trans (by kernel_rfl)⟩
theorem cl_of {K : Frag} {C : Addr} (h : (clsIn K C).isSome = true) : clsIn K C = some ((clsIn K C).get h) := (Option.some_get h).symm
theorem treeK : TreeK (hd.heap_39 p) 299 where
  cd := ⟨_, cl_of (by kernel_rfl), by kernel_rfl, by kernel_rfl, by kernel_rfl, by kernel_rfl⟩
  ga := by kernel_rfl
  gm := by kernel_rfl
  cls := by kernel_rfl
  lbl := by kernel_rfl
  sa := by kernel_rfl
  it := by kernel_rfl
  ln := by kernel_rfl
  slot := ⟨(obK (hd.heap_39 p) 299).cls, (obK (hd.heap_39 p) 299).dict, (clsIn (hd.heap_39 p) 299).get (by kernel_rfl), (obK (hd.heap_39 p) 299).slots, by kernel_rfl, by kernel_rfl⟩
  call := by kernel_rfl
  typ := by kernel_rfl
theorem plainN : PlainK (hd.heap_39 p) 73 where
  cd := ⟨_, cl_of (by kernel_rfl), by kernel_rfl, by kernel_rfl⟩
  ga := by kernel_rfl
  gm := by kernel_rfl
  cls := by kernel_rfl
  sa := by kernel_rfl
  typ := by kernel_rfl
  makes := by kernel_rfl
theorem plainP : PlainK (hd.heap_39 p) 143 where
  cd := ⟨_, cl_of (by kernel_rfl), by kernel_rfl, by kernel_rfl⟩
  ga := by kernel_rfl
  gm := by kernel_rfl
  cls := by kernel_rfl
  sa := by kernel_rfl
  typ := by kernel_rfl
  makes := by kernel_rfl
theorem tm : TM (hd.heap_39 p) dA mA where
  tree := treeK p
  prod := plainP p
  nont := plainN p
  notS := by kernel_rfl
  keepT := by kernel_rfl
  keepP := by kernel_rfl
  keepN := by kernel_rfl
  initF := by kernel_rfl
  initT := by kernel_rfl
  initD := fnD_of (T := 155) (by kernel_rfl) (by kernel_rfl) (by kernel_rfl) (by kernel_rfl) (by kernel_rfl)
  eq := ⟨by kernel_rfl, by kernel_rfl, fn_of (by kernel_rfl) (by kernel_rfl)⟩
  getitem := ⟨by kernel_rfl, by kernel_rfl, fn_of (by kernel_rfl) (by kernel_rfl)⟩
  giFn := by kernel_rfl
  setitem := ⟨by kernel_rfl, by kernel_rfl, fn_of (by kernel_rfl) (by kernel_rfl)⟩
  label := ⟨by kernel_rfl, by kernel_rfl, fn_of (by kernel_rfl) (by kernel_rfl)⟩
  set_label := ⟨by kernel_rfl, by kernel_rfl, fn_of (by kernel_rfl) (by kernel_rfl)⟩
  leaves := ⟨by kernel_rfl, by kernel_rfl, fn_of (by kernel_rfl) (by kernel_rfl)⟩
  height := ⟨by kernel_rfl, by kernel_rfl, fn_of (by kernel_rfl) (by kernel_rfl)⟩
  prods := ⟨by kernel_rfl, by kernel_rfl, fn_of (by kernel_rfl) (by kernel_rfl)⟩
  pos := ⟨by kernel_rfl, by kernel_rfl, fn_of (by kernel_rfl) (by kernel_rfl)⟩
  leafpos := ⟨by kernel_rfl, by kernel_rfl, fn_of (by kernel_rfl) (by kernel_rfl)⟩
  spanning := ⟨by kernel_rfl, by kernel_rfl, fn_of (by kernel_rfl) (by kernel_rfl)⟩
  sym0 := by kernel_rfl
  lhs0 := by kernel_rfl
  rhs0 := by kernel_rfl
  gaN := by kernel_rfl
  gaP := by kernel_rfl
  pinit := ⟨by kernel_rfl, by kernel_rfl, fn_of (by kernel_rfl) (by kernel_rfl)⟩
  lhs := ⟨by kernel_rfl, by kernel_rfl, fn_of (by kernel_rfl) (by kernel_rfl)⟩
  rhs := ⟨by kernel_rfl, by kernel_rfl, fn_of (by kernel_rfl) (by kernel_rfl)⟩
  ninit := ⟨by kernel_rfl, by kernel_rfl, fn_of (by kernel_rfl) (by kernel_rfl)⟩
  symbol := ⟨by kernel_rfl, by kernel_rfl, fn_of (by kernel_rfl) (by kernel_rfl)⟩
end
end TL

end
section
open PySem PySem.W PyProof.Rows PySem.Calls
set_option maxRecDepth 100000
set_option maxHeartbeats 4000000
set_option linter.unusedVariables false
namespace TL
open TL
theorem kd22 : ∀ x ∈ [Str.ofString "script", Str.ofString "tape", Str.ofString "node", Str.ofString "tree", Str.ofString "turn", Str.ofString "inner", Str.ofString "other"], (scopeOf (stI 22)).names.lookup x = some .local ∧ (x == ("__debug__" : Str)) = false := by decide +kernel
theorem lk22 (v : Value) : ∀ p ∈ [(Str.ofString "script", some v), (Str.ofString "tape", none), (Str.ofString "node", none), (Str.ofString "tree", none), (Str.ofString "turn", none), (Str.ofString "inner", none), (Str.ofString "other", none)], List.lookup p.1 [(Str.ofString "script", v)].reverse = p.2 := by
  intro p hp
  simp only [List.mem_cons, List.not_mem_nil, or_false] at hp
  rcases hp with rfl | rfl | rfl | rfl | rfl | rfl | rfl <;> kernel_rfl
theorem law_top {w : World} {p : Program} {loose : List Str} {mean : ExcName → Option Value} {mg mb : Str → Option Value} {g h : Heap} {c : Shared} {t : Tok} {sc f : Addr} {cd : Value} {nm : Str} {vs : List Value} {ns : List Int}
    (KX : (hd.heap_39 w.params).In g) (T : Top p loose mean mg mb g) (hL : g.IsList sc vs.toArray) (hI : IntsAre vs ns) (hn : ns.length ≤ 63) (F : Fr g g.objs.size h fun x => List.lookup x [(Str.ofString "script", Value.ref sc)].reverse) :
    Wp w (callerA.deeper (envOf nm (scopeOf (stI 22)) g.objs.size f cd)) (execs (bodyOf (stI 22)) (envOf nm (scopeOf (stI 22)) g.objs.size f cd)) (fun fl s' => fl = .ret (.bool true) ∧ ∃ h' t', s' = St c h' t' ∧ Le g h' ∧ ∃ m, h'.Ns g.objs.size m) (St c h t) := by
  refine law_walk (h₀ := g) (g := g) (wk w.params KX T.g T.builtins) (tm w.params) ⟨KX, T.g, T.b, T.nolimit⟩ hL hI hn rfl rfl ?_ ⟨rfl, by show callerA.depth + 1 + 4 * 125 ≤ 990; decide, by show callerA.units + 3 + 50 * 125 ≤ 9800; decide⟩
  exact {
    gw := ⟨Le.refl g, F.keep, fun a o _ e => F.keep a o e, fun a o e => .inl e, fun a e => by
      cases q : g.get? a with
      | none => rfl
      | some o => rw [F.keep a o q] at e; cases e⟩
    ns := ⟨_, F.ns, lk22 _⟩
    offL := none_size g
    newL := none_size g
    mu := fun p hp => nomatch hp
    nd := by
      show ([Str.ofString "script", Str.ofString "tape", Str.ofString "node", Str.ofString "tree", Str.ofString "turn", Str.ofString "inner", Str.ofString "other"] : List Str).Nodup
      decide +kernel
    ndm := .nil
    kd := fun p hp => kd22 p.1 (by
      simp only [List.mem_cons, List.not_mem_nil, or_false] at hp
      rcases hp with rfl | rfl | rfl | rfl | rfl | rfl | rfl <;> simp)
    kf := rfl
    gl := rfl
    bi := rfl }
end TL

end
open PySem PySem.W PyProof.Rows PySem.Calls
set_option maxRecDepth 100000 in
set_option maxHeartbeats 8000000 in
theorem PySem.Challenge.cw_vo0009_01_holds : PySem.Challenge.rw_vo0009_01.Holds :=
  TL.hd (by
    k_go0
    have KX := ‹(TL.hd.heap_39 _).In _›
    have T := ‹Top _ _ _ _ _ _›
    have hI := ‹IntsAre _ _›
    have hL := ‹Heap.IsList _ _ _›
    have F := ‹Fr _ _ _ _›
    have hc := ‹¬ (_ : Int) < _›
    have hg := ‹_ = (#[] : Array _)›
    refine TL.Wp.to (TL.law_top KX T hL hI (by omega) F) ?_
    rintro _ s' ⟨rfl, h', t', rfl, hle, m, hm⟩
    refine goodW_bool ⟨hm, hle, Nat.le_refl _⟩ hg ?_ ?_
    · intro cls; first | rfl | kernel_rfl | (cases cls <;> rfl)
    · first | rfl | kernel_rfl | decide +kernel)
