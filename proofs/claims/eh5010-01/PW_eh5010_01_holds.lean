import PyProof.Rows.All
import Wide.All
import OpenK.AllK
import Wide.FinOn
import KE.KSuper
import KE.KIsAll
import KE.KIntText
import KE.KxDecode
import KE.BytesMulAny
import KE.KxBytes
import KE.KBytesAny
import KE.KBytesWalk
import KE.LcSums
import KE.KStar
import KE.KBoundM
import KE.KDictNew
import KE.KToBytes
import Lean
import PySem.Challenge.RW_eh5010_01
set_option maxRecDepth 100000
set_option Elab.async false
set_option linter.unusedVariables false
set_option linter.unusedSimpArgs false
set_option exponentiation.threshold 2000
namespace Mine
open PySem PySem.W PyProof.Rows PySem.Calls
section
open PySem PySem.W PyProof.Rows
set_option maxRecDepth 100000 in
set_option maxHeartbeats 0 in
open_top hd for PySem.Challenge.rw_eh5010_01
end
section
open PySem PySem.W PyProof.Rows PySem.Calls
/-- the heap's written part -/
noncomputable abbrev KK (w : World) : Frag := Mine.hd.heap_39 w.params
abbrev Prg : Program := PySem.Challenge.pw_eh5010_01

/-- a state over a base -/
def mk (z : Shared) (h : Heap) (t : Nat) : Shared := { z with heap := h, toks := t }

structure Gl (w : World) (h : Heap) : Prop where
  X : (KK w).In h
  T : ∃ p loose mg mb, TopRead p loose mg mb h
theorem Gl.keeps {w : World} {h h' : Heap} (g : Gl w h) (k : h.StaysIn h') : Gl w h' :=
  ⟨g.X.keeps k, let ⟨p, l, mg, mb, T⟩ := g.T; ⟨p, l, mg, mb, T.keeps k⟩⟩

structure Room (A : Around) (n : Nat) : Prop where
  hd : A.handled = none
  fr : ∃ l, A.frames = some l
  dep : A.depth + n < recursionLimit
  un : A.units + 8 * n < cLine
theorem Room.le {A : Around} {n m : Nat} (r : Room A n) (h : m ≤ n) : Room A m :=
  ⟨r.hd, r.fr, by have := r.dep; omega, by have := r.un; omega⟩
theorem Room.deeper {A : Around} {n m : Nat} {env : Env} (r : Room A n) (h : m + 1 ≤ n) : Room (A.deeper env) m :=
  ⟨r.hd, by obtain ⟨l, e⟩ := r.fr; exact ⟨env :: l, by show A.frames.map (env :: ·) = _; rw [e]; rfl⟩,
   by have := r.dep; show A.depth + 1 + m < _; omega, by have := r.un; show A.units + 3 + 8 * m < _; omega⟩
theorem Room.in1 {A : Around} {n m : Nat} (r : Room A n) (h : m + 1 ≤ n) : Room A.in1 m :=
  ⟨r.hd, r.fr, by have := r.dep; show A.depth + m < _; omega, by have := r.un; show A.units + 1 + 8 * m < _; omega⟩
theorem Room.depth {A : Around} {n : Nat} (r : Room A n) : A.depth < recursionLimit := by have := r.dep; omega
theorem Room.units {A : Around} {n : Nat} (r : Room A n) : A.units < cLine := by have := r.un; omega

/-- the aligned locals -/
def look : List Str → List (Option Value) → Str → Option Value
  | n :: ns, v :: vs, x => if x = n then v else look ns vs x
  | _, _, _ => none

inductive At : List Str → List (Option Value) → Str → Value → Prop
  | here {x : Str} {v : Value} {ns : List Str} {vs : List (Option Value)} : At (x :: ns) (some v :: vs) x v
  | next {x y : Str} {v : Value} {u : Option Value} {ns : List Str} {vs : List (Option Value)} : At ns vs x v → At (y :: ns) (u :: vs) x v
inductive Put : List Str → List (Option Value) → Str → Value → List (Option Value) → Prop
  | here {x : Str} {v : Value} {u : Option Value} {ns : List Str} {vs : List (Option Value)} : Put (x :: ns) (u :: vs) x v (some v :: vs)
  | next {x y : Str} {v : Value} {u : Option Value} {ns : List Str} {vs vs' : List (Option Value)} : Put ns vs x v vs' → Put (y :: ns) (u :: vs) x v (u :: vs')

theorem At.mem {ns vs x v} (a : At ns vs x v) : x ∈ ns := by
  induction a with
  | here => exact .head _
  | next _ ih => exact .tail _ ih
theorem Put.mem {ns vs x v vs'} (a : Put ns vs x v vs') : x ∈ ns := by
  induction a with
  | here => exact .head _
  | next _ ih => exact .tail _ ih
theorem Put.len {ns vs x v vs'} (a : Put ns vs x v vs') : vs'.length = vs.length := by
  induction a with
  | here => rfl
  | next _ ih => simp [ih]
theorem At.look {ns vs x v} (a : At ns vs x v) (hn : ns.Nodup) : Mine.look ns vs x = some v := by
  induction a with
  | here => simp [Mine.look]
  | @next x y v u ns vs a ih =>
    have hn' := List.nodup_cons.mp hn
    have : x ≠ y := fun e => hn'.1 (e ▸ a.mem)
    simp only [Mine.look, if_neg this]
    exact ih hn'.2
theorem Put.look {ns vs x v vs'} (a : Put ns vs x v vs') (hn : ns.Nodup) : (fun y => if y = x then some v else Mine.look ns vs y) = Mine.look ns vs' := by
  induction a with
  | here => funext y; simp only [Mine.look]; split <;> simp_all
  | @next x y v u ns vs vs' a ih =>
    have hn' := List.nodup_cons.mp hn
    have hne : x ≠ y := fun e => hn'.1 (e ▸ a.mem)
    funext k
    have := congrFun (ih hn'.2) k
    simp only [Mine.look]
    by_cases h1 : k = x
    · subst h1; simp only [if_true, if_neg hne] at this ⊢; exact this
    · simp only [if_neg h1] at this ⊢
      by_cases h2 : k = y
      · simp [h2]
      · simp only [if_neg h2]; exact this

structure Fn (env : Env) (L : Addr) (ns gs : List Str) : Prop where
  kind : env.scope.kind = .function
  nodup : ns.Nodup
  loc : ∀ x ∈ ns, env.kindOf x = some .local
  glo : ∀ x ∈ gs, env.kindOf x = some .globalImplicit
  dbg : ∀ x ∈ ns, (x == ("__debug__" : Str)) = false
  dbg' : ∀ x ∈ gs, (x == ("__debug__" : Str)) = false
  locals : env.locals = L
  globals : env.globals = mainGlobals
  builtins : env.builtins = builtinsNs
  frame : env.frame = env.frame

structure St (w : World) (h₀ : Heap) (L : Addr) (ns : List Str) (vs : List (Option Value)) (N : List (Addr × Obj)) (h : Heap) : Prop where
  F : Fr h₀ L h (look ns vs)
  W : News h₀ L h N
  G₀ : Gl w h₀
  nd : (N.map (·.1)).Nodup
  len : vs.length = ns.length

theorem St.G {w h₀ L ns vs N h} (S : St w h₀ L ns vs N h) : Gl w h := S.G₀.keeps S.F.keep

section
variable {w : World} {A : Around} {E : Value → Shared → Prop} {z : Shared} {h h₀ : Heap} {t : Nat} {L : Addr} {env : Env}
  {ns gs : List Str} {vs vs' : List (Option Value)} {N : List (Addr × Obj)}

theorem St.stays (S : St w h₀ L ns vs N h) {h' : Heap} (k : h.StaysIn h') : St w h₀ L ns vs N h' :=
  ⟨⟨S.F.ns.keeps k, fun b o e => k b o (S.F.keep b o e), S.F.above⟩, fun p hp => ⟨k _ _ (S.W p hp).1, (S.W p hp).2⟩, S.G₀, S.nd, S.len⟩
/-- one object more -/
theorem St.add (S : St w h₀ L ns vs N h) {h' : Heap} {a : Addr} {o : Obj} (k : h.StaysIn h') (ho : h'.get? a = some o) (hn : h.get? a = none) : St w h₀ L ns vs ((a, o) :: N) h' := by
  refine ⟨(S.stays k).F, fun p hp => ?_, S.G₀, ?_, S.len⟩
  · rcases List.mem_cons.mp hp with rfl | hp
    · refine ⟨ho, fun e => ?_, ?_⟩
      · obtain ⟨oL, _, _, hL, _⟩ := S.F.ns
        rw [show a = L from e, hL] at hn; cases hn
      · cases q : h₀.get? a with
        | none => rfl
        | some o' => rw [S.F.keep _ _ q] at hn; cases hn
    · exact (S.stays k).W p hp
  · refine List.nodup_cons.mpr ⟨fun q => ?_, S.nd⟩
    obtain ⟨p, hp, e⟩ := List.mem_map.mp q
    have := (S.W p hp).1
    rw [show p.1 = a from e, hn] at this; cases this
theorem St.tail {p : Addr × Obj} (S : St w h₀ L ns vs (p :: N) h) : St w h₀ L ns vs N h := ⟨S.F, fun q hq => S.W q (.tail _ hq), S.G₀, (List.nodup_cons.mp S.nd).2, S.len⟩
theorem St.sub (S : St w h₀ L ns vs N h) {N' : List (Addr × Obj)} (hs : ∀ p ∈ N', p ∈ N) (hd : (N'.map (·.1)).Nodup) : St w h₀ L ns vs N' h := ⟨S.F, fun p hp => S.W p (hs p hp), S.G₀, hd, S.len⟩

theorem x_load {x : Str} {pos : Pos} {v : Value} {Q : Value → Shared → Prop} (C : Fn env L ns gs) (S : St w h₀ L ns vs N h) (a : At ns vs x v) (k : Q v (mk z h t)) :
    wpAny (model Prg w) A (eval (.Name x pos) env) Q E (mk z h t) := by
  obtain rfl := C.locals
  exact wpAny_Name (wpAny_loadName_local C.kind (C.loc x a.mem) S.F.ns (a.look C.nodup) k) (C.dbg x a.mem)
theorem x_loadN {x : Str} {v : Value} {Q : Value → Shared → Prop} (C : Fn env L ns gs) (S : St w h₀ L ns vs N h) (a : At ns vs x v) (k : Q v (mk z h t)) :
    wpAny (model Prg w) A (loadName env x) Q E (mk z h t) := by
  obtain rfl := C.locals
  exact wpAny_loadName_local C.kind (C.loc x a.mem) S.F.ns (a.look C.nodup) k
theorem x_store {x : Str} {v : Value} {Q : Unit → Shared → Prop} (C : Fn env L ns gs) (S : St w h₀ L ns vs N h) (p : Put ns vs x v vs')
    (k : ∀ h' t', St w h₀ L ns vs' N h' → Q () (mk z h' t')) :
    wpAny (model Prg w) A (storeName env x v) Q E (mk z h t) := by
  obtain rfl := C.locals
  exact wpAny_storeName_local (C.loc x p.mem) S.F.ns (fun h' hn hs => k h' _ ⟨p.look C.nodup ▸ S.F.set hn hs, S.W.set hs, S.G₀, S.nd, p.len.trans S.len⟩)
    (by rw [C.kind]; rfl)
end
end
section
open PySem PySem.W PyProof.Rows PySem.Calls
/-- a name of the top that is one of its defs or classes -/
structure GF (w : World) (x : Str) (f : Addr) : Prop where
  glob : nsIn (KK w) mainGlobals x = some (some (.ref f))
  keep : keepIn (KK w) (.ref f) = true
/-- a built-in's name -/
structure BI (w : World) (x : Str) (v : Value) : Prop where
  none : nsIn (KK w) mainGlobals x = some Option.none
  boot : bootBuiltins x = some v
  name : x ≠ "__name__"
/-- a name of the top that holds any value -/
structure GV (w : World) (x : Str) (v : Value) : Prop where
  glob : nsIn (KK w) mainGlobals x = some (some v)

def initL : List (Str × Value) → List Str → List (Option Value)
  | b :: bs, _ :: ns => some b.2 :: initL bs ns
  | [], _ :: ns => none :: initL [] ns
  | _, [] => []
def initOk : List (Str × Value) → List Str → Prop
  | b :: bs, n :: ns => b.1 = n ∧ initOk bs ns
  | [], _ => True
  | _, _ => False
theorem initL_len : ∀ (bs : List (Str × Value)) (ns : List Str), (initL bs ns).length = ns.length
  | _ :: bs, _ :: ns => by simp [initL, initL_len bs ns]
  | [], _ :: ns => by simp [initL, initL_len [] ns]
  | [], [] => rfl
  | _ :: _, [] => rfl
theorem initL_nil (ns : List Str) : look ns (initL [] ns) = fun _ => none := by
  induction ns with
  | nil => rfl
  | cons n ns ih => funext x; simp only [initL, look]; rw [ih]; simp
theorem look_init : ∀ (bs : List (Str × Value)) (ns : List Str), initOk bs ns → ns.Nodup → (fun x => bs.reverse.lookup x) = look ns (initL bs ns)
  | [], ns, _, _ => by rw [initL_nil]; rfl
  | (bn, bv) :: bs, n :: ns, ⟨e, ok⟩, hn => by
    replace e : bn = n := e
    subst e
    have hn' := List.nodup_cons.mp hn
    have ih := look_init bs ns ok hn'.2
    funext x
    simp only [initL, look, List.reverse_cons]
    rw [List.lookup_append, congrFun ih x]
    have keys : ∀ (bs : List (Str × Value)) (ns : List Str), initOk bs ns → ∀ x, x ∉ ns → look ns (initL bs ns) x = none := by
      intro bs ns
      induction ns generalizing bs with
      | nil => intro _ x _; cases bs <;> rfl
      | cons m ms ihm =>
        intro ok x hx
        have h1 : x ≠ m := fun q => hx (q ▸ .head _)
        have h2 : x ∉ ms := fun q => hx (.tail _ q)
        cases bs with
        | nil => simp only [initL, look, if_neg h1]; exact ihm [] trivial x h2
        | cons b bs => simp only [initL, look, if_neg h1]; exact ihm bs ok.2 x h2
    by_cases h : x = bn
    · subst h
      rw [keys bs ns ok x hn'.1]
      simp
    · have : (x == bn) = false := by simpa using h
      simp [List.lookup_cons, this, if_neg h]
  | _ :: _, [], ok, _ => ok.elim

section
variable {w : World} {A : Around} {E : Value → Shared → Prop} {z : Shared} {h h₀ : Heap} {t : Nat} {L : Addr} {env : Env}
  {ns gs : List Str} {vs vs' : List (Option Value)} {N : List (Addr × Obj)}

theorem x_glob {x : Str} {pos : Pos} {v : Value} {Q : Value → Shared → Prop} (C : Fn env L ns gs) (S : St w h₀ L ns vs N h) (hx : x ∈ gs) (g : GV w x v) (k : Q v (mk z h t)) :
    wpAny (model Prg w) A (eval (.Name x pos) env) Q E (mk z h t) := by
  obtain ⟨p, lo, mg, mb, T⟩ := S.G.T
  exact Name_function_global C.kind (C.glo x hx) (loadGlobal_global (mg := mg) (by rw [C.globals]; exact T.g) (mg_of S.G.X T.g g.glob) k) (C.dbg' x hx)
theorem GF.v {x : Str} {a : Addr} (g : GF w x a) : GV w x (.ref a) := ⟨g.glob⟩
theorem x_bi {x : Str} {pos : Pos} {v : Value} {Q : Value → Shared → Prop} (C : Fn env L ns gs) (S : St w h₀ L ns vs N h) (hx : x ∈ gs) (g : BI w x v) (k : Q v (mk z h t)) :
    wpAny (model Prg w) A (eval (.Name x pos) env) Q E (mk z h t) := by
  obtain ⟨p, lo, mg, mb, T⟩ := S.G.T
  exact Name_function_global C.kind (C.glo x hx) (loadGlobal_builtin (mg := mg) (mb := mb) (by rw [C.globals]; exact T.g) (mg_none_of S.G.X T.g g.none) (by rw [C.builtins]; exact T.b) ((T.builtins x g.name).trans g.boot) k) (C.dbg' x hx)

/-- a call of one of the text's defs by its name -/
theorem x_callf {x : Str} {p pos : Pos} {a : Addr} {e : Expr} {args : List Expr} {Q : Value → Shared → Prop} (C : Fn env L ns gs) (S : St w h₀ L ns vs N h) (hx : x ∈ gs) (g : GF w x a)
    (k : wpAny (model Prg w) A (spliced (backTo pos (starEach (e :: args) env))) (fun vs s₁ => (KK w).In s₁.heap ∧ wpAny (model Prg w) A (call (.ref a) vs) Q E s₁) E (mk z h t))
    (he : starEach (e :: args) env = (false, eval e env) :: starEach args env := by rfl)
    (hp : (backTo pos (starEach args env)).any (·.1) = false := by rfl) :
    wpAny (model Prg w) A (eval (.Call (.Name x p) (e :: args) [] pos) env) Q E (mk z h t) :=
  Call_Name rfl (x_glob C S hx g.v (callWith_K S.G.X g.keep k he hp))
theorem x_callf0 {x : Str} {p pos : Pos} {a : Addr} {Q : Value → Shared → Prop} (C : Fn env L ns gs) (S : St w h₀ L ns vs N h) (hx : x ∈ gs) (g : GF w x a)
    (k : wpAny (model Prg w) A (call (.ref a) []) Q E (mk z h t)) :
    wpAny (model Prg w) A (eval (.Call (.Name x p) [] [] pos) env) Q E (mk z h t) :=
  Call_Name rfl (x_glob C S hx g.v (callWith_K0 S.G.X g.keep k))
/-- a call of a built-in type or function by its name -/
theorem x_callT {x : Str} {p pos : Pos} {T : String} {e : Expr} {args : List Expr} {Q : Value → Shared → Prop} (C : Fn env L ns gs) (S : St w h₀ L ns vs N h) (hx : x ∈ gs) (g : BI w x (.type T))
    (k : wpAny (model Prg w) A (spliced (backTo pos (starEach (e :: args) env))) (fun vs s₁ => wpAny (model Prg w) A (call (.type T) vs) Q E s₁) E (mk z h t))
    (he : starEach (e :: args) env = (false, eval e env) :: starEach args env := by rfl)
    (hp : (backTo pos (starEach args env)).any (·.1) = false := by rfl) :
    wpAny (model Prg w) A (eval (.Call (.Name x p) (e :: args) [] pos) env) Q E (mk z h t) :=
  Call_Name rfl (x_bi C S hx g (PyProof.Rows.callWith_type1 k he hp))
theorem x_callB {x : Str} {p pos : Pos} {T : String} {e : Expr} {args : List Expr} {Q : Value → Shared → Prop} (C : Fn env L ns gs) (S : St w h₀ L ns vs N h) (hx : x ∈ gs) (g : BI w x (.builtin T))
    (k : wpAny (model Prg w) A (spliced (backTo pos (starEach (e :: args) env))) (fun vs s₁ => wpAny (model Prg w) A (call (.builtin T) vs) Q E s₁) E (mk z h t))
    (he : starEach (e :: args) env = (false, eval e env) :: starEach args env := by rfl)
    (hp : (backTo pos (starEach args env)).any (·.1) = false := by rfl) :
    wpAny (model Prg w) A (eval (.Call (.Name x p) (e :: args) [] pos) env) Q E (mk z h t) :=
  Call_Name rfl (x_bi C S hx g (PyProof.Rows.callWith_builtin1 k he hp))
theorem x_callGB {x : Str} {p pos : Pos} {T : String} {e : Expr} {args : List Expr} {Q : Value → Shared → Prop} (C : Fn env L ns gs) (S : St w h₀ L ns vs N h) (hx : x ∈ gs) (g : GV w x (.builtin T))
    (k : wpAny (model Prg w) A (spliced (backTo pos (starEach (e :: args) env))) (fun vs s₁ => wpAny (model Prg w) A (call (.builtin T) vs) Q E s₁) E (mk z h t))
    (he : starEach (e :: args) env = (false, eval e env) :: starEach args env := by rfl)
    (hp : (backTo pos (starEach args env)).any (·.1) = false := by rfl) :
    wpAny (model Prg w) A (eval (.Call (.Name x p) (e :: args) [] pos) env) Q E (mk z h t) :=
  Call_Name rfl (x_glob C S hx g (PyProof.Rows.callWith_builtin1 k he hp))

theorem x_int {i : Int} {kk : Nat} {pos : Pos} {env : Env} {Q : Value → Shared → Prop} (k : Q (.int i t) (mk z h (t + 1))) : wpAny (model Prg w) A (eval (.Constant (.int i) kk pos) env) Q E (mk z h t) := wpAny_Constant_int k
theorem x_str {i : Str} {kk : Nat} {pos : Pos} {env : Env} {Q : Value → Shared → Prop} (k : Q (.str i t) (mk z h (t + 1))) : wpAny (model Prg w) A (eval (.Constant (.str i) kk pos) env) Q E (mk z h t) := wpAny_Constant_str k
theorem x_bytes {i : List UInt8} {kk : Nat} {pos : Pos} {env : Env} {Q : Value → Shared → Prop} (k : Q (.bytes i.toArray t) (mk z h (t + 1))) : wpAny (model Prg w) A (eval (.Constant (.bytes i) kk pos) env) Q E (mk z h t) := Constant_bytes k
theorem x_none {kk : Nat} {pos : Pos} {env : Env} {Q : Value → Shared → Prop} (k : Q .none (mk z h t)) : wpAny (model Prg w) A (eval (.Constant .none kk pos) env) Q E (mk z h t) := wpAny_Constant_none k
theorem x_bool {b : Bool} {kk : Nat} {pos : Pos} {env : Env} {Q : Value → Shared → Prop} (k : Q (.bool b) (mk z h t)) : wpAny (model Prg w) A (eval (.Constant (.bool b) kk pos) env) Q E (mk z h t) := wpAny_Constant_bool k

theorem x_spnil {pos : Pos} {Q : List Value → Shared → Prop} (k : Q [] (mk z h t)) : wpAny (model Prg w) A (spliced (backTo pos (starEach [] env))) Q E (mk z h t) := wpAny_items_nil k

structure Sc (scope : Scope) (ns gs : List Str) : Prop where
  kind : scope.kind = .function
  nodup : ns.Nodup
  loc : ∀ x ∈ ns, scope.names.lookup x = some .local
  glo : ∀ x ∈ gs, scope.names.lookup x = some .globalImplicit
  dbg : ∀ x ∈ ns, (x == ("__debug__" : Str)) = false
  dbg' : ∀ x ∈ gs, (x == ("__debug__" : Str)) = false
  cell : ∀ x ∈ scope.names, x.2 ≠ .cell
  co : scope.isCoroutine = false
  gen : scope.isGenerator = false

/-- entering a def -/
theorem enter {n : Nat} {name qual : Str} {params : Arguments} {body : List Stmt} {scope : Scope} {cl : List (Str × Addr)} {dV kV doc pm cdv ct oc : Value} {an od : Option Addr} {osl : Array (Option Value)} {f : Addr}
    {args : List Value} {kw : List (Str × Value)} {binds : List (Str × Value)} {Q : Value → Shared → Prop} (ns gs : List Str)
    (ho : (KK w).lookup f = some ⟨oc, od, .func (fnX name qual params body scope cl dV kV doc pm an cdv ct), osl⟩) (r : Room A (n + 1)) (G : Gl w h) (hcd : codeIn (KK w) cdv qual = true)
    (hbind : BindsTo (mk z h t) (fnX name qual params body scope cl dV kV doc pm an cdv ct) ⟨args, kw⟩ binds) (C : Sc scope ns gs) (hi : initOk binds ns)
    (k : ∀ A' L h' t' env, env = envX qual scope L f cdv cl → Room A' n → (∃ l, A'.frames = some (env :: l)) → Fn env L ns gs → St w h L ns (initL binds ns) [] h' →
      wpAny (model Prg w) A' (execs body env) (fun fl s' => Q (match fl with | .ret v => v | _ => .none) s') (fun _ _ => False) (mk z h' t')) :
    wpAny (model Prg w) A (call (.ref f) args kw) Q E (mk z h t) := by
  obtain ⟨p, lo, mg, mb, T⟩ := G.T
  have hb : ∀ (bs : List (Str × Value)) (ns : List Str), initOk bs ns → ∀ x ∈ bs, x.1 ∈ ns := by
    intro bs
    induction bs with
    | nil => intro _ _ x hx; cases hx
    | cons b bs ih =>
      intro ns ok x hx
      cases ns with
      | nil => exact ok.elim
      | cons n ns =>
        rcases List.mem_cons.mp hx with rfl | hx
        · rw [ok.1]; exact .head _
        · exact .tail _ (ih ns ok.2 x hx)
  refine wpAny_call ?_
  refine codeAny_call_def (s := mk z h t) (fd := fnX name qual params body scope cl dV kV doc pm an cdv ct) (body := body) (binds := binds) r.depth (G.X _ _ ho) rfl T.nolimit (codeRec_of G.X hcd) rfl hbind C.cell
    (fun x hx => C.loc _ (hb _ _ hi x hx)) (fun h₁ hns hk => ?_) C.co C.gen C.kind
  obtain ⟨l, hl⟩ := r.fr
  refine wpAny_mono (k (A.deeper (envX qual scope h.objs.size f cdv cl)) h.objs.size h₁ _ _ rfl (r.deeper (Nat.le_refl _)) ⟨l, by show A.frames.map _ = _; rw [hl]; rfl⟩
    ⟨C.kind, C.nodup, C.loc, C.glo, C.dbg, C.dbg', rfl, rfl, rfl, rfl⟩ ⟨⟨look_init binds ns hi C.nodup ▸ hns, hk, Nat.le_refl _⟩, News.nil, G, List.nodup_nil, initL_len _ _⟩) (fun fl s' q => ?_) fun _ _ q => q.elim
  cases fl <;> exact q
end
end
section
open PySem PySem.W PyProof.Rows PySem.Calls
/-- no exception -/
abbrev NoE : Value → Shared → Prop := fun _ _ => False

section
variable {w : World} {A : Around} {E : Value → Shared → Prop} {z : Shared} {h h₀ : Heap} {t : Nat} {L : Addr}
  {ns gs : List Str} {vs vs' : List (Option Value)} {N : List (Addr × Obj)} {env : Env}

theorem no_raise {α : Type} {T : Sem α} {Q : α → Shared → Prop} {s : Shared} (k : wpAny (model Prg w) A T Q NoE s) : wpAny (model Prg w) A T Q E s :=
  wpAny_mono k (fun _ _ x => x) fun _ _ x => x.elim

/-- what a loop's turn leaves -/
def Turned (w : World) (z : Shared) (h₀ : Heap) (L : Addr) (ns : List Str) (IO : Addr × Obj) (Inv : List (Option Value) → List (Addr × Obj) → Prop) (f : Flow) (s' : Shared) : Prop :=
  (f = .next ∨ f = .cont) ∧ ∃ vs N h t, s' = mk z h t ∧ St w h₀ L ns vs (IO :: N) h ∧ Inv vs N

theorem Turned.mk' {IO : Addr × Obj} {Inv : List (Option Value) → List (Addr × Obj) → Prop} (S : St w h₀ L ns vs (IO :: N) h) (i : Inv vs N) : Turned w z h₀ L ns IO Inv .next (mk z h t) :=
  ⟨.inl rfl, vs, N, h, t, rfl, S, i⟩

theorem loop_walks {target : Expr} {body : List Stmt} {R : Result → Shared → Prop} {I : Addr} {fp : List Addr} {n : Nat} {P : Nat → Value → Prop} {Stt : Nat → Heap → Prop}
    (hL : env.locals = L) (W : Walks Prg w A I fp [I] n P Stt) (hI : ∀ i h, Stt i h → ∃ o, h.get? I = some o)
    (old : List (Addr × Obj)) (hfp : ∀ b ∈ fp, b = I ∨ (∃ o, h₀.get? b = some o) ∨ ∃ o, (b, o) ∈ old)
    (Inv : Nat → List (Option Value) → List (Addr × Obj) → Prop) (hold : ∀ i vs N, Inv i vs N → ∀ p ∈ old, p ∈ N)
    (hgo : ∀ v, letOwnedTupleGo target (.ref I) v = pure ())
    (S : St w h₀ L ns vs N h) (hnew : h₀.get? I = none) (hIL : I ≠ L) (hIN : ∀ p ∈ N, p.1 ≠ I) (st : Stt 0 h) (h0 : Inv 0 vs N)
    (step : ∀ i v vs N h t o, i < n → P i v → Inv i vs N → St w h₀ L ns vs ((I, o) :: N) h →
      wpAny (model Prg w) A (assign target env v) (fun _ s₁ => wpAny (model Prg w) A (execs body env) (Turned w z h₀ L ns (I, o) (Inv (i + 1))) NoE s₁) NoE (mk z h t))
    (done : ∀ vs N h t, Inv n vs N → St w h₀ L ns vs N h → R (.ok .next) (mk z h t)) :
    codeAny (model Prg w) A (.forLoop target (.ref I) body [] env) R (mk z h t) := by
  subst hL
  refine codeAny_forLoop_any
    (fun k s' => ∃ i vs N h t, s' = mk z h t ∧ Stt i h ∧ St w h₀ env.locals ns vs N h ∧ (∀ p ∈ N, p.1 ≠ I) ∧ Inv i vs N ∧ i ≤ n ∧ k = n + 1 - i) ?_ (n + 1)
    ⟨0, vs, N, h, t, rfl, st, S, hIN, h0, Nat.zero_le _, rfl⟩
  rintro k s' ⟨i, vs, N, h, t, rfl, st, S, hIN, hJ, hi, rfl⟩
  have next : ∀ h₁ : Heap, (∀ b o, b ∉ [I] → h.get? b = some o → h₁.get? b = some o) → St w h₀ env.locals ns vs N h₁ := fun h₁ hk =>
    ⟨⟨S.F.ns.at' fun o e => hk _ o (by simpa using hIL.symm) e, fun b o e => hk b o (by intro q; rw [List.mem_singleton.mp q, hnew] at e; cases e) (S.F.keep b o e), S.F.above⟩,
     fun p hp => ⟨hk _ _ (by simpa using hIN p hp) (S.W p hp).1, (S.W p hp).2⟩, S.G₀, S.nd, S.len⟩
  by_cases hlt : i < n
  · refine W.item i _ _ _ hlt st fun v h₁ tk₁ hP st₁ hk₁ => ?_
    have S₁ := next h₁ hk₁
    obtain ⟨o, ho⟩ := hI _ _ st₁
    have S₂ : St w h₀ env.locals ns vs ((I, o) :: N) h₁ := ⟨S₁.F, fun p hp => by
      rcases List.mem_cons.mp hp with rfl | hp
      · exact ⟨ho, hIL, hnew⟩
      · exact S₁.W p hp, S₁.G₀, List.nodup_cons.mpr ⟨fun q => by
        obtain ⟨p, hp, e⟩ := List.mem_map.mp q
        exact hIN p hp e, S.nd⟩, S₁.len⟩
    show wpAny (model Prg w) A (letOwnedTupleGo target (.ref I) v) _ _ _
    rw [hgo]
    refine wpAny_pure (no_raise (wpAny_mono (step i v vs N h₁ tk₁ o hlt hP hJ S₂) (fun _ s₂ h₂ => no_raise (wpAny_mono h₂ (fun f s₃ h₃ => ?_) fun _ _ e => e)) fun _ _ e => e))
    obtain ⟨hf, vs', N', h', t', rfl, S', J'⟩ := h₃
    have fin : ∃ m, m < n + 1 - i ∧ ∃ i vs N h t, mk z h' t' = mk z h t ∧ Stt i h ∧ St w h₀ env.locals ns vs N h ∧ (∀ p ∈ N, p.1 ≠ I) ∧ Inv i vs N ∧ i ≤ n ∧ m = n + 1 - i := by
      refine ⟨n + 1 - (i + 1), by omega, i + 1, vs', N', h', t', rfl, ?_, S'.tail, ?_, J', hlt, rfl⟩
      · refine W.frame _ _ _ st₁ fun b hb o' e => ?_
        rcases hfp b hb with rfl | ⟨o₀, q⟩ | ⟨o₀, q⟩
        · rw [ho] at e; cases e
          exact (S'.W _ (.head _)).1
        · have e1 := S₁.F.keep b o₀ q
          rw [e] at e1; cases e1
          exact S'.F.keep b _ q
        · have e1 := (S₁.W _ (hold i vs N hJ _ q)).1
          rw [show h₁.get? b = some o' from e] at e1; cases e1
          exact (S'.W _ (.tail _ (hold (i + 1) vs' N' J' _ q))).1
      · intro p hp q
        exact (List.nodup_cons.mp S'.nd).1 (List.mem_map.mpr ⟨p, hp, q⟩)
    rcases hf with rfl | rfl
    · exact fin
    · exact fin
  · have hin : i = n := by omega
    subst hin
    refine W.done _ _ _ st fun h₁ tk₁ hk₁ => wpAny_execs_nil ?_
    exact done vs N h₁ tk₁ hJ (next h₁ hk₁)
end
end
section
open PySem PySem.W PyProof.Rows PySem.Calls
/-- after a statement: the rest, or out -/
def thenDo (w : World) (A : Around) (env : Env) (rest : List Stmt) (Q : Flow → Shared → Prop) (E : Value → Shared → Prop) (f : Flow) (s : Shared) : Prop :=
  match f with
  | .next => wpAny (model Prg w) A (execs rest env) Q E s
  | f => Q f s
/-- a branch -/
def Br (P1 P2 : Shared → Prop) (b : Bool) (s : Shared) : Prop := (b = true → P1 s) ∧ (b = false → P2 s)
theorem br_t {P1 P2 : Shared → Prop} {b : Bool} {s : Shared} (e : b = true) (k : P1 s) : Br P1 P2 b s := ⟨fun _ => k, fun q => (by rw [e] at q; cases q)⟩
theorem br_f {P1 P2 : Shared → Prop} {b : Bool} {s : Shared} (e : b = false) (k : P2 s) : Br P1 P2 b s := ⟨fun q => (by rw [e] at q; cases q), fun _ => k⟩
theorem br_d {P1 P2 : Shared → Prop} {p : Prop} [Decidable p] {s : Shared} (k1 : p → P1 s) (k2 : ¬ p → P2 s) : Br P1 P2 (decide p) s := ⟨fun q => k1 (of_decide_eq_true q), fun q => k2 (of_decide_eq_false q)⟩
theorem br_dt {P1 P2 : Shared → Prop} {p : Prop} [Decidable p] {s : Shared} (e : p) (k : P1 s) : Br P1 P2 (decide p) s := br_t (decide_eq_true e) k
theorem br_df {P1 P2 : Shared → Prop} {p : Prop} [Decidable p] {s : Shared} (e : ¬ p) (k : P2 s) : Br P1 P2 (decide p) s := br_f (decide_eq_false e) k

theorem br_ite {P1 P2 : Shared → Prop} {b : Bool} {s : Shared} (q : Br P1 P2 b s) : if b = true then P1 s else P2 s := by
  cases b
  · exact q.2 rfl
  · exact q.1 rfl

section
variable {w : World} {A : Around} {E : Value → Shared → Prop} {z : Shared} {h h₀ : Heap} {t : Nat} {L : Addr} {env : Env} {s : Shared}
  {ns gs : List Str} {vs vs' : List (Option Value)} {N : List (Addr × Obj)} {Q : Flow → Shared → Prop} {rest : List Stmt}

theorem s_nil (k : Q .next s) : wpAny (model Prg w) A (execs [] env) Q E s := wpAny_execs_nil k
theorem s_nilT (k : wpAny (model Prg w) A (execs rest env) Q E s) : wpAny (model Prg w) A (execs [] env) (thenDo w A env rest Q E) E s := wpAny_execs_nil k
theorem s_cons {st : Stmt} (k : wpAny (model Prg w) A (exec st env) (thenDo w A env rest Q E) E s) : wpAny (model Prg w) A (execs (st :: rest) env) Q E s :=
  wpAny_execs_cons (wpAny_mono k (fun f s' q => by cases f <;> exact q) fun _ _ x => x)
theorem s_assign {x : Str} {p' pos : Pos} {value : Expr}
    (k : wpAny (model Prg w) A (eval value env) (fun v s₁ => wpAny (model Prg w) A (storeName env x v) (fun _ s₂ => wpAny (model Prg w) A (execs rest env) Q E s₂) E s₁) E s)
    (hs : swapsWith value (some (.Name x p')) pos.line env = pure false) :
    wpAny (model Prg w) A (execs (.Assign [.Name x p'] value pos :: rest) env) Q E s := s_cons (wpAny_Assign_Name k hs)
theorem s_aug {x : Str} {p' pos : Pos} {op : Operator} {value : Expr}
    (k : wpAny (model Prg w) A (loadName env x) (fun old s₁ => wpAny (model Prg w) A (eval value env) (fun v s₂ => wpAny (model Prg w) A (inplaceOp op old v)
      (fun r s₃ => wpAny (model Prg w) A (storeName env x r) (fun _ s₄ => wpAny (model Prg w) A (execs rest env) Q E s₄) E s₃) E s₂) E s₁) E s) :
    wpAny (model Prg w) A (execs (.AugAssign (.Name x p') op value pos :: rest) env) Q E s := s_cons (wpAny_AugAssign_Name k)
theorem s_if {test : Expr} {body orelse : List Stmt} {pos : Pos}
    (k : wpAny (model Prg w) A (isTrue test env (eval test env)) (Br (fun s₂ => wpAny (model Prg w) A (execs body env) (thenDo w A env rest Q E) E s₂) (fun s₂ => wpAny (model Prg w) A (execs orelse env) (thenDo w A env rest Q E) E s₂)) E s) :
    wpAny (model Prg w) A (execs (.If test body orelse pos :: rest) env) Q E s :=
  s_cons (wpAny_If (wpAny_mono k (fun b s₂ q => br_ite q) fun _ _ x => x))
theorem s_ret {e : Expr} {pos : Pos} (k : wpAny (model Prg w) A (eval e env) (fun v s₁ => Q (.ret v) s₁) E s) :
    wpAny (model Prg w) A (execs (.Return (some e) pos :: rest) env) Q E s := s_cons (wpAny_Return_some k)
/-- ends in a nest of branches -/
theorem t_ret {v : Value} (k : Q (.ret v) s) : thenDo w A env rest Q E (.ret v) s := k
theorem t_next (k : wpAny (model Prg w) A (execs rest env) Q E s) : thenDo w A env rest Q E .next s := k

variable {QV : Value → Shared → Prop} {QB : Bool → Shared → Prop}
theorem e_bin {l r : Expr} {op : Operator} {pos : Pos} (k : wpAny (model Prg w) A (eval l env) (fun a s₁ => wpAny (model Prg w) A (eval r env) (fun b s₂ => wpAny (model Prg w) A (binaryOp op a b) QV E s₂) E s₁) E s) :
    wpAny (model Prg w) A (eval (.BinOp l op r pos) env) QV E s := wpAny_BinOp k
theorem e_cmp {l r : Expr} {op : CmpOp} {pos : Pos} (k : wpAny (model Prg w) A (eval l env) (fun a s₁ => wpAny (model Prg w) A (eval r env) (fun b s₂ => wpAny (model Prg w) A (compareOp op a b) QV E s₂) E s₁) E s)
    (hm : behindInMarks op r = false) : wpAny (model Prg w) A (eval (.Compare l [op] [r] pos) env) QV E s := wpAny_Compare1 k hm
theorem e_un {x : Expr} {op : UnaryOp} {pos : Pos} (k : wpAny (model Prg w) A (eval x env) (fun v s₁ => wpAny (model Prg w) A (unaryOp op v) QV E s₁) E s) :
    wpAny (model Prg w) A (eval (.UnaryOp op x pos) env) QV E s := UnaryOp_ k
theorem e_args {pos : Pos} {e : Expr} {es : List Expr} {QL : List Value → Shared → Prop}
    (k : wpAny (model Prg w) A (eval e env) (fun v s₁ => wpAny (model Prg w) A (spliced (backTo pos (starEach es env))) (fun vs s₂ => QL (v :: vs) s₂) E s₁) E s)
    (he : starEach (e :: es) env = (false, eval e env) :: starEach es env) : wpAny (model Prg w) A (spliced (backTo pos (starEach (e :: es) env))) QL E s := wpAny_items_cons k he
theorem c_cmp {l r : Expr} {op : CmpOp} {pos : Pos} {whole : Sem Value}
    (k : wpAny (model Prg w) A (eval l env) (fun a s₁ => wpAny (model Prg w) A (eval r env) (fun b s₂ => wpAny (model Prg w) A (compareOp op a b) (fun c s₃ => wpAny (model Prg w) A (truthy c) QB E s₃) E s₂) E s₁) E s)
    (hm : behindInMarks op r = false) : wpAny (model Prg w) A (isTrue (.Compare l [op] [r] pos) env whole) QB E s := wpAny_isTrue_Compare1 k hm
theorem c_not {x : Expr} {pos : Pos} {whole : Sem Value} (k : wpAny (model Prg w) A (isTrue x env (eval x env)) (fun c s' => QB (!c) s') E s) : wpAny (model Prg w) A (isTrue (.UnaryOp .Not x pos) env whole) QB E s := isTrue_not k
theorem c_or {x : Expr} {xs : List Expr} {pos : Pos} {whole : Sem Value}
    (k : wpAny (model Prg w) A (isTrue x env (eval x env)) (Br (fun s' => QB true s') (fun s' => wpAny (model Prg w) A (isTrue (.BoolOp .Or xs pos) env whole) QB E s')) E s) :
    wpAny (model Prg w) A (isTrue (.BoolOp .Or (x :: xs) pos) env whole) QB E s :=
  isTrue_or (wpAny_mono k (fun b s₂ q => br_ite q) fun _ _ x => x)
theorem c_or0 {pos : Pos} {whole : Sem Value} (k : QB false s) : wpAny (model Prg w) A (isTrue (.BoolOp .Or [] pos) env whole) QB E s := isTrue_or_nil k
theorem c_and {x : Expr} {xs : List Expr} {pos : Pos} {whole : Sem Value}
    (k : wpAny (model Prg w) A (isTrue x env (eval x env)) (Br (fun s' => wpAny (model Prg w) A (isTrue (.BoolOp .And xs pos) env whole) QB E s') (fun s' => QB false s')) E s) :
    wpAny (model Prg w) A (isTrue (.BoolOp .And (x :: xs) pos) env whole) QB E s :=
  isTrue_and (wpAny_mono k (fun b s₂ q => br_ite q) fun _ _ x => x)
theorem c_and0 {pos : Pos} {whole : Sem Value} (k : QB true s) : wpAny (model Prg w) A (isTrue (.BoolOp .And [] pos) env whole) QB E s := isTrue_and_nil k
theorem c_plain {e : Expr} {whole : Sem Value} (k : wpAny (model Prg w) A whole (fun v s₁ => wpAny (model Prg w) A (truthy v) QB E s₁) E s)
    (he : isTrue e env whole = (do let v ← whole; standAt e.pos; holding [v] (truthy v))) : wpAny (model Prg w) A (isTrue e env whole) QB E s := isTrue_plain k he
theorem c_bool {b : Bool} (k : QB b s) : wpAny (model Prg w) A (truthy (.bool b)) QB E s := wpAny_truthy_bool k

-- ints
variable {a b : Int} {ta tb : Tok}
theorem v_add (k : QV (.int (a + b) t) (mk z h (t + 1))) : wpAny (model Prg w) A (binaryOp .Add (.int a ta) (.int b tb)) QV E (mk z h t) := PyProof.Rows.add_int k
theorem v_sub (k : QV (.int (a - b) t) (mk z h (t + 1))) : wpAny (model Prg w) A (binaryOp .Sub (.int a ta) (.int b tb)) QV E (mk z h t) := PyProof.Rows.sub_int' k
theorem v_mul (k : QV (.int (a * b) t) (mk z h (t + 1))) (hm : -(2 ^ 64) < b ∧ b < 2 ^ 64 ∨ -(2 ^ 64) < a ∧ a < 2 ^ 64) : wpAny (model Prg w) A (binaryOp .Mult (.int a ta) (.int b tb)) QV E (mk z h t) :=
  PyProof.Rows.mul_int k (hm.elim (fun q => .of_right (intBits_le_64 q.1 q.2)) fun q => .of_left (intBits_le_64 q.1 q.2))
theorem v_mod (k : QV (.int (a % b) t) (mk z h (t + 1))) (hb : 0 < b) : wpAny (model Prg w) A (binaryOp .Mod (.int a ta) (.int b tb)) QV E (mk z h t) :=
  PyProof.Rows.mod_int' (by omega) (by rw [Int.fmod_eq_emod_of_nonneg _ (by omega)]; exact k)
theorem v_fdiv (k : QV (.int (a / b) t) (mk z h (t + 1))) (hb : 0 < b) (hs : b < 2 ^ 70) : wpAny (model Prg w) A (binaryOp .FloorDiv (.int a ta) (.int b tb)) QV E (mk z h t) :=
  PyProof.Rows.floordiv_int (by omega) (by rw [Int.fdiv_eq_ediv_of_nonneg _ (by omega)]; exact k) (.inl (PyProof.noPylong_of_log2 (by
    have : b.natAbs < 2 ^ 70 := by omega
    have := (Nat.log2_lt (by omega)).mpr this
    omega)))
theorem v_pow2 {n : Int} (k : QV (.int (2 ^ n.toNat) t) (mk z h (t + 1))) (h0 : 0 ≤ n) (h1 : n ≤ 1000) : wpAny (model Prg w) A (binaryOp .Pow (.int 2 ta) (.int n tb)) QV E (mk z h t) :=
  PyProof.Rows.pow_int h0 (by
    have : (Builtin.Int.intBits 2 : Int) = 2 := by decide +kernel
    rw [this]; omega) k
theorem v_lt (k : QV (.bool (decide (a < b))) (mk z h t)) : wpAny (model Prg w) A (compareOp .Lt (.int a ta) (.int b tb)) QV E (mk z h t) := P.lt_int k
theorem v_le (k : QV (.bool (decide (a ≤ b))) (mk z h t)) : wpAny (model Prg w) A (compareOp .LtE (.int a ta) (.int b tb)) QV E (mk z h t) := P.le_int k
theorem v_gt (k : QV (.bool (decide (a > b))) (mk z h t)) : wpAny (model Prg w) A (compareOp .Gt (.int a ta) (.int b tb)) QV E (mk z h t) := P.gt_int k
theorem v_ge (k : QV (.bool (decide (a ≥ b))) (mk z h t)) : wpAny (model Prg w) A (compareOp .GtE (.int a ta) (.int b tb)) QV E (mk z h t) := P.ge_int k
theorem v_eq (k : QV (.bool (a == b)) (mk z h t)) : wpAny (model Prg w) A (compareOp .Eq (.int a ta) (.int b tb)) QV E (mk z h t) := P.eq_int k
theorem v_ne (k : QV (.bool (a != b)) (mk z h t)) : wpAny (model Prg w) A (compareOp .NotEq (.int a ta) (.int b tb)) QV E (mk z h t) := P.ne_int k
theorem v_neg (k : QV (.int (-a) t) (mk z h (t + 1))) : wpAny (model Prg w) A (unaryOp .USub (.int a ta)) QV E (mk z h t) := PyProof.Rows.neg_int k
theorem v_truthy (k : QB (a != 0) (mk z h t)) : wpAny (model Prg w) A (truthy (.int a ta)) QB E (mk z h t) := PyProof.Rows.truthy_int k
-- strs
variable {x y : Str}
theorem v_sadd (k : ∀ t' tk, QV (.str (x ++ y) t') (mk z h tk)) (hz : x.length + y.length ≤ sizeLine) : wpAny (model Prg w) A (binaryOp .Add (.str x ta) (.str y tb)) QV E (mk z h t) := PyProof.Rows.add_str k hz
theorem v_seq (k : QV (.bool (x == y)) (mk z h t)) : wpAny (model Prg w) A (compareOp .Eq (.str x ta) (.str y tb)) QV E (mk z h t) := PyProof.Rows.eq_str k
theorem v_sne (k : QV (.bool (x.cps.toList != y.cps.toList)) (mk z h t)) : wpAny (model Prg w) A (compareOp .NotEq (.str x ta) (.str y tb)) QV E (mk z h t) := P.ne_str k
end
end
local macro_rules | `(tactic| tm_at "m_at") => `(tactic| first | with_reducible exact At.here | (with_reducible apply At.next; tm_at "m_at"))
local macro_rules | `(tactic| tm_at "m_put") => `(tactic| first | with_reducible exact Put.here | (with_reducible apply Put.next; tm_at "m_put"))
local macro_rules | `(tactic| tm_at "m_mem") => `(tactic| first | with_reducible exact List.mem_cons_self | ((with_reducible refine List.mem_cons_of_mem _ ?_); tm_at "m_mem"))
local macro_rules | `(tactic| tm_at "m_asm") => `(tactic| with_reducible assumption)
section
open PySem PySem.W PyProof.Rows PySem.Calls
-- statements
end
local macro_rules | `(tactic| tm_at "m_s") => `(tactic| first
  | with_reducible refine s_nilT ?_
  | ((with_reducible refine s_assign ?_ ?e); (case e => with_unfolding_all rfl))
  | with_reducible refine s_if ?_
  | with_reducible refine s_ret ?_
  | with_reducible refine s_aug ?_
  | with_reducible refine s_nil ?_)
local macro_rules | `(tactic| tm_at "m_e") => `(tactic| first
  | ((with_reducible refine' x_load ?C ?S ?a ?_); (case C => tm_at "m_asm"); (case S => tm_at "m_asm"); (case a => tm_at "m_at"))
  | with_reducible refine x_int ?_
  | with_reducible refine x_str ?_
  | with_reducible refine e_bin ?_
  | ((with_reducible refine e_cmp ?_ ?e); (case e => with_unfolding_all rfl))
  | with_reducible refine e_un ?_
  | with_reducible refine x_none ?_
  | with_reducible refine x_bool ?_
  | with_reducible refine x_bytes ?_
  | ((with_reducible refine e_args ?_ ?e); (case e => with_unfolding_all rfl))
  | with_reducible refine x_spnil ?_)
local macro_rules | `(tactic| tm_at "m_c") => `(tactic| first
  | ((with_reducible refine c_cmp ?_ ?e); (case e => with_unfolding_all rfl))
  | with_reducible refine c_not ?_
  | with_reducible refine c_or0 ?_
  | with_reducible refine c_or ?_
  | with_reducible refine c_and0 ?_
  | with_reducible refine c_and ?_
  | ((with_reducible refine c_plain ?_ ?e); (case e => with_unfolding_all rfl)))
local macro_rules | `(tactic| tm_at "m_v") => `(tactic| first
  | with_reducible refine v_add ?_
  | with_reducible refine v_sub ?_
  | ((with_reducible refine v_mul ?_ ?e); (case e => first | (left; omega) | (right; omega)))
  | ((with_reducible refine v_mod ?_ ?e); (case e => omega))
  | ((with_reducible refine v_fdiv ?_ ?e ?e'); (case e => omega); (case e' => omega))
  | ((with_reducible refine v_pow2 ?_ ?e ?e'); (case e => omega); (case e' => omega))
  | with_reducible refine v_lt ?_
  | with_reducible refine v_gt ?_
  | with_reducible refine v_eq ?_
  | with_reducible refine v_ne ?_
  | with_reducible refine v_le ?_
  | with_reducible refine v_ge ?_
  | with_reducible refine v_neg ?_
  | with_reducible refine v_truthy ?_
  | with_reducible refine c_bool ?_
  | with_reducible refine v_seq ?_
  | with_reducible refine v_sne ?_
  | ((with_reducible refine v_sadd ?_ ?e); (case e => assumption); intro _ _)
  | ((with_reducible refine' x_loadN ?C ?S ?a ?_); (case C => tm_at "m_asm"); (case S => tm_at "m_asm"); (case a => tm_at "m_at"))
  | ((with_reducible refine' x_store ?C ?S ?a ?_); (case C => tm_at "m_asm"); (case S => tm_at "m_asm"); (case a => tm_at "m_put"); intro _ _ _))
local macro_rules | `(tactic| tm_at "m") => `(tactic| first | tm_at "m_s" | tm_at "m_e" | tm_at "m_v" | tm_at "m_c")
local macro_rules | `(tactic| tm_at "ms") => `(tactic| repeat' tm_at "m")
section
open PySem PySem.W PyProof.Rows PySem.Calls
theorem look_set : ∀ (ns : List Str) (vs : List (Option Value)) (j : Nat) (x : Str) (v : Value), ns[j]? = some x → vs.length = ns.length → Put ns vs x v (vs.set j (some v)) ∨ ∃ i, i < j ∧ ns[i]? = some x
  | [], _, j, x, v, h, _ => by cases h
  | n :: ns, [], j, x, v, _, h => by cases h
  | n :: ns, u :: vs, 0, x, v, h, _ => by cases h; exact .inl .here
  | n :: ns, u :: vs, j + 1, x, v, h, hl => by
    rcases look_set ns vs j x v (by simpa using h) (by simpa using hl) with p | ⟨i, hi, e⟩
    · exact .inl (.next p)
    · exact .inr ⟨i + 1, by omega, by simpa using e⟩
theorem put_set {ns : List Str} {vs : List (Option Value)} {j : Nat} {x : Str} (v : Value) (h : ns[j]? = some x) (hl : vs.length = ns.length) (hn : ns.Nodup) : Put ns vs x v (vs.set j (some v)) := by
  rcases look_set ns vs j x v h hl with p | ⟨i, hi, e⟩
  · exact p
  · exfalso
    have h1 : i < ns.length := by have := List.getElem?_eq_some_iff.mp e; exact this.1
    have h2 : j < ns.length := by have := List.getElem?_eq_some_iff.mp h; exact this.1
    have := (List.getElem_inj (h₀ := h1) (h₁ := h2) hn).mp (by
      rw [List.getElem?_eq_getElem h1] at e; rw [List.getElem?_eq_getElem h2] at h
      exact (Option.some.inj e).trans (Option.some.inj h).symm)
    omega

inductive Idx : List Str → Nat → Str → Prop
  | here {x : Str} {ns : List Str} : Idx (x :: ns) 0 x
  | next {x y : Str} {ns : List Str} {j : Nat} : Idx ns j x → Idx (y :: ns) (j + 1) x
theorem Idx.get {ns : List Str} {j : Nat} {x : Str} (i : Idx ns j x) : ns[j]? = some x := by
  induction i with
  | here => rfl
  | next _ ih => simpa using ih
end
local macro_rules | `(tactic| tm_at "m_idx") => `(tactic| first | with_reducible exact Idx.here | (with_reducible apply Idx.next; tm_at "m_idx"))
section
open PySem PySem.W PyProof.Rows PySem.Calls
section
variable {w : World} {A : Around} {E : Value → Shared → Prop} {z : Shared} {h h₀ : Heap} {t : Nat} {L : Addr} {env : Env} {s : Shared}
  {ns gs : List Str} {vs vs' : List (Option Value)} {N : List (Addr × Obj)} {Q : Flow → Shared → Prop} {rest : List Stmt}

theorem St.push (S : St w h₀ L ns vs N h) (o : Obj) (hf : o.isFreed = false := by rfl) : St w h₀ L ns vs ((h.objs.size, o) :: N) (h.push o) :=
  S.add (fun _ _ e => Heap.get?_push_of_some _ e) (Heap.get?_push_size _ hf) (Heap.get?_none_of_le (Nat.le_refl _))

/-- a for over range(n) -/
def RFor (w : World) (A : Around) (z : Shared) (h₀ : Heap) (L : Addr) (env : Env) (ns : List Str) (j : Nat) (body rest : List Stmt) (Q : Flow → Shared → Prop) (v : Value) (s₁ : Shared) : Prop :=
  ∃ (n : Nat) (tk : Tok) (h : Heap) (t : Nat) (vs : List (Option Value)) (N : List (Addr × Obj)) (Inv : Nat → List (Option Value) → List (Addr × Obj) → Prop),
    v = .int n tk ∧ s₁ = mk z h t ∧ n < 2 ^ 60 ∧ St w h₀ L ns vs N h ∧ Inv 0 vs N ∧
    (∀ i vs N h t IO tk, i < n → Inv i vs N → St w h₀ L ns (vs.set j (some (.int i tk))) (IO :: N) h → wpAny (model Prg w) A (execs body env) (Turned w z h₀ L ns IO (Inv (i + 1))) NoE (mk z h t)) ∧
    (∀ vs N h t, Inv n vs N → St w h₀ L ns vs N h → wpAny (model Prg w) A (execs rest env) Q NoE (mk z h t))
theorem rfor {j : Nat} {body : List Stmt} {v : Int} {tk : Tok} (Inv : Nat → List (Option Value) → List (Addr × Obj) → Prop) (n : Nat) (hv : v = (n : Int)) (hn : n < 2 ^ 60) (S : St w h₀ L ns vs N h) (h0 : Inv 0 vs N)
    (step : ∀ i vs N h t IO tk, i < n → Inv i vs N → St w h₀ L ns (vs.set j (some (.int i tk))) (IO :: N) h → wpAny (model Prg w) A (execs body env) (Turned w z h₀ L ns IO (Inv (i + 1))) NoE (mk z h t))
    (done : ∀ vs N h t, Inv n vs N → St w h₀ L ns vs N h → wpAny (model Prg w) A (execs rest env) Q NoE (mk z h t)) :
    RFor w A z h₀ L env ns j body rest Q (.int v tk) (mk z h t) := ⟨n, tk, h, t, vs, N, Inv, by rw [hv], rfl, hn, S, h0, step, done⟩

theorem size_new (S : St w h₀ L ns vs N h) : h₀.get? h.objs.size = none := by
  cases q : h₀.get? h.objs.size with
  | none => rfl
  | some o => exact absurd (Heap.lt_size (S.F.keep _ _ q)) (Nat.lt_irrefl _)
theorem size_neL (S : St w h₀ L ns vs N h) : h.objs.size ≠ L := fun e => absurd S.F.ns.lt (e ▸ Nat.lt_irrefl _)
theorem size_neN (S : St w h₀ L ns vs N h) : ∀ p ∈ N, p.1 ≠ h.objs.size := fun p hp e => absurd (Heap.lt_size (S.W p hp).1) (e ▸ Nat.lt_irrefl _)

theorem range_size (n : Nat) : Builtin.Range.rangeSize 0 n 1 = n := by rw [rangeSize_one]; split <;> omega

theorem fsi_call {f : Expr} {as : List Expr} {ks : List Keyword} {p : Pos} (x : Value) : foldedSetIterable (.Call f as ks p) env x = pure x := by with_unfolding_all rfl

theorem s_for_range {x : Str} {px p rp pos : Pos} {e : Expr} {body : List Stmt} {j : Nat} (r : A.handled = none) (C : Fn env L ns gs) (S : St w h₀ L ns vs N h) (hx : Str.ofString "range" ∈ gs) (g : BI w "range" (.type "range")) (hj : Idx ns j x)
    (k : wpAny (model Prg w) A (eval e env) (RFor w A z h₀ L env ns j body rest Q) NoE (mk z h t))
    (he : starEach [e] env = [(false, eval e env)]) :
    wpAny (model Prg w) A (execs (.For (.Name x px) (.Call (.Name (Str.ofString "range") p) [e] [] rp) body [] pos :: rest) env) Q NoE (mk z h t) := by
  refine s_cons (wpAny_For ?_ fsi_call)
  refine x_callT C S hx g (e_args (wpAny_mono k (fun v s₁ q => ?_) fun _ _ x => x) he) he rfl
  obtain ⟨n, tk, h, t, vs, N, Inv, rfl, rfl, hn, S, h0, step, done⟩ := q
  refine x_spnil (call_range_1 ?_)
  have S₁ := S.push { cls := .type "range", data := .fields #[.int 0 t, .int n tk, .int 1 (t + 1)] }
  refine wpAny_pyIter_range (s := mk z (h.push { cls := .type "range", data := .fields #[.int 0 t, .int n tk, .int 1 (t + 1)] }) (t + 1 + 1)) (a := 0) (b := n) (c := 1) (t := t) (u := tk) (v := t + 1) ((S₁.W _ (.head _)).1) (small_one (by decide) (by decide) (by omega) (by omega)) ?_
  rw [range_size]
  have S₂ := S₁.push { cls := .type "range_iterator", data := .fields #[rawInt 0, rawInt n, rawInt 1] }
  have S₃ := S₂.tail.tail
  refine loop_walks C.locals (Walks.range r _ 0 1 n) (fun i h q => ⟨_, q⟩) [] (fun b hb => .inl (List.mem_singleton.mp hb)) Inv (fun _ _ _ _ _ hp => nomatch hp) (fun _ => rfl) S₃ (size_new S₁) (size_neL S₁) (fun p hp => size_neN S₁ p (.tail _ hp))
    (by have := (S₂.W _ (.head _)).1; rw [show (0 : Int) + ((0 : Nat) : Int) * 1 = 0 by omega, show (n : Int) - ((0 : Nat) : Int) = n by omega]; exact this) h0 ?_ ?_
  · intro i v vs N h t o hi hP hJ S
    obtain ⟨tk, rfl⟩ := hP
    rw [PySem.assign_Name]
    refine wpAny_bind (wpAny_standAt (wpAny_bindName ?_))
    have e0 : (0 : Int) + (i : Nat) * 1 = i := by omega
    rw [e0]
    refine x_store C S (put_set _ hj.get S.len C.nodup) fun h' t' S' => ?_
    exact step i vs N h' t' _ tk hi hJ S'
  · intro vs N h t hJ S
    exact done vs N h t hJ S
end
end
section
open PySem PySem.W PyProof.Rows PySem.Calls
def key (s : Str) : Nat := s.cps.foldl (fun a c => a * 2097152 + c + 1) 0
def allNe (a : Nat) : List Nat → Bool
  | [] => true
  | b :: r => !(Nat.beq a b) && allNe a r
def nodupN : List Nat → Bool
  | [] => true
  | a :: r => allNe a r && nodupN r
theorem allNe_mem {a : Nat} : ∀ {l : List Nat}, allNe a l = true → a ∉ l
  | [], _, q => nomatch q
  | b :: r, h, q => by
    simp only [allNe, Bool.and_eq_true, Bool.not_eq_true'] at h
    rcases List.mem_cons.mp q with rfl | q
    · rw [Nat.beq_refl] at h; exact absurd h.1 (by decide)
    · exact allNe_mem h.2 q
theorem nodup_of : ∀ {l : List Str}, nodupN (l.map key) = true → l.Nodup
  | [], _ => List.nodup_nil
  | a :: r, h => by
    simp only [List.map_cons, nodupN, Bool.and_eq_true] at h
    exact List.nodup_cons.mpr ⟨fun q => allNe_mem h.1 (List.mem_map_of_mem q), nodup_of h.2⟩
def locOf (p : Str × NameKind) : Option Str := match p.2 with | .local => some p.1 | _ => none
def gloOf (p : Str × NameKind) : Option Str := match p.2 with | .globalImplicit => some p.1 | _ => none
def notCell (p : Str × NameKind) : Bool := match p.2 with | .cell => false | _ => true
theorem lookup_of_mem : ∀ {l : List (Str × NameKind)} {x : Str} {k : NameKind}, (l.map (·.1)).Nodup → (x, k) ∈ l → l.lookup x = some k
  | (y, u) :: r, x, k, hn, hm => by
    have hn' := List.nodup_cons.mp hn
    rcases List.mem_cons.mp hm with e | hm
    · cases e; simp [List.lookup_cons]
    · have : x ≠ y := fun e => hn'.1 (by rw [← e]; exact List.mem_map.mpr ⟨_, hm, rfl⟩)
      have h2 : (x == y) = false := by simpa using this
      rw [List.lookup_cons, h2]
      exact lookup_of_mem hn'.2 hm
theorem Sc.of {scope : Scope} {ns gs : List Str} (hk : scope.kind = .function) (hns : scope.names.filterMap locOf = ns) (hgs : scope.names.filterMap gloOf = gs)
    (nd : nodupN ((Str.ofString "__debug__" :: scope.names.map (·.1)).map key) = true) (hc : scope.names.all notCell = true) (co : scope.isCoroutine = false) (gen : scope.isGenerator = false) : Sc scope ns gs := by
  have ndl := nodup_of nd
  have nd1 := (List.nodup_cons.mp ndl)
  have sub : ns.Sublist (scope.names.map (·.1)) := by
    rw [← hns]
    generalize scope.names = l
    induction l with
    | nil => exact .slnil
    | cons p r ih =>
      obtain ⟨x, k⟩ := p
      cases k <;> simp only [List.filterMap_cons, locOf, List.map_cons] <;> first | exact ih.cons_cons _ | exact ih.cons _
  have l1 : ∀ x ∈ ns, (x, NameKind.local) ∈ scope.names := by
    intro x hx
    rw [← hns] at hx
    obtain ⟨⟨y, k⟩, hm, e⟩ := List.mem_filterMap.mp hx
    cases k <;> simp [locOf] at e
    subst e; exact hm
  have g1 : ∀ x ∈ gs, (x, NameKind.globalImplicit) ∈ scope.names := by
    intro x hx
    rw [← hgs] at hx
    obtain ⟨⟨y, k⟩, hm, e⟩ := List.mem_filterMap.mp hx
    cases k <;> simp [gloOf] at e
    subst e; exact hm
  have db : ∀ x, x ∈ scope.names.map (·.1) → (x == ("__debug__" : Str)) = false := by
    intro x hx
    have : x ≠ Str.ofString "__debug__" := fun e => nd1.1 (e ▸ hx)
    simpa using this
  refine ⟨hk, sub.nodup nd1.2, fun x hx => lookup_of_mem nd1.2 (l1 x hx), fun x hx => lookup_of_mem nd1.2 (g1 x hx), fun x hx => db x (List.mem_map.mpr ⟨_, l1 x hx, rfl⟩), fun x hx => db x (List.mem_map.mpr ⟨_, g1 x hx, rfl⟩), ?_, co, gen⟩
  intro p hp e
  have := List.all_eq_true.mp hc p hp
  unfold notCell at this
  rw [e] at this
  cases this
end
local macro_rules | `(tactic| tm_at "m_sc") => `(tactic| exact Sc.of rfl rfl rfl (by kernel_rfl) rfl rfl rfl)
section
open PySem PySem.W PyProof.Rows PySem.Calls
theorem bi_range (w : World) : BI w "range" (.type "range") := ⟨by kernel_rfl, by kernel_rfl, by decide⟩
end
local macro_rules | `(tactic| tm_at "m_forR") => `(tactic| ((with_reducible refine' s_for_range ?r ?C ?S ?m (bi_range _) ?j ?_ ?e); (case r => exact Room.hd (by with_reducible assumption)); (case C => tm_at "m_asm"); (case S => tm_at "m_asm"); (case m => tm_at "m_mem"); (case j => tm_at "m_idx"); (case e => with_unfolding_all rfl)))
local macro_rules | `(tactic| tm_at "m_vs") => `(tactic| (rename St _ _ _ _ _ _ _ => hS; simp only [List.set_cons_succ, List.set_cons_zero] at hS))
section
open PySem PySem.W PyProof.Rows PySem.Calls PySem.Builtin PySem.Builtin.Str
/-- a text by its signs -/
def S (l : List Nat) : Str := ⟨l.toArray⟩
theorem S_len (l : List Nat) : (S l).length = l.length := by simp [S, Str.length]
theorem S_cps (l : List Nat) : (S l).cps = l.toArray := rfl
theorem S_app (a b : List Nat) : S a ++ S b = S (a ++ b) := by
  refine Str.ext' ?_
  rw [Str.cps_append]; simp [S]
theorem S_inj {a b : List Nat} (h : S a = S b) : a = b := by
  have := congrArg (fun x : Str => x.cps.toList) h
  simpa [S] using this

theorem pick_fwd (l : List Nat) : ∀ (k a : Nat), a + k ≤ l.length → ((List.range k).map fun (j : Nat) => ((a : Int) + 1 * (j : Int)).toNat).filterMap (l.toArray[·]?) = (l.drop a).take k
  | 0, a, _ => by simp
  | k + 1, a, h => by
    rw [List.range_succ, List.map_append, List.filterMap_append, pick_fwd l k a (by omega)]
    have e : ((a : Int) + 1 * (k : Int)).toNat = a + k := by omega
    simp only [List.map_cons, List.map_nil, e]
    have hk : a + k < l.length := by omega
    rw [List.take_add_one]
    simp [hk, List.getElem?_drop]
theorem pick_rev (l : List Nat) : ∀ (k n : Nat), k ≤ n → n ≤ l.length → ((List.range k).map fun (j : Nat) => ((n : Int) - 1 + -1 * (j : Int)).toNat).filterMap (l.toArray[·]?) = ((l.take n).drop (n - k)).reverse
  | 0, n, _, _ => by simp
  | k + 1, n, h, hl => by
    rw [List.range_succ, List.map_append, List.filterMap_append, pick_rev l k n (by omega) hl]
    have e : ((n : Int) - 1 + -1 * (k : Int)).toNat = n - (k + 1) := by omega
    simp only [List.map_cons, List.map_nil, e]
    have hk : n - (k + 1) < (l.take n).length := by simp; omega
    have e2 : n - k = n - (k + 1) + 1 := by omega
    rw [e2, List.drop_eq_getElem_cons hk, List.reverse_cons]
    have hk' : n - (k + 1) < l.length := by omega
    simp [hk']

/-- a slice by steps of one, its bounds non-negative -/
def sl (l : List Nat) (a : Nat) (b : Option Nat) : List Nat := ((l.take (b.getD l.length)).drop a)
theorem range_fwd (a b : Nat) : sliceRange a b 1 = (List.range (b - a)).map fun (j : Nat) => ((a : Int) + 1 * (j : Int)).toNat := by
  unfold sliceRange
  simp only [show (1 : Int) > 0 by decide, if_true]
  have : (if (a : Int) < b then ((b : Int) - a + 1 - 1) / 1 else 0).toNat = b - a := by
    split <;> simp <;> omega
  rw [this]
theorem picked_fwd (l : List Nat) (a b : Nat) (hb : b ≤ l.length) : (sliceRange a b 1).filterMap (l.toArray[·]?) = (l.take b).drop a := by
  rw [range_fwd]
  by_cases h : a ≤ b
  · rw [pick_fwd l (b - a) a (by omega), List.drop_take]
  · have : b - a = 0 := by omega
    rw [this]
    simp; omega
theorem indices_fwd (l : List Nat) (a : Option Nat) (b : Option Nat) : strSliceIndices (a.map fun (x : Nat) => (x : Int)) (b.map fun (x : Nat) => (x : Int)) 1 l.length = sliceRange (min (a.getD 0) l.length : Nat) (min (b.getD l.length) l.length : Nat) 1 := by
  have cl : ∀ x n : Nat, max 0 (min (if (x : Int) < 0 then (x : Int) + (n : Int) else x) (n : Int)) = ((min x n : Nat) : Int) := by
    intro x n
    rw [if_neg (by omega)]
    omega
  unfold strSliceIndices
  cases a <;> cases b <;> simp only [Option.map_none, Option.map_some, Option.getD_none, Option.getD_some, show (1 : Int) > 0 by decide, if_true, cl, Nat.min_self, Nat.zero_min, Int.natCast_zero] <;> rfl
theorem made_post {x : Str} {tx : Tok} {l u st : Option (Int × Tok)} {Q : Value → Shared → Prop} {s : Shared} {y : List Nat} (e : ((slicePicked x l u st).filterMap (x.cps[·]?)) = y) (hy : y.length ≤ sizeLine)
    (hid : ((st.map (·.1)).getD 1 == 1 && (slicePicked x l u st).length == x.length) = true → x = S y) (k : ∀ t' tk, Q (.str (S y) t') { s with toks := tk }) : (sliceMade x tx l u st).post Q s := by
  unfold sliceMade
  split
  · rename_i q
    have e2 := hid q
    have := k tx s.toks
    rw [← e2] at this
    exact this
  · rw [e]
    exact ⟨by show (S y).length ≤ sizeLine; rw [S_len]; exact hy, k _ _⟩

section
variable {w : World} {A : Around} {E : Value → Shared → Prop} {z : Shared} {h h₀ : Heap} {t : Nat} {L : Addr} {env : Env} {s : Shared}
  {ns gs : List Str} {vs vs' : List (Option Value)} {N : List (Addr × Obj)} {QV : Value → Shared → Prop} {value slice : Expr} {pos p : Pos}

theorem e_sub (k : wpAny (model Prg w) A (eval value env) (fun o s₁ => wpAny (model Prg w) A (eval slice env) (fun i s₂ => wpAny (model Prg w) A (subscriptTail value slice o i) QV E s₂) E s₁) E s) :
    wpAny (model Prg w) A (eval (.Subscript value slice pos) env) QV E s := Subscript_ k
theorem t_item {x : Str} {l : List Nat} {i : Int} {tx ti : Tok} (j : Nat) (hx : x = S l) (hi : i = (j : Int)) (hj : j < l.length) (hl : l.length < 2 ^ 62) (k : QV (.str (S [l[j]]) t) (mk z h (t + 1)))
    (hs : ∀ o i, subscripted slice false o i = operate [o, i] (getItem o i)) (ht : ∀ x t r, letTemporaryGo value (.str x t) r = pure ()) :
    wpAny (model Prg w) A (subscriptTail value slice (.str x tx) (.int i ti)) QV E (mk z h t) := by
  subst hx hi
  refine PyProof.Rows.item_str (s := mk z h t) (by simp [fitsSsize]; omega) (by rw [S_len]; omega) (by rw [S_len]; omega) (fun _ => ?_) (hs _ _) (ht _ _)
  have : Txt.item (S l) (j : Int) = S [l[j]] := by
    unfold Txt.item Txt.charAt
    have e : seqIndex? (j : Int) (S l).length = some j := by rw [S_len]; unfold seqIndex?; simp; omega
    rw [e]
    simp [S, hj]
  rw [this]
  exact k

/-- a slice object just made -/
abbrev slObj (a b c : Value) : Obj := { cls := .type "slice", data := .fields #[a, b, c] }
theorem e_slice {lo up stp : Option Expr} (k : wpAny (model Prg w) A (evalPart lo env) (fun a s₁ => wpAny (model Prg w) A (evalPart up env) (fun b s₂ => wpAny (model Prg w) A (evalPart stp env) (fun c s₃ =>
      QV (.ref s₃.heap.objs.size) { s₃ with heap := s₃.heap.push (slObj a b c) }) E s₂) E s₁) E s) :
    wpAny (model Prg w) A (eval (.Slice lo up stp p) env) QV E s := wpAny_Slice k
theorem p_none (k : QV .none s) : wpAny (model Prg w) A (evalPart none env) QV E s := wpAny_pure k
theorem p_some {e : Expr} (k : wpAny (model Prg w) A (eval e env) QV E s) : wpAny (model Prg w) A (evalPart (some e) env) QV E s := k

def optV : Option (Nat × Tok) → Value
  | none => .none
  | some (n, t) => .int n t
/-- a text's slice by steps of one -/
theorem t_slice {x : Str} {l : List Nat} {tx : Tok} {va vb : Value} {lo up : Option Expr} (a b : Option (Nat × Tok)) (hx : x = S l) (ha : va = optV a) (hb : vb = optV b) (hl : l.length ≤ sizeLine) (S₀ : St w h₀ L ns vs N h)
    (k : ∀ h' t' tk, St w h₀ L ns vs N h' → QV (.str (S (sl l ((a.map (·.1)).getD 0) (b.map (·.1)))) t') (mk z h' tk))
    (ht : ∀ x t r, letTemporaryGo value (.str x t) r = pure ()) :
    wpAny (model Prg w) A (subscriptTail value (.Slice lo up none p) (.str x tx) (.ref (mk z h t).heap.objs.size)) QV E { mk z h t with heap := (mk z h t).heap.push (slObj va vb .none) } := by
  subst hx ha hb
  have S₁ := S₀.push (slObj (optV a) (optV b) .none)
  refine tail_of_ItemOn (ops := [.ref h.objs.size, .str (S l) tx]) ⟨"str", _, F.slot_str_getitem.lookup, typeIs_str _ _ _, ?_⟩ (by with_unfolding_all rfl) (ht _ _)
  have eA : ∀ a : Option (Nat × Tok), optV a = partValue (a.map fun (q : Nat × Tok) => ((q.1 : Int), q.2)) := by intro a; cases a <;> rfl
  refine wpAny_getItem_str_slice (l := a.map fun (q : Nat × Tok) => ((q.1 : Int), q.2)) (u := b.map fun (q : Nat × Tok) => ((q.1 : Int), q.2)) (st := none) ⟨_, (S₁.W _ (.head _)).1, rfl, by rw [eA a, eA b]; rfl⟩ rfl ?_
  have e0 : strSliceIndices ((a.map fun (q : Nat × Tok) => ((q.1 : Int), q.2)).map (·.1)) ((b.map fun (q : Nat × Tok) => ((q.1 : Int), q.2)).map (·.1)) 1 (S l).length = sliceRange (min ((a.map (·.1)).getD 0) l.length : Nat) (min ((b.map (·.1)).getD l.length) l.length : Nat) 1 := by
    rw [S_len, ← indices_fwd l (a.map (·.1)) (b.map (·.1))]
    congr 1 <;> (cases a <;> cases b <;> rfl)
  have e1 : ((slicePicked (S l) (a.map fun (q : Nat × Tok) => ((q.1 : Int), q.2)) (b.map fun (q : Nat × Tok) => ((q.1 : Int), q.2)) none).filterMap ((S l).cps[·]?)) = sl l ((a.map (·.1)).getD 0) (b.map (·.1)) := by
    unfold slicePicked
    show (strSliceIndices _ _ 1 _).filterMap _ = _
    rw [e0, S_cps, picked_fwd _ _ _ (Nat.min_le_right _ _)]
    unfold sl
    generalize (b.map (·.1)).getD l.length = m
    generalize (a.map (·.1)).getD 0 = q
    rw [List.take_eq_take_iff.mpr (show min (min m l.length) l.length = min m l.length by omega)]
    by_cases hq : q ≤ l.length
    · rw [Nat.min_eq_left hq]
    · rw [Nat.min_eq_right (by omega), List.drop_eq_nil_of_le (by simp; omega), List.drop_eq_nil_of_le (by simp; omega)]
  refine made_post e1 (by unfold sl; simp only [List.length_drop, List.length_take]; omega) (fun q => ?_) fun t' tk => k _ t' tk S₁.tail
  have q2 : (slicePicked (S l) (a.map fun (q : Nat × Tok) => ((q.1 : Int), q.2)) (b.map fun (q : Nat × Tok) => ((q.1 : Int), q.2)) none).length = l.length := by
    have := (Bool.and_eq_true_iff.mp q).2
    rw [beq_iff_eq, S_len] at this; exact this
  have q3 : (slicePicked (S l) (a.map fun (q : Nat × Tok) => ((q.1 : Int), q.2)) (b.map fun (q : Nat × Tok) => ((q.1 : Int), q.2)) none).length = min ((b.map (·.1)).getD l.length) l.length - min ((a.map (·.1)).getD 0) l.length := by
    unfold slicePicked
    show (strSliceIndices _ _ 1 _).length = _
    rw [e0, range_fwd]; simp
  congr 1
  unfold sl
  by_cases hz : l.length = 0
  · have : l = [] := List.eq_nil_of_length_eq_zero hz
    subst this; simp
  · rw [q3] at q2
    have h1 : min ((a.map (·.1)).getD 0) l.length = 0 := by omega
    have h2 : l.length ≤ (b.map (·.1)).getD l.length := by omega
    have h3 : (a.map (·.1)).getD 0 = 0 := by omega
    rw [h3, List.take_of_length_le h2, List.drop_zero]
/-- a text turned -/
theorem t_rev {x : Str} {l : List Nat} {tx ts : Tok} {stp : Expr} (hx : x = S l) (hl : l.length ≤ sizeLine) (S₀ : St w h₀ L ns vs N h)
    (k : ∀ h' t' tk, St w h₀ L ns vs N h' → QV (.str (S l.reverse) t') (mk z h' tk))
    (ht : ∀ x t r, letTemporaryGo value (.str x t) r = pure ()) :
    wpAny (model Prg w) A (subscriptTail value (.Slice none none (some stp) p) (.str x tx) (.ref (mk z h t).heap.objs.size)) QV E { mk z h t with heap := (mk z h t).heap.push (slObj .none .none (.int (-1) ts)) } := by
  subst hx
  have S₁ := S₀.push (slObj .none .none (.int (-1) ts))
  refine tail_of_ItemOn (ops := [.str (S l) tx, .ref h.objs.size]) ⟨"str", _, F.slot_str_getitem.lookup, typeIs_str _ _ _, ?_⟩ (by with_unfolding_all rfl) (ht _ _)
  refine wpAny_getItem_str_slice (l := none) (u := none) (st := some (-1, ts)) ⟨_, (S₁.W _ (.head _)).1, rfl, rfl⟩ rfl ?_
  have e1 : ((slicePicked (S l) none none (some (-1, ts))).filterMap ((S l).cps[·]?)) = l.reverse := by
    unfold slicePicked
    show (strSliceIndices none none (-1) _).filterMap _ = _
    rw [S_len, S_cps]
    have : strSliceIndices none none (-1) l.length = (List.range l.length).map fun (j : Nat) => ((l.length : Int) - 1 + -1 * (j : Int)).toNat := by
      unfold strSliceIndices sliceRange
      simp only [show ¬ ((-1 : Int) > 0) by decide, if_false]
      have : (if (l.length : Int) - 1 > -1 then ((l.length : Int) - 1 - -1 - -1 - 1) / (- -1) else 0).toNat = l.length := by
        split <;> simp <;> omega
      rw [this]
    rw [this, pick_rev l l.length l.length (Nat.le_refl _) (Nat.le_refl _)]
    simp
  refine made_post e1 (by simpa using hl) (fun q => ?_) fun t' tk => k _ t' tk S₁.tail
  exact absurd (Bool.and_eq_true_iff.mp q).1 (show ¬ (((-1 : Int) == 1) = true) by decide)
end
end
section
open PySem PySem.W PyProof.Rows PySem.Calls
theorem lit_01 : Str.ofString "01" = S [48, 49] := by decide +kernel
theorem lit_nil : Str.ofString "" = S [] := by decide +kernel
end
local macro_rules | `(tactic| tm_at "m_lit") => `(tactic| first | with_reducible rfl | with_reducible exact lit_01 | with_reducible exact lit_nil)
local macro_rules | `(tactic| tm_at "m_e") => `(tactic| first
  | ((with_reducible refine' x_load ?C ?S ?a ?_); (case C => tm_at "m_asm"); (case S => tm_at "m_asm"); (case a => tm_at "m_at"))
  | with_reducible refine x_int ?_
  | with_reducible refine x_str ?_
  | with_reducible refine e_bin ?_
  | ((with_reducible refine e_cmp ?_ ?e); (case e => with_unfolding_all rfl))
  | with_reducible refine e_un ?_
  | with_reducible refine x_none ?_
  | with_reducible refine x_bool ?_
  | with_reducible refine x_bytes ?_
  | ((with_reducible refine e_args ?_ ?e); (case e => with_unfolding_all rfl))
  | with_reducible refine x_spnil ?_
  | with_reducible refine e_sub ?_
  | with_reducible refine e_slice ?_
  | with_reducible refine p_none ?_
  | with_reducible refine p_some ?_)
local macro_rules | `(tactic| tm_at "m_hs") => `(tactic| (intros; with_unfolding_all rfl))
section
open PySem PySem.W PyProof.Rows PySem.Calls
inductive UpdN : List (Addr × Obj) → Addr → Obj → Obj → List (Addr × Obj) → Prop
  | here {b : Addr} {o o' : Obj} {N : List (Addr × Obj)} : UpdN ((b, o) :: N) b o o' ((b, o') :: N)
  | next {b : Addr} {o o' : Obj} {p : Addr × Obj} {N N' : List (Addr × Obj)} : UpdN N b o o' N' → UpdN (p :: N) b o o' (p :: N')
theorem UpdN.keys {N b o o' N'} (u : UpdN N b o o' N') : N'.map (·.1) = N.map (·.1) := by
  induction u with
  | here => rfl
  | next _ ih => simp [ih]
theorem UpdN.mem {N b o o' N'} (u : UpdN N b o o' N') : (b, o) ∈ N := by
  induction u with
  | here => exact .head _
  | next _ ih => exact .tail _ ih
theorem UpdN.upd {N b o o' N'} (u : UpdN N b o o' N') (nd : (N.map (·.1)).Nodup) : Upd b o o' N N' := by
  induction u with
  | here =>
    have h := List.nodup_cons.mp nd
    exact .head fun p hp e => h.1 (List.mem_map.mpr ⟨p, hp, e⟩)
  | @next b o o' p N N' u ih =>
    have h := List.nodup_cons.mp nd
    exact .tail (fun e => h.1 (List.mem_map.mpr ⟨(b, o), u.mem, e.symm⟩)) (ih h.2)
theorem UpdN.split {N b o o' N'} (u : UpdN N b o o' N') : ∀ p ∈ N', p = (b, o') ∨ p ∈ N := by
  induction u with
  | here =>
    intro p hp
    rcases List.mem_cons.mp hp with rfl | hp
    · exact .inl rfl
    · exact .inr (.tail _ hp)
  | next _ ih =>
    intro p hp
    rcases List.mem_cons.mp hp with rfl | hp
    · exact .inr (.head _)
    · exact (ih p hp).imp id fun q => .tail _ q
end
local macro_rules | `(tactic| tm_at "m_upd") => `(tactic| first | with_reducible exact UpdN.here | (with_reducible apply UpdN.next; tm_at "m_upd"))
section
open PySem PySem.W PyProof.Rows PySem.Calls
section
variable {w : World} {A : Around} {E : Value → Shared → Prop} {z : Shared} {h h₀ : Heap} {t : Nat} {L : Addr} {env : Env} {s : Shared}
  {ns gs : List Str} {vs vs' : List (Option Value)} {N N' : List (Addr × Obj)} {QV : Value → Shared → Prop} {Q : Flow → Shared → Prop} {QB : Bool → Shared → Prop} {value slice : Expr} {pos p : Pos} {rest : List Stmt}

/-- one object of the ledger turned, all else kept -/
theorem St.upd (S : St w h₀ L ns vs N h) {h' : Heap} {b : Addr} {o o' : Obj} (u : UpdN N b o o' N') (k : ∀ c x, c ≠ b → h.get? c = some x → h'.get? c = some x) (ho : h'.get? b = some o') : St w h₀ L ns vs N' h' := by
  have wb := S.W _ u.mem
  have hkeys := u.keys
  obtain ⟨pre, post, rfl, rfl, a1, a2⟩ := (u.upd S.nd).split
  refine ⟨⟨S.F.ns.at' fun x e => k _ _ (Ne.symm wb.2.1) e, fun c x e => k c x (fun q => ?_) (S.F.keep c x e), S.F.above⟩, fun p hp => ?_, S.G₀, hkeys ▸ S.nd, S.len⟩
  · rw [q, wb.2.2] at e; cases e
  · rcases List.mem_append.mp hp with hp | hp
    · have := S.W p (List.mem_append_left _ hp)
      exact ⟨k _ _ (a1 p hp) this.1, this.2⟩
    · rcases List.mem_cons.mp hp with rfl | hp
      · exact ⟨ho, wb.2⟩
      · have := S.W p (List.mem_append_right _ (.tail _ hp))
        exact ⟨k _ _ (a2 p hp) this.1, this.2⟩

-- lists
theorem t_list {l : Addr} {its : List Value} {i : Int} {ti : Tok} {v : Value} (j : Nat) (hl : h.IsList l its.toArray) (hi : i = (j : Int)) (hx : its[j]? = some v) (hz : j < 2 ^ 62) (k : QV v (mk z h t))
    (hs : ∀ o i, subscripted slice false o i = operate [o, i] (getItem o i)) (ht : ∀ a r, letTemporaryGo value (.ref a) r = pure ()) :
    wpAny (model Prg w) A (subscriptTail value slice (.ref l) (.int i ti)) QV E (mk z h t) := by
  subst hi
  exact PyProof.Rows.item_list (s := mk z h t) hl (by omega) (by omega) (by simpa using hx) k (hs _ _) (ht _)
theorem t_tup {l : Addr} {its : List Value} {i : Int} {ti : Tok} {v : Value} (j : Nat) (hl : IsTup h l its.toArray) (hi : i = (j : Int)) (hx : its[j]? = some v) (hz : j < 2 ^ 62) (k : QV v (mk z h t))
    (hs : ∀ o i, subscripted slice false o i = operate [o, i] (getItem o i)) :
    wpAny (model Prg w) A (subscriptTail value slice (.ref l) (.int i ti)) QV E (mk z h t) := by
  subst hi
  refine PyProof.Rows.item_tupleT (s := mk z h t) hl (by omega) (by omega) (j := j) ?_ hx k (hs _ _)
  have : j < its.length := by have := List.getElem?_eq_some_iff.mp hx; exact this.1
  unfold seqIndex?; simp; omega
theorem t_listZ {l : Addr} {its : List Value} {i : Int} {ti : Tok} {v : Value} (hl : h.IsList l its.toArray) (hi : 0 ≤ i) (hx : its[i.toNat]? = some v) (hz : i < 2 ^ 62) (k : QV v (mk z h t))
    (hs : ∀ o i, subscripted slice false o i = operate [o, i] (getItem o i)) (ht : ∀ a r, letTemporaryGo value (.ref a) r = pure ()) :
    wpAny (model Prg w) A (subscriptTail value slice (.ref l) (.int i ti)) QV E (mk z h t) := t_list i.toNat hl (by omega) hx (by omega) k hs ht
theorem t_tupZ {l : Addr} {its : List Value} {i : Int} {ti : Tok} {v : Value} (hl : IsTup h l its.toArray) (hi : 0 ≤ i) (hx : its[i.toNat]? = some v) (hz : i < 2 ^ 62) (k : QV v (mk z h t))
    (hs : ∀ o i, subscripted slice false o i = operate [o, i] (getItem o i)) :
    wpAny (model Prg w) A (subscriptTail value slice (.ref l) (.int i ti)) QV E (mk z h t) := t_tup i.toNat hl (by omega) hx (by omega) k hs
theorem v_len {l : Addr} {its : List Value} (hl : h.IsList l its.toArray) (hz : its.length < 2 ^ 62) (k : QV (.int its.length (t + 1)) (mk z h (t + 1 + 1))) : wpAny (model Prg w) A (call (.builtin "len") [.ref l]) QV E (mk z h t) :=
  PyProof.Rows.len_list (s := mk z h t) hl (by simp; omega) (by rw [List.size_toArray]; exact k)
theorem v_lenT {l : Addr} {its : List Value} (hl : IsTup h l its.toArray) (hz : its.length < 2 ^ 62) (k : QV (.int its.length (t + 1)) (mk z h (t + 1 + 1))) : wpAny (model Prg w) A (call (.builtin "len") [.ref l]) QV E (mk z h t) :=
  PyProof.Rows.len_tuple (s := mk z h t) hl (by simp; omega) (by rw [List.size_toArray]; exact k)
theorem isList_of (S : St w h₀ L ns vs N h) {l : Addr} {its : Array Value} {n : Nat} (hm : (l, listOf its n) ∈ N) : h.IsList l its := ⟨_, (S.W _ hm).1, rfl, n, rfl⟩
abbrev tupOf (its : List Value) : Obj := { cls := .type "tuple", data := .seq its.toArray }
theorem isTup_of (S : St w h₀ L ns vs N h) {l : Addr} {its : List Value} (hm : (l, tupOf its) ∈ N) : IsTup h l its.toArray := ⟨_, (S.W _ hm).1, rfl, _, rfl⟩
theorem s_setitem {o i value : Expr} {p' pos : Pos}
    (k : wpAny (model Prg w) A (eval value env) (fun v s₁ => wpAny (model Prg w) A (eval o env) (fun ov s₂ => wpAny (model Prg w) A (eval i env) (fun iv s₃ => wpAny (model Prg w) A (setItem ov iv v) (fun _ s₄ => wpAny (model Prg w) A (execs rest env) Q E s₄) E s₃) E s₂) E s₁) E s)
    (hs : swapsWith value (some (.Subscript o i p')) pos.line env = pure false) :
    wpAny (model Prg w) A (execs (.Assign [.Subscript o i p'] value pos :: rest) env) Q E s := s_cons (wpAny_Assign_Subscript k hs)
theorem v_setlist {QU : Unit → Shared → Prop} {l : Addr} {its q : List Value} {n : Nat} {i : Int} {ti : Tok} {v : Value} (j : Nat) (S : St w h₀ L ns vs N h) (hi : i = (j : Int)) (hz : j < 2 ^ 62) (e : ki_setL its j v = some q) (u : UpdN N l (listOf its.toArray n) (listOf q.toArray n) N')
    (k : ∀ h', St w h₀ L ns vs N' h' → QU () (mk z h' t)) : wpAny (model Prg w) A (setItem (.ref l) (.int i ti) v) QU E (mk z h t) := by
  subst hi
  refine ki_set (s := mk z h t) S.F S.W (by omega) (by omega) (by simpa using e) (u.upd S.nd) fun h' F' N'' => k h' ⟨F', N'', S.G₀, u.keys ▸ S.nd, S.len⟩
theorem v_append {l : Addr} {its : List Value} {n : Nat} {v : Value} (S : St w h₀ L ns vs N h) (u : UpdN N l (listOf its.toArray n) (listOf (its ++ [v]).toArray (n + 1)) N') (hz : its.length ≤ sizeLine)
    (k : ∀ h', St w h₀ L ns vs N' h' → QV .none (mk z h' t)) : wpAny (model Prg w) A (call (.builtin "list.append") [.ref l, v]) QV E (mk z h t) := by
  have e : (its ++ [v]).toArray = its.toArray.push v := by simp
  rw [e] at u
  exact append_K (s := mk z h t) S.F S.W (u.upd S.nd) (fun h' F' N'' => k h' ⟨F', N'', S.G₀, u.keys ▸ S.nd, S.len⟩) (by simpa using hz)
theorem e_list {elts : List Expr} (k : wpAny (model Prg w) A (spliced (backTo pos (starEach elts env))) (fun vs s₁ => wpAny (model Prg w) A (newList vs) QV E s₁) E s) : wpAny (model Prg w) A (eval (.List elts pos) env) QV E s := List_ k
theorem e_tuple {elts : List Expr} {kk : Nat} (k : wpAny (model Prg w) A (spliced (backTo pos (starEach elts env))) (fun vs s₁ => wpAny (model Prg w) A (newTuple vs) QV E s₁) E s) : wpAny (model Prg w) A (eval (.Tuple elts kk pos) env) QV E s := Tuple_ k
theorem v_newList {its : List Value} (S : St w h₀ L ns vs N h) (k : ∀ l h', St w h₀ L ns vs ((l, listOf its.toArray 0) :: N) h' → QV (.ref l) (mk z h' t)) (hz : its.length ≤ sizeLine) : wpAny (model Prg w) A (newList its) QV E (mk z h t) :=
  wpAny_newObj_type (s := mk z h t) (k _ _ (S.push _)) (by show its.toArray.size ≤ sizeLine; simpa using hz)
theorem v_newTuple {its : List Value} (S : St w h₀ L ns vs N h) (k : ∀ l h', St w h₀ L ns vs ((l, tupOf its) :: N) h' → QV (.ref l) (mk z h' t)) (hz : its.length ≤ sizeLine) : wpAny (model Prg w) A (newTuple its) QV E (mk z h t) :=
  wpAny_newObj_type (s := mk z h t) (k _ _ (S.push _)) (by show its.toArray.size ≤ sizeLine; simpa using hz)

-- calls of methods
theorem e_meth {o : Expr} {name : Str} {apos : Pos} {args : List Expr} {pl : Sem Bool}
    (k : wpAny (model Prg w) A (eval o env) (fun ov s₁ => wpAny (model Prg w) A (getMethod ov name pl) (fun fx s₂ => wpAny (model Prg w) A (callWith pos fx.1 fx.2 (backTo pos (starEach args env)) []) QV E s₂) E s₁) E s)
    (he : eval (.Call (.Attribute o name apos) args [] pos) env = (do
      let ov ← eval o env
      standAt apos.atName
      let (f, first) ← holding [ov] (getMethod ov name pl)
      callWith pos f first (backTo pos (starEach args env)) [])) :
    wpAny (model Prg w) A (eval (.Call (.Attribute o name apos) args [] pos) env) QV E s := MethodCall_ k he
theorem s_expr {e : Expr} {pos : Pos} (k : wpAny (model Prg w) A (eval e env) (fun v s' => v = .none ∧ wpAny (model Prg w) A (execs rest env) Q E s') E s)
    (hi : interactive env = false) (hs : swapsWith e none pos.line env = pure false) : wpAny (model Prg w) A (execs (.Expr e pos :: rest) env) Q E s :=
  s_cons (wpAny_Expr (wpAny_mono k (fun v s' q => by obtain ⟨rfl, q⟩ := q; exact q) fun _ _ x => x) hi hs)

/-- entering a def that turns some of its caller's objects: they are the ledger of the start -/
theorem enterB {n : Nat} {name qual : Str} {params : Arguments} {body : List Stmt} {scope : Scope} {cl : List (Str × Addr)} {dV kV doc pm cdv ct oc : Value} {an od : Option Addr} {osl : Array (Option Value)} {f : Addr}
    {args : List Value} {kw : List (Str × Value)} {binds : List (Str × Value)} (g : Heap) (N₀ : List (Addr × Obj)) (ns gs : List Str)
    (ho : (KK w).lookup f = some ⟨oc, od, .func (fnX name qual params body scope cl dV kV doc pm an cdv ct), osl⟩) (r : Room A (n + 1)) (G : Gl w g) (gs' : g.StaysIn h) (gz : g.objs.size = h.objs.size)
    (gN : ∀ p ∈ N₀, h.get? p.1 = some p.2 ∧ g.get? p.1 = none) (nd : (N₀.map (·.1)).Nodup) (hcd : codeIn (KK w) cdv qual = true)
    (hbind : BindsTo (mk z h t) (fnX name qual params body scope cl dV kV doc pm an cdv ct) ⟨args, kw⟩ binds) (C : Sc scope ns gs) (hi : initOk binds ns)
    (k : ∀ A' L h' t' env, env = envX qual scope L f cdv cl → Room A' n → (∃ l, A'.frames = some (env :: l)) → Fn env L ns gs → St w g L ns (initL binds ns) N₀ h' →
      wpAny (model Prg w) A' (execs body env) (fun fl s' => QV (match fl with | .ret v => v | _ => .none) s') (fun _ _ => False) (mk z h' t')) :
    wpAny (model Prg w) A (call (.ref f) args kw) QV E (mk z h t) := by
  obtain ⟨p, lo, mg, mb, T⟩ := (G.keeps gs').T
  have X := G.X.keeps gs'
  have hb : ∀ (bs : List (Str × Value)) (ns : List Str), initOk bs ns → ∀ x ∈ bs, x.1 ∈ ns := by
    intro bs
    induction bs with
    | nil => intro _ _ x hx; cases hx
    | cons b bs ih =>
      intro ns ok x hx
      cases ns with
      | nil => exact ok.elim
      | cons n ns =>
        rcases List.mem_cons.mp hx with rfl | hx
        · rw [ok.1]; exact .head _
        · exact .tail _ (ih ns ok.2 x hx)
  refine wpAny_call ?_
  refine codeAny_call_def (s := mk z h t) (fd := fnX name qual params body scope cl dV kV doc pm an cdv ct) (body := body) (binds := binds) r.depth (X _ _ ho) rfl T.nolimit (codeRec_of X hcd) rfl hbind C.cell
    (fun x hx => C.loc _ (hb _ _ hi x hx)) (fun h₁ hns hk => ?_) C.co C.gen C.kind
  obtain ⟨l, hl⟩ := r.fr
  refine wpAny_mono (k (A.deeper (envX qual scope h.objs.size f cdv cl)) h.objs.size h₁ _ _ rfl (r.deeper (Nat.le_refl _)) ⟨l, by show A.frames.map _ = _; rw [hl]; rfl⟩
    ⟨C.kind, C.nodup, C.loc, C.glo, C.dbg, C.dbg', rfl, rfl, rfl, rfl⟩ ⟨⟨look_init binds ns hi C.nodup ▸ hns, fun b o e => hk b o (gs' b o e), Nat.le_of_eq gz⟩, fun p hp => ⟨hk _ _ (gN p hp).1, fun e => ?_, (gN p hp).2⟩, G, nd, initL_len _ _⟩) (fun fl s' q => ?_) fun _ _ q => q.elim
  · exact absurd (Heap.lt_size (gN p hp).1) (by rw [e]; exact Nat.lt_irrefl _)
  · cases fl <;> exact q
-- looks at the tree's head: they fail at once where another stands
theorem g_execs {ss : List Stmt} (k : wpAny (model Prg w) A (execs ss env) Q E s) : wpAny (model Prg w) A (execs ss env) Q E s := k
theorem g_eval {e : Expr} (k : wpAny (model Prg w) A (eval e env) QV E s) : wpAny (model Prg w) A (eval e env) QV E s := k
theorem g_isTrue {e : Expr} {wh : Sem Value} (k : wpAny (model Prg w) A (isTrue e env wh) QB E s) : wpAny (model Prg w) A (isTrue e env wh) QB E s := k
theorem g_bin {op : Operator} {a b : Value} (k : wpAny (model Prg w) A (binaryOp op a b) QV E s) : wpAny (model Prg w) A (binaryOp op a b) QV E s := k
theorem g_cmp {op : CmpOp} {a b : Value} (k : wpAny (model Prg w) A (compareOp op a b) QV E s) : wpAny (model Prg w) A (compareOp op a b) QV E s := k
theorem g_sub {o i : Value} (k : wpAny (model Prg w) A (subscriptTail value slice o i) QV E s) : wpAny (model Prg w) A (subscriptTail value slice o i) QV E s := k
theorem g_call {f : Value} {as : List Value} (k : wpAny (model Prg w) A (call f as) QV E s) : wpAny (model Prg w) A (call f as) QV E s := k
end
end
local macro_rules | `(tactic| tm_at "m_gf") => `(tactic| fail "no name of the top")
local macro_rules | `(tactic| tm_at "m_biB") => `(tactic| fail "no built-in function")
local macro_rules | `(tactic| tm_at "m_biT") => `(tactic| fail "no built-in type")
local macro_rules | `(tactic| tm_at "m_isl") => `(tactic| first | with_reducible assumption | exact isList_of (by with_reducible assumption) (by tm_at "m_mem"))
local macro_rules | `(tactic| tm_at "m_ist") => `(tactic| first | with_reducible assumption | exact isTup_of (by with_reducible assumption) (by tm_at "m_mem"))
local macro_rules | `(tactic| tm_at "m_s") => `(tactic| ((with_reducible refine g_execs ?_); first
  | ((with_reducible refine s_assign ?_ ?e); (case e => with_unfolding_all rfl))
  | with_reducible refine s_if ?_
  | with_reducible refine s_ret ?_
  | with_reducible refine s_nilT ?_
  | with_reducible refine s_aug ?_
  | with_reducible refine s_nil ?_
  | ((with_reducible refine s_setitem ?_ ?e); (case e => with_unfolding_all rfl))
  | ((with_reducible refine s_expr ?_ ?i ?e); (case i => with_unfolding_all rfl); (case e => with_unfolding_all rfl))))
local macro_rules | `(tactic| tm_at "m_e") => `(tactic| ((with_reducible refine g_eval ?_); first
  | ((with_reducible refine' x_load ?C ?S ?a ?_); (case C => tm_at "m_asm"); (case S => tm_at "m_asm"); (case a => tm_at "m_at"))
  | with_reducible refine x_int ?_
  | with_reducible refine e_bin ?_
  | with_reducible refine x_str ?_
  | with_reducible refine e_sub ?_
  | ((with_reducible refine e_cmp ?_ ?e); (case e => with_unfolding_all rfl))
  | with_reducible refine e_un ?_
  | with_reducible refine x_none ?_
  | with_reducible refine x_bool ?_
  | with_reducible refine x_bytes ?_
  | with_reducible refine e_slice ?_
  | with_reducible refine e_list ?_
  | with_reducible refine e_tuple ?_
  | ((with_reducible refine' x_callf ?C ?S ?m ?g ?_ ?e ?e'); (case g => tm_at "m_gf"); (case C => tm_at "m_asm"); (case S => tm_at "m_asm"); (case m => tm_at "m_mem"); (case e => with_unfolding_all rfl); (case e' => with_unfolding_all rfl))
  | ((with_reducible refine' x_callB ?C ?S ?m ?g ?_ ?e ?e'); (case g => tm_at "m_biB"); (case C => tm_at "m_asm"); (case S => tm_at "m_asm"); (case m => tm_at "m_mem"); (case e => with_unfolding_all rfl); (case e' => with_unfolding_all rfl))
  | ((with_reducible refine' x_callT ?C ?S ?m ?g ?_ ?e ?e'); (case g => tm_at "m_biT"); (case C => tm_at "m_asm"); (case S => tm_at "m_asm"); (case m => tm_at "m_mem"); (case e => with_unfolding_all rfl); (case e' => with_unfolding_all rfl))
  | ((with_reducible refine' e_meth ?_ ?e); (case e => with_unfolding_all rfl))))
local macro_rules | `(tactic| tm_at "m_sp") => `(tactic| first
  | ((with_reducible refine e_args ?_ ?e); (case e => with_unfolding_all rfl))
  | with_reducible refine x_spnil ?_
  | with_reducible refine p_none ?_
  | with_reducible refine p_some ?_)
local macro_rules | `(tactic| tm_at "m_c") => `(tactic| ((with_reducible refine g_isTrue ?_); first
  | ((with_reducible refine c_cmp ?_ ?e); (case e => with_unfolding_all rfl))
  | with_reducible refine c_not ?_
  | with_reducible refine c_or0 ?_
  | with_reducible refine c_or ?_
  | with_reducible refine c_and0 ?_
  | with_reducible refine c_and ?_
  | ((with_reducible refine c_plain ?_ ?e); (case e => with_unfolding_all rfl))))
local macro_rules | `(tactic| tm_at "m_b") => `(tactic| ((with_reducible refine g_bin ?_); first
  | with_reducible refine v_add ?_
  | with_reducible refine v_sub ?_
  | ((with_reducible refine v_mul ?_ ?e); (case e => first | (left; omega) | (right; omega)))
  | ((with_reducible refine v_mod ?_ ?e); (case e => omega))
  | ((with_reducible refine v_fdiv ?_ ?e ?e'); (case e => omega); (case e' => omega))
  | ((with_reducible refine v_pow2 ?_ ?e ?e'); (case e => omega); (case e' => omega))
  | ((with_reducible refine v_sadd ?_ ?e); (case e => assumption); intro _ _)))
local macro_rules | `(tactic| tm_at "m_k") => `(tactic| ((with_reducible refine g_cmp ?_); first
  | with_reducible refine v_lt ?_
  | with_reducible refine v_gt ?_
  | with_reducible refine v_eq ?_
  | with_reducible refine v_ne ?_
  | with_reducible refine v_le ?_
  | with_reducible refine v_ge ?_
  | with_reducible refine v_seq ?_
  | with_reducible refine v_sne ?_))
local macro_rules | `(tactic| tm_at "m_i") => `(tactic| ((with_reducible refine g_sub ?_); first
  | ((with_reducible refine' t_listZ ?L ?a ?x ?b ?_ ?e ?f); (case L => tm_at "m_isl"); (case a => decide); (case x => exact rfl); (case b => decide); (case e => (intros; with_unfolding_all rfl)); (case f => (intros; with_unfolding_all rfl)))
  | ((with_reducible refine' t_tupZ ?L ?a ?x ?b ?_ ?e); (case L => tm_at "m_ist"); (case a => decide); (case x => exact rfl); (case b => decide); (case e => (intros; with_unfolding_all rfl)))))
local macro_rules | `(tactic| tm_at "m_v") => `(tactic| first
  | ((with_reducible refine' x_store ?C ?S ?a ?_); (case C => tm_at "m_asm"); (case S => tm_at "m_asm"); (case a => tm_at "m_put"); intro _ _ _)
  | with_reducible refine c_bool ?_
  | ((with_reducible refine' x_loadN ?C ?S ?a ?_); (case C => tm_at "m_asm"); (case S => tm_at "m_asm"); (case a => tm_at "m_at"))
  | with_reducible refine v_neg ?_
  | with_reducible refine v_truthy ?_
  | ((with_reducible refine' v_newList ?S ?_ ?z); (case S => tm_at "m_asm"); (case z => first | decide | (rw [sizeLine_eq]; simp)); intro _ _ _)
  | ((with_reducible refine' v_newTuple ?S ?_ ?z); (case S => tm_at "m_asm"); (case z => first | decide | (rw [sizeLine_eq]; simp)); intro _ _ _))
local macro_rules | `(tactic| tm_at "m") => `(tactic| first | tm_at "m_e" | tm_at "m_s" | tm_at "m_sp" | tm_at "m_b" | tm_at "m_i" | tm_at "m_v" | tm_at "m_k" | tm_at "m_c")
section
open PySem PySem.W PyProof.Rows PySem.Calls
theorem bi_len (w : World) : BI w "len" (.builtin "len") := ⟨by kernel_rfl, by kernel_rfl, by decide⟩
end
local macro_rules | `(tactic| tm_at "m_biB") => `(tactic| with_reducible exact bi_len _)
section
open PySem PySem.W PyProof.Rows PySem.Calls
/-- the bits, read from behind -/
def turnN : Nat → Nat → Nat
  | 0, _ => 0
  | k + 1, n => 2 * turnN k n + n / 2 ^ k % 2
/-- the letters of a number, the highest bit first -/
def lets : Nat → Nat → List Nat
  | 0, _ => []
  | k + 1, n => (48 + n / 2 ^ k % 2) :: lets k n
theorem lets_len (k n : Nat) : (lets k n).length = k := by induction k with
  | zero => rfl
  | succ k ih => simp [lets, ih]
theorem halve (n i : Nat) : ((n / 2 ^ i : Nat) : Int) / 2 = ((n / 2 ^ (i + 1) : Nat) : Int) := by
  rw [Nat.pow_succ, ← Nat.div_div_eq_div_mul]; omega
theorem bit_of (n i : Nat) : ((n / 2 ^ i : Nat) : Int) % 2 = ((n / 2 ^ i % 2 : Nat) : Int) := by omega
theorem get01 {b : Nat} (h : b < 2) : [48, 49][b]'(by simpa using h) = 48 + b := by
  rcases Nat.lt_or_ge b 1 with q | q
  · have : b = 0 := by omega
    subst this; rfl
  · have : b = 1 := by omega
    subst this; rfl

theorem c_turned {w : World} {A : Around} {E : Value → Shared → Prop} {z : Shared} {h : Heap} {t : Nat} {Q : Value → Shared → Prop} (r : Room A 3) (G : Gl w h) (n s : Nat) (tn ts : Tok) (hs : s ≤ 100)
    (k : ∀ tv h' t', h.StaysIn h' → Q (.int (turnN s n : Nat) tv) (mk z h' t')) :
    wpAny (model Prg w) A (call (.ref 544) [.int n tn, .int s ts]) Q E (mk z h t) := by
  refine enter (n := 2) (binds := [(Str.ofString "number", .int n tn), (Str.ofString "size", .int s ts)]) [Str.ofString "number", Str.ofString "size", Str.ofString "out", Str.ofString "_k"] [Str.ofString "range"] rfl r G (by kernel_rfl) (BindsTo.of_eq rfl) (by tm_at "m_sc") ⟨rfl, rfl, trivial⟩ ?_
  intro A' L h' t' env he r' hfr C S
  clear he hfr
  dsimp only [initL] at S
  tm_at "ms"
  tm_at "m_forR"
  tm_at "ms"
  refine rfor (fun i vs N => N = [] ∧ ∃ t1 t2 u, vs = [some (.int (n / 2 ^ i : Nat) t1), some (.int s ts), some (.int (turnN i n : Nat) t2), u]) s rfl (by omega) (by assumption) ⟨rfl, _, _, _, by simp only [Nat.pow_zero, Nat.div_one]; rfl⟩ ?_ ?_
  · rintro i vs N h t ⟨I, o⟩ tk hi ⟨rfl, t1, t2, u, rfl⟩ S
    tm_at "m_vs"
    tm_at "ms"
    rename St _ _ _ _ _ _ _ => hS
    have e2 : ((turnN i n : Nat) : Int) * 2 + ((n / 2 ^ i : Nat) : Int) % 2 = ((turnN (i + 1) n : Nat) : Int) := by
      rw [bit_of]; show _ = ((2 * turnN i n + n / 2 ^ i % 2 : Nat) : Int); omega
    rw [halve n i, e2] at hS
    exact Turned.mk' hS ⟨rfl, _, _, _, rfl⟩
  · rintro vs N h t ⟨rfl, t1, t2, u, rfl⟩ S
    tm_at "ms"
    exact k _ _ _ S.F.keep

theorem c_letters {w : World} {A : Around} {E : Value → Shared → Prop} {z : Shared} {h : Heap} {t : Nat} {Q : Value → Shared → Prop} (r : Room A 3) (G : Gl w h) (n s : Nat) (tn ts : Tok) (hs : s ≤ 100)
    (k : ∀ tv h' t', h.StaysIn h' → Q (.str (Mine.S (lets s n)) tv) (mk z h' t')) :
    wpAny (model Prg w) A (call (.ref 537) [.int n tn, .int s ts]) Q E (mk z h t) := by
  refine enter (n := 2) (binds := [(Str.ofString "number", .int n tn), (Str.ofString "size", .int s ts)]) [Str.ofString "number", Str.ofString "size", Str.ofString "text", Str.ofString "_k"] [Str.ofString "range"] rfl r G (by kernel_rfl) (BindsTo.of_eq rfl) (by tm_at "m_sc") ⟨rfl, rfl, trivial⟩ ?_
  intro A' L h' t' env he r' hfr C S
  clear he hfr
  dsimp only [initL] at S
  tm_at "ms"
  tm_at "m_forR"
  tm_at "ms"
  refine rfor (fun i vs N => N = [] ∧ ∃ t1 t2 u, vs = [some (.int (n / 2 ^ i : Nat) t1), some (.int s ts), some (.str (Mine.S (lets i n)) t2), u]) s rfl (by omega) (by assumption) ⟨rfl, _, _, _, by simp only [Nat.pow_zero, Nat.div_one, lit_nil]; rfl⟩ ?_ ?_
  · rintro i vs N h t ⟨I, o⟩ tk hi ⟨rfl, t1, t2, u, rfl⟩ S
    tm_at "m_vs"
    tm_at "ms"
    have hb : n / 2 ^ i % 2 < 2 := Nat.mod_lt _ (by decide)
    refine t_item (n / 2 ^ i % 2) lit_01 (bit_of n i) (by simpa using hb) (by decide) ?_ (by tm_at "m_hs") (by tm_at "m_hs")
    rw [get01 hb]
    have hz : (Mine.S [48 + n / 2 ^ i % 2]).length + (Mine.S (lets i n)).length ≤ sizeLine := by rw [S_len, S_len, lets_len, sizeLine_eq]; simp; omega
    tm_at "ms"
    rename St _ _ _ _ _ _ _ => hS
    rw [halve n i, S_app] at hS
    exact Turned.mk' hS ⟨rfl, _, _, _, rfl⟩
  · rintro vs N h t ⟨rfl, t1, t2, u, rfl⟩ S
    tm_at "ms"
    exact k _ _ _ S.F.keep
end
section
open PySem PySem.W PyProof.Rows PySem.Calls
/-- the box: the few, the count -/
abbrev boxO (fw : Addr) (c : Int) (tc : Tok) (n : Nat) : Obj := listOf [.ref fw, .int c tc].toArray n
/-- the few: ints from 0 below 1000003 -/
structure Few (h : Heap) (fw : Addr) : Prop where
  few : ∃ vs : List Value, h.IsList fw vs.toArray ∧ vs ≠ [] ∧ vs.length ≤ 64 ∧ ∀ v ∈ vs, ∃ i t, v = .int i t ∧ 0 ≤ i ∧ i < 1000003
theorem Few.keeps {h h' : Heap} {fw : Addr} (f : Few h fw) (k : h.StaysIn h') : Few h' fw := by
  obtain ⟨vs, hl, r⟩ := f.few
  exact ⟨vs, hl.at fun o e => k _ _ e, r⟩

theorem c_draw {w : World} {A : Around} {E : Value → Shared → Prop} {z : Shared} {h : Heap} {t : Nat} {Q : Value → Shared → Prop} (r : Room A 3) (g : Heap) (G : Gl w g) (gs : g.StaysIn h)
    (bx fw : Addr) (c : Int) (tc : Tok) (n : Nat) (l : Int) (tl : Tok) (hb : h.get? bx = some (boxO fw c tc n)) (hg : g.get? bx = none) (hf : Few g fw) (hc0 : 0 ≤ c) (hc1 : c < 100000) (hl0 : 0 < l) (hl1 : l < 1000000)
    (k : ∀ v tv tc' h' t', 0 ≤ v → v < l → (∀ b o, b ≠ bx → h.get? b = some o → h'.get? b = some o) → h'.get? bx = some (boxO fw (c + 1) tc' n) → Q (.int v tv) (mk z h' t')) :
    wpAny (model Prg w) A (call (.ref 530) [.ref bx, .int l tl]) Q E (mk z h t) := by
  have hgs : g.StaysIn (h.hide bx) := fun b o e => (Heap.hide_ne h (fun q : b = bx => by rw [q, hg] at e; cases e)).trans (gs b o e)
  refine enterB (n := 2) (binds := [(Str.ofString "box", .ref bx), (Str.ofString "limit", .int l tl)]) (h.hide bx) [(bx, boxO fw c tc n)] [Str.ofString "box", Str.ofString "limit", Str.ofString "few"] [Str.ofString "len"] rfl r (G.keeps hgs)
    (fun b o e => Heap.of_hide e) (Heap.hide_size h bx) (fun p hp => ?_) (by simp) (by kernel_rfl) (BindsTo.of_eq rfl) (by tm_at "m_sc") ⟨rfl, rfl, trivial⟩ ?_
  · rw [List.mem_singleton.mp hp]; exact ⟨hb, Heap.hide_self h bx⟩
  intro A' L h' t' env he r' hfr C S
  clear he hfr
  dsimp only [initL] at S
  tm_at "ms"
  refine v_setlist 1 S rfl (by decide) rfl (by tm_at "m_upd") ?_
  intro h2 S2
  tm_at "ms"
  obtain ⟨vs, hl, hne, hlen, hi⟩ := hf.few
  have hpos : 0 < vs.length := List.length_pos_iff.mpr hne
  rename St _ _ _ _ _ _ _ => S3
  have hl3 := (hl.at fun o e => S3.F.keep _ _ (hgs _ _ e))
  refine v_len hl3 (by omega) ?_
  tm_at "ms"
  have hj : ((c + 1 - 1) % (vs.length : Int)).toNat < vs.length := by
    have := Int.emod_lt_of_pos (c + 1 - 1) (show (0 : Int) < vs.length by omega)
    have := Int.emod_nonneg (c + 1 - 1) (show (vs.length : Int) ≠ 0 by omega)
    omega
  obtain ⟨i, ti, hv, hi0, hi1⟩ := hi _ (List.getElem_mem hj)
  refine t_list _ hl3 (by have := Int.emod_nonneg (c + 1 - 1) (show (vs.length : Int) ≠ 0 by omega); omega) (List.getElem?_eq_getElem hj) (by omega) ?_ (by tm_at "m_hs") (by tm_at "m_hs")
  rw [hv]
  tm_at "ms"
  refine k _ _ (t' + 1 + 1) _ _ (Int.emod_nonneg _ (by omega)) (Int.emod_lt_of_pos _ hl0) (fun b o hb' e => S3.F.keep b o ((Heap.hide_ne h hb').trans e)) (S3.W _ (.head _)).1

/-- a draw at a call -/
theorem x_draw {w : World} {A : Around} {E : Value → Shared → Prop} {z : Shared} {h h₀ : Heap} {t : Nat} {L : Addr} {ns : List Str} {vs : List (Option Value)} {N : List (Addr × Obj)} {Q : Value → Shared → Prop}
    (r : Room A 3) (S : St w h₀ L ns vs N h) {bx fw : Addr} {c : Int} {tc : Tok} {n : Nat} {l : Int} {tl : Tok} (N' : Tok → List (Addr × Obj)) (u : ∀ tc', UpdN N bx (boxO fw c tc n) (boxO fw (c + 1) tc' n) (N' tc')) (hf : Few h fw) (hne : fw ≠ bx) (hc0 : 0 ≤ c) (hc1 : c < 100000) (hl0 : 0 < l) (hl1 : l < 1000000)
    (k : ∀ v tv tc' h' t', 0 ≤ v → v < l → h₀.StaysIn h' → St w h₀ L ns vs (N' tc') h' → Few h' fw → Q (.int v tv) (mk z h' t')) :
    (KK w).In (mk z h t).heap ∧ wpAny (model Prg w) A (call (.ref 530) [.ref bx, .int l tl]) Q E (mk z h t) := by
  have wb := S.W _ (u tc).mem
  have hgs : h₀.StaysIn (h.hide bx) := fun b o e => (Heap.hide_ne h (fun q : b = bx => by rw [q, wb.2.2] at e; cases e)).trans (S.F.keep b o e)
  have hfg : Few (h.hide bx) fw := by
    obtain ⟨vs, hl, r⟩ := hf.few
    exact ⟨vs, hl.at fun o e => (Heap.hide_ne h hne).trans e, r⟩
  refine ⟨S.G.X, c_draw r (h.hide bx) (S.G₀.keeps hgs) (fun b o e => Heap.of_hide e) bx fw c tc n l tl wb.1 (Heap.hide_self h bx) hfg hc0 hc1 hl0 hl1 fun v tv tc' h' t' hv0 hv1 hk hb => ?_⟩
  have S' := S.upd (u tc') hk hb
  refine k v tv tc' h' t' hv0 hv1 S'.F.keep S' ?_
  obtain ⟨vs, hl, r⟩ := hf.few
  exact ⟨vs, hl.at fun o e => hk _ _ hne e, r⟩
end
section
open PySem PySem.W PyProof.Rows PySem.Calls
theorem Room.under {A : Around} {n m : Nat} {C : Value} {as : List Value} {kw : List (Str × Value)} (r : Room A n) (h : m + 1 ≤ n) : Room (A.under (.builtin "type.__call__" ⟨C :: as, kw⟩)) m := by
  have hw : (Code.builtin "type.__call__" ⟨C :: as, kw⟩).weight ≤ 1 := by
    cases C <;> (refine Nat.le_of_lt_succ ?_; first | (with_unfolding_all exact Nat.lt_of_lt_of_eq (show 0 < 2 by decide) rfl) | (with_unfolding_all exact Nat.lt_of_lt_of_eq (show 1 < 2 by decide) rfl))
  have hu : (Code.builtin "type.__call__" ⟨C :: as, kw⟩).cUnits ≤ 1 := by
    first | exact Nat.le_refl _ | (cases C <;> first | exact Nat.le_refl _ | decide)
  refine ⟨r.hd, ?_, ?_, ?_⟩
  · obtain ⟨l, e⟩ := r.fr
    exact ⟨l, by show pushEnvs (Code.builtin "type.__call__" ⟨C :: as, kw⟩).envs A.frames = _; rw [e]; rfl⟩
  · have := r.dep
    show A.depth + (Code.builtin "type.__call__" ⟨C :: as, kw⟩).weight + m < _
    omega
  · have := r.un
    show A.units + (Code.builtin "type.__call__" ⟨C :: as, kw⟩).cUnits + 8 * m < _
    omega

/-- the facts of a class: plain reads, a dict of its own -/
structure PlainC (w : World) (C : Addr) : Prop where
  get : plainGet (KK w) C "" = true
  dict : hasDictIn (KK w) C = true
structure SetC (w : World) (C : Addr) : Prop where
  set : findIn (KK w) (.ref C) "__setattr__" = some (some (.builtin "object.__setattr__"))
  over : plainOver (KK w) C = true
  dict : hasDictIn (KK w) C = true

abbrev de (w : World) (n : Str) (t : Tok) (v : Value) : DictEntry := ⟨PyData.keyHash w.params n, .str n t, v⟩
structure Ob (h : Heap) (x C dx : Addr) (es : List DictEntry) (n : Nat) : Prop where
  ox : h.get? x = some (instObj C dx)
  od : h.get? dx = some (dictOf es n)
theorem Ob.inst {h : Heap} {x C dx : Addr} {es : List DictEntry} {n : Nat} (o : Ob h x C dx es n) : InstAt h x (instObj C dx) C (some (dictOf es n)) := ⟨o.ox, rfl, rfl, o.od⟩
theorem Ob.keeps {h h' : Heap} {x C dx : Addr} {es : List DictEntry} {n : Nat} (o : Ob h x C dx es n) (k : h.StaysIn h') : Ob h' x C dx es n := ⟨k _ _ o.ox, k _ _ o.od⟩

section
variable {w : World} {A : Around} {E : Value → Shared → Prop} {z : Shared} {h h₀ : Heap} {t : Nat} {L : Addr} {env : Env} {s : Shared}
  {ns gs : List Str} {vs vs' : List (Option Value)} {N N' : List (Addr × Obj)} {QV : Value → Shared → Prop} {Q : Flow → Shared → Prop} {QB : Bool → Shared → Prop} {value slice : Expr} {pos p : Pos} {rest : List Stmt}
  {x C dx : Addr} {es es' : List DictEntry} {n n' : Nat} {name : Str} {v : Value}

theorem Ob.of (S : St w h₀ L ns vs N h) (h1 : (x, instObj C dx) ∈ N) (h2 : (dx, dictOf es n) ∈ N) : Ob h x C dx es n := ⟨(S.W _ h1).1, (S.W _ h2).1⟩

theorem e_attr {o : Expr} {attr : Str} {pos : Pos} (k : wpAny (model Prg w) A (eval o env) (fun ov s₁ => wpAny (model Prg w) A (getAttr ov attr true) QV E s₁) E s)
    (he : eval (.Attribute o attr pos) env = (do
      let o' ← eval o env
      standAt pos.atName
      let r ← holding [o'] (getAttr o' attr true)
      letTemporaryGo o o' r
      pure r)) : wpAny (model Prg w) A (eval (.Attribute o attr pos) env) QV E s := Attribute_any_ k he
theorem v_attr {expr : Bool} (S : St w h₀ L ns vs N h) (I : Ob h x C dx es n) (P : PlainC w C) (ha : findIn (KK w) (.ref C) name = some none) (hl : getL name es = some (some v)) (hv : handedIn v = true)
    (k : QV v (mk z h (t + 1))) : wpAny (model Prg w) A (getAttr (.ref x) name expr) QV E (mk z h t) :=
  get_own (s := mk z h t) S.F S.G₀.X I.inst P.get P.dict ha rfl hl hv k
theorem v_meth {pl : Sem Bool} {f : Addr} {QP : Value × List Value → Shared → Prop} (S : St w h₀ L ns vs N h) (I : Ob h x C dx es n) (P : PlainC w C) (hf : findIn (KK w) (.ref C) name = some (some (.ref f))) (ht : isFn (KK w) (.ref f) = true) (hl : getL name es = some none)
    (k : QP (.ref f, [.ref x]) (mk z h t)) : wpAny (model Prg w) A (getMethod (.ref x) name pl) QP E (mk z h t) :=
  method_inst (s := mk z h t) S.F S.G₀.X I.inst P.get hf ht hl k
theorem v_callm {f : Addr} {first : List Value} {e : Expr} {args : List Expr} (S : St w h₀ L ns vs N h) (hk : keepIn (KK w) (.ref f) = true)
    (k : wpAny (model Prg w) A (spliced (backTo pos (starEach (e :: args) env))) (fun vs s₁ => (KK w).In s₁.heap ∧ wpAny (model Prg w) A (call (.ref f) (first ++ vs)) QV E s₁) E (mk z h t))
    (he : starEach (e :: args) env = (false, eval e env) :: starEach args env) (hp : (backTo pos (starEach args env)).any (·.1) = false) :
    wpAny (model Prg w) A (callWith pos (.ref f) first (backTo pos (starEach (e :: args) env)) []) QV E (mk z h t) := callWith_K S.G.X hk k he hp
theorem v_callm0 {f : Addr} {first : List Value} (S : St w h₀ L ns vs N h) (hk : keepIn (KK w) (.ref f) = true)
    (k : wpAny (model Prg w) A (call (.ref f) (first ++ [])) QV E (mk z h t)) :
    wpAny (model Prg w) A (callWith pos (.ref f) first (backTo pos (starEach [] env)) []) QV E (mk z h t) := callWith_K0 (s := mk z h t) S.G.X hk k

theorem s_setattr {o value : Expr} {attr : Str} {p' pos : Pos}
    (k : wpAny (model Prg w) A (eval value env) (fun v s₁ => wpAny (model Prg w) A (eval o env) (fun ov s₂ => wpAny (model Prg w) A (setAttr ov attr v) (fun _ s₃ => wpAny (model Prg w) A (execs rest env) Q E s₃) E s₂) E s₁) E s)
    (hs : swapsWith value (some (.Attribute o attr p')) pos.line env = pure false) :
    wpAny (model Prg w) A (execs (.Assign [.Attribute o attr p'] value pos :: rest) env) Q E s := s_cons (plainObj_wpAny_Assign_Attribute k hs)
theorem v_setattr {QU : Unit → Shared → Prop} (S : St w h₀ L ns vs N h) (I : Ob h x C dx es n) (P : SetC w C) (ht : takerIn (KK w) C name = some none) (hl : (getL name es).isSome = true)
    (es' : Tok → List DictEntry) (n' : Nat) (e : ∀ tk, (putL name (PyData.keyHash w.params name) (.str name tk) v es, putN name es n) = (es' tk, n')) (N' : Tok → List (Addr × Obj)) (u : ∀ tk, UpdN N dx (dictOf es n) (dictOf (es' tk) n') (N' tk)) (hz : ∀ tk, (es' tk).length ≤ 1000)
    (k : ∀ h' tk t', St w h₀ L ns vs (N' tk) h' → QU () (mk z h' t')) : wpAny (model Prg w) A (setAttr (.ref x) name v) QU E (mk z h t) :=
  set_dict (s := mk z h t) S.F S.G₀.X S.W I.inst rfl P.set P.over ht P.dict hl (e _) ((u (t + 1)).upd S.nd) (hz _) fun h' F' N'' => k h' (t + 1) _ ⟨F', N'', S.G₀, (u (t + 1)).keys ▸ S.nd, S.len⟩

/-- how a body's value is taken over at a code's end -/
def CR (QV : Value → Shared → Prop) (r : Result) (s : Shared) : Prop := match r with
  | .ok (.ret v) => QV v s
  | _ => False
theorem call_CR {f : Value} {as : List Value} {kw : List (Str × Value)} (k : codeAny (model Prg w) A (.call f ⟨as, kw⟩) (CR QV) s) : wpAny (model Prg w) A (call f as kw) QV E s :=
  wpAny_call (codeAny_mono k fun r s' q => by rcases r with e | (v | _ | _ | _) <;> first | exact q | exact q.elim)
/-- a class called: its __init__ over a fresh pair of objects -/
theorem v_make {C fI : Addr} {args : List Value} {kw : List (Str × Value)} {m : Nat} (G : Gl w h) (r : Room A (m + 1)) (hm : makesIn (KK w) C = true) (hi : findIn (KK w) (.ref C) "__init__" = some (some (.ref fI))) (hf : isFn (KK w) (.ref fI) = true)
    (k : ∀ A' x dx h', Room A' m → h.StaysIn h' → Ob h' x C dx [] 0 → h.get? x = none → h.get? dx = none → dx ≠ x →
      codeAny (model Prg w) A' (.call (.ref fI) ⟨.ref x :: args, kw⟩) (CR fun v s' => v = .none ∧ QV (.ref x) s') (mk z h' t)) :
    wpAny (model Prg w) A (call (.ref C) args kw) QV E (mk z h t) := by
  refine call_CR ?_
  obtain ⟨zh, zg, zd, zt, zo⟩ := z
  have k1 : h.StaysIn ((h.push emptyDict).push (instObj C h.objs.size)) := fun b o e => Heap.get?_push_of_some _ (Heap.get?_push_of_some _ e)
  refine make_core (g := zg) (d := zd) (t := t) (os := zo) (makes_of G.X hm) (looks_findIn G.X hi) (fun self => bind_fn G.X self (beq_iff_eq.mp hf)) (.inl rfl) ?_
  refine codeAny_mono (k _ (h.objs.size + 1) h.objs.size _ (r.under (C := .ref C) (as := args) (kw := kw) (Nat.le_refl _)) k1 ⟨by heap_get, by heap_get⟩ (Heap.get?_none_of_le (Nat.le_succ _)) (Heap.get?_none_of_le (Nat.le_refl _)) (Nat.ne_of_lt (Nat.lt_succ_self _))) fun r s' q => ?_
  rcases r with e | (v | _ | _ | _) <;> first | exact q | exact q.elim

/-- entering a def by its code, some of the caller's objects turned -/
theorem enterC {n : Nat} {name qual : Str} {params : Arguments} {body : List Stmt} {scope : Scope} {cl : List (Str × Addr)} {dV kV doc pm cdv ct oc : Value} {an od : Option Addr} {osl : Array (Option Value)} {f : Addr}
    {args : List Value} {kw : List (Str × Value)} {binds : List (Str × Value)} (g : Heap) (N₀ : List (Addr × Obj)) (ns gs : List Str)
    (ho : (KK w).lookup f = some ⟨oc, od, .func (fnX name qual params body scope cl dV kV doc pm an cdv ct), osl⟩) (r : Room A (n + 1)) (G : Gl w g) (gs' : g.StaysIn h) (gz : g.objs.size ≤ h.objs.size)
    (gN : ∀ p ∈ N₀, h.get? p.1 = some p.2 ∧ g.get? p.1 = none) (nd : (N₀.map (·.1)).Nodup) (hcd : codeIn (KK w) cdv qual = true)
    (hbind : BindsTo (mk z h t) (fnX name qual params body scope cl dV kV doc pm an cdv ct) ⟨args, kw⟩ binds) (C : Sc scope ns gs) (hi : initOk binds ns)
    (k : ∀ A' L h' t' env, env = envX qual scope L f cdv cl → Room A' n → (∃ l, A'.frames = some (env :: l)) → Fn env L ns gs → St w g L ns (initL binds ns) N₀ h' →
      wpAny (model Prg w) A' (execs body env) (fun fl s' => QV (match fl with | .ret v => v | _ => .none) s') (fun _ _ => False) (mk z h' t')) :
    codeAny (model Prg w) A (.call (.ref f) ⟨args, kw⟩) (CR QV) (mk z h t) := by
  obtain ⟨p, lo, mg, mb, T⟩ := (G.keeps gs').T
  have X := G.X.keeps gs'
  have hb : ∀ (bs : List (Str × Value)) (ns : List Str), initOk bs ns → ∀ x ∈ bs, x.1 ∈ ns := by
    intro bs
    induction bs with
    | nil => intro _ _ x hx; cases hx
    | cons b bs ih =>
      intro ns ok x hx
      cases ns with
      | nil => exact ok.elim
      | cons n ns =>
        rcases List.mem_cons.mp hx with rfl | hx
        · rw [ok.1]; exact .head _
        · exact .tail _ (ih ns ok.2 x hx)
  refine codeAny_call_def (s := mk z h t) (fd := fnX name qual params body scope cl dV kV doc pm an cdv ct) (body := body) (binds := binds) r.depth (X _ _ ho) rfl T.nolimit (codeRec_of X hcd) rfl hbind C.cell
    (fun x hx => C.loc _ (hb _ _ hi x hx)) (fun h₁ hns hk => ?_) C.co C.gen C.kind
  obtain ⟨l, hl⟩ := r.fr
  refine wpAny_mono (k (A.deeper (envX qual scope h.objs.size f cdv cl)) h.objs.size h₁ _ _ rfl (r.deeper (Nat.le_refl _)) ⟨l, by show A.frames.map _ = _; rw [hl]; rfl⟩
    ⟨C.kind, C.nodup, C.loc, C.glo, C.dbg, C.dbg', rfl, rfl, rfl, rfl⟩ ⟨⟨look_init binds ns hi C.nodup ▸ hns, fun b o e => hk b o (gs' b o e), gz⟩, fun p hp => ⟨hk _ _ (gN p hp).1, fun e => ?_, (gN p hp).2⟩, G, nd, initL_len _ _⟩) (fun fl s' q => ?_) fun _ _ q => q.elim
  · exact absurd (Heap.lt_size (gN p hp).1) (by rw [e]; exact Nat.lt_irrefl _)
  · cases fl <;> exact q

theorem node_R {body : List Stmt} {q : Str} {scope : Scope} {p0 p1 : Pos} {attr : Str} {whole : Sem Value} {fd : FuncData} {ar : Arg} {vs : Array Value} {file : Str} {tf : Tok} {oc ccl cl : Value} {od cdd cld : Option Addr} {osl ccs csl : Array (Option Value)} {cdD : ClassData} {f cc cda D : Addr} {K : Frag} {m mg mb : Str → Option Value} {pp : Program} {loose : List Str} {ox : Obj} {odx : Option Obj}
    (F : Fr h₀ L s.heap m) (X₀ : K.In h₀) (NN : News h₀ L s.heap N) (T : TopRead pp loose mg mb h₀)
    (hf : K.lookup f = some ⟨oc, od, .func fd, osl⟩) (hp : (fd.params.posonlyargs ++ fd.params.args).head? = some ar) (hv : m ar.arg = some (.ref x)) (I : InstAt s.heap x ox C odx)
    (hcode : K.lookup cda = some ⟨ccl, cdd, .fields vs, ccs⟩) (hvs : vs[2]? = some (.str file tf)) (hfile : ((Prg.main.file : Str) == file) = true)
    (hcell : K.lookup cc = some ⟨cl, cld, .cell (some (.ref D)), csl⟩) (hD : clsIn K D = some cdD) (hsub : mroIn K C (.ref D) = some true) (hsuper : nsIn K mainGlobals "super" = some none)
    (hat : (attr == ("__class__" : Str)) = false) (hks : scope.names.lookup ("super" : Str) = some .globalImplicit) (hkc : scope.names.lookup ("__class__" : Str) = some .free) (hka : scope.names.lookup ar.arg = some .local) (hk : scope.kind = .function)
    (htop : (Prg.main.scope.names.lookup ("super" : Str)).isSome = false) (hboot : bootBuiltins "super" = some (.type "super"))
    (h : ∀ so h', Fr h₀ L h' m → News h₀ L h' ((so, ks_superObj D x C) :: N) → (∀ b o, s.heap.get? b = some o → h'.get? b = some o) → h'.get? so = some (ks_superObj D x C) → s.heap.get? so = none → QV (.ref so) { s with heap := h' }) :
    _root_.PySem.wpAt (model Prg w) A (.func body (ksEnv q scope L f (.ref cda) cc)) (attributeBase (.Call (.Name "super" p0) [] [] p1) attr (ksEnv q scope L f (.ref cda) cc) whole) QV E s := by
  have X : K.In s.heap := X₀.keeps F.keep
  obtain ⟨hh, g, d, t, os⟩ := s
  obtain ⟨oD, hD1, hD2⟩ : ∃ oD, hh.get? D = some oD ∧ oD.data = .cls cdD := by
    unfold clsIn at hD
    split at hD
    · rename_i c d cd' sl ho
      cases hD
      exact ⟨_, X _ _ ho, rfl⟩
    · cases hD
  refine ks_wpAt_super_base (env := ksEnv q scope L f (.ref cda) cc) hks hkc hat rfl (X _ _ hf) rfl hp rfl (X _ _ hcode) rfl hvs hfile htop ?_
  refine ks_loadName_global hk hks (loadGlobal_builtin (env := ksEnv q scope L f (.ref cda) cc) (T.g.keeps F.keep) (mg_none_of X₀ T.g hsuper) (T.b.keeps F.keep) ((T.builtins _ (by decide +kernel)).trans hboot) ⟨rfl, ?_⟩)
  refine wpAny_loadName_free hk hkc rfl ⟨_, X _ _ hcell, rfl⟩ ?_
  refine wpAny_loadName_local hk hka F.ns hv ?_
  refine ks_wpAny_isType_cls hD1 hD2 ⟨rfl, ?_⟩
  refine ks_wpAny_call_super hD1 hD2 I.at_ I.cls (fun c e => ?_) (looks_mroIn X hsub) (fun h' e k => ?_)
  · have := I.no
    unfold notCls at this
    rw [e] at this
    exact Bool.noConfusion this
  · obtain ⟨F', N', l'⟩ := ks_newsPush (s := ⟨hh, g, d, t, os⟩) F NN rfl e k
    exact h _ _ F' N' k e (Heap.get?_none_of_le (Nat.le_refl _))
theorem method_R {name : Str} {pl : Sem Bool} {QP : Value × List Value → Shared → Prop} {D f2 so : Addr} {ox : Obj} {odx : Option Obj} (S : St w h₀ L ns vs N h) (hso : (so, ks_superObj D x C) ∈ N) (I : InstAt h x ox C odx) (ho : nsIn (KK w) cStatics "thirdparty.any" = some none)
    (hm : ks_superIn (KK w) C D name = some (some (.ref f2))) (ht : typeIn (KK w) (.ref f2) = some (.type "function")) (hn : (name == ("__class__" : Str)) = false)
    (k : ∀ q h', St w h₀ L ns vs ((q, methodObj (.ref f2) (.ref x)) :: N) h' → QP (.ref q, []) (mk z h' (t + 1))) : wpAny (model Prg w) A (getMethod (.ref so) name pl) QP E (mk z h t) :=
  ks_method (s := mk z h t) S.F S.G₀.X S.W hso I ho hm ht hn fun q h' F' N' l => k q h' ⟨F', N', S.G₀, List.nodup_cons.mpr ⟨fun c => by
    obtain ⟨p, hp, e⟩ := List.mem_map.mp c
    exact absurd (l p hp) (by rw [e]; exact Nat.lt_irrefl _), S.nd⟩, S.len⟩
theorem wpAt_mono' {α : Type} {c : Code} {M : Model} {T : Sem α} {Q Q' : α → Shared → Prop} {E E' : Value → Shared → Prop} (h : _root_.PySem.wpAt M A c T Q E s) (hq : ∀ a s', Q a s' → Q' a s') (he : ∀ e s', E e s' → E' e s') : _root_.PySem.wpAt M A c T Q' E' s := ks_wpAt_mono h hq he

/-- entering a def whose first statement is a call on super(): as a statement (ret false) or returned (ret true) -/
theorem enterSup {n : Nat} {name qual mname : Str} {params : Arguments} {scope : Scope} {dV kV doc pm ct oc ccl cl : Value} {cda cc C D f2 x : Addr} {an od cdd cld : Option Addr} {osl ccs csl : Array (Option Value)} {f : Addr} {ar : Arg} {cf : Array Value} {file : Str} {tf : Tok} {cdD : ClassData} {ox : Obj} {odx : Option Obj}
    {args : List Value} {kw : List (Str × Value)} {binds : List (Str × Value)} {e : Expr} {es : List Expr} {p0 p1 p2 p3 p4 : Pos} {rest : List Stmt} {st : Stmt} (g : Heap) (N₀ : List (Addr × Obj)) (ns gs : List Str) (ret : Bool)
    (ho : (KK w).lookup f = some ⟨oc, od, .func (ksFn name qual params (st :: rest) scope dV kV doc pm an (.ref cda) ct cc), osl⟩) (r : Room A (n + 1)) (G : Gl w g) (gs' : g.StaysIn h) (gz : g.objs.size ≤ h.objs.size)
    (hst : st = if ret then .Return (some (.Call (.Attribute (.Call (.Name "super" p0) [] [] p1) mname p2) (e :: es) [] p3)) p4 else .Expr (.Call (.Attribute (.Call (.Name "super" p0) [] [] p1) mname p2) (e :: es) [] p3) p4)
    (gN : ∀ p ∈ N₀, h.get? p.1 = some p.2 ∧ g.get? p.1 = none) (nd : (N₀.map (·.1)).Nodup) (hcd : codeIn (KK w) (.ref cda) qual = true)
    (hbind : BindsTo (mk z h t) (ksFn name qual params (st :: rest) scope dV kV doc pm an (.ref cda) ct cc) ⟨args, kw⟩ binds) (S₀ : Sc scope ns gs) (hi : initOk binds ns)
    (hp : (params.posonlyargs ++ params.args).head? = some ar) (hv : look ns (initL binds ns) ar.arg = some (.ref x)) (I : InstAt h x ox C odx)
    (hcode : (KK w).lookup cda = some ⟨ccl, cdd, .fields cf, ccs⟩) (hvs : cf[2]? = some (.str file tf)) (hfile : ((Prg.main.file : Str) == file) = true)
    (hcell : (KK w).lookup cc = some ⟨cl, cld, .cell (some (.ref D)), csl⟩) (hD : clsIn (KK w) D = some cdD) (hsub : mroIn (KK w) C (.ref D) = some true) (hsuper : nsIn (KK w) mainGlobals "super" = some none)
    (hat : (mname == ("__class__" : Str)) = false) (hks : scope.names.lookup ("super" : Str) = some .globalImplicit) (hkc : scope.names.lookup ("__class__" : Str) = some .free) (hka : scope.names.lookup ar.arg = some .local)
    (htop : (Prg.main.scope.names.lookup ("super" : Str)).isSome = false) (hboot : bootBuiltins "super" = some (.type "super"))
    (hopq : nsIn (KK w) cStatics "thirdparty.any" = some none) (hm : ks_superIn (KK w) C D mname = some (some (.ref f2))) (hft : typeIn (KK w) (.ref f2) = some (.type "function")) (hfn : fnIn (KK w) f2 = true)
    (ha : ∀ env : Env, starEach (e :: es) env = (false, eval e env) :: starEach es env) (ha' : ∀ env : Env, (backTo p3 (starEach es env)).any (·.1) = false)
    (he : ∀ env : Env, ∃ pl, eval (.Call (.Attribute (.Call (.Name "super" p0) [] [] p1) mname p2) (e :: es) [] p3) env = (do
      let ov ← attributeBase (.Call (.Name "super" p0) [] [] p1) mname env (eval (.Call (.Name "super" p0) [] [] p1) env)
      standAt p2.atName
      let (f, first) ← holding [ov] (getMethod ov mname pl)
      callWith p3 f first (backTo p3 (starEach (e :: es) env)) []))
    (hint : ∀ L, interactive (envX qual scope L f (.ref cda) [("__class__", cc)]) = false) (hsw : ∀ env, swapsWith (.Call (.Attribute (.Call (.Name "super" p0) [] [] p1) mname p2) (e :: es) [] p3) none p4.line env = pure false)
    (k : ∀ A' L h' t' env so q, env = envX qual scope L f (.ref cda) [("__class__", cc)] → Room A' n → (∃ l, A'.frames = some (env :: l)) → Fn env L ns gs → St w g L ns (initL binds ns) ((q, methodObj (.ref f2) (.ref x)) :: (so, ks_superObj D x C) :: N₀) h' →
      wpAny (model Prg w) A' (spliced (backTo p3 (starEach (e :: es) env))) (fun vs s₁ => MethP (KK w) q f2 (.ref x) s₁.heap ∧ codeAny (model Prg w) A' (.call (.ref f2) ⟨.ref x :: vs, []⟩)
        (CR fun v s₂ => if ret then QV v s₂ else wpAny (model Prg w) A' (execs rest env) (fun fl s' => QV (match fl with | .ret v => v | _ => .none) s') (fun _ _ => False) s₂) s₁) NoE (mk z h' t')) :
    codeAny (model Prg w) A (.call (.ref f) ⟨args, kw⟩) (CR QV) (mk z h t) := by
  obtain ⟨p, lo, mg, mb, T⟩ := G.T
  have X := G.X.keeps gs'
  have hb : ∀ (bs : List (Str × Value)) (ns : List Str), initOk bs ns → ∀ x ∈ bs, x.1 ∈ ns := by
    intro bs
    induction bs with
    | nil => intro _ _ x hx; cases hx
    | cons b bs ih =>
      intro ns ok x hx
      cases ns with
      | nil => exact ok.elim
      | cons n ns =>
        rcases List.mem_cons.mp hx with rfl | hx
        · rw [ok.1]; exact .head _
        · exact .tail _ (ih ns ok.2 x hx)
  refine ks_codeAny_call_defAt (s := mk z h t) (fd := ksFn name qual params (st :: rest) scope dV kV doc pm an (.ref cda) ct cc) (body := st :: rest) (binds := binds) r.depth (X _ _ ho) rfl (T.nolimit.keeps gs') (codeRec_of X hcd) rfl hbind S₀.cell
    (fun x hx => S₀.loc _ (hb _ _ hi x hx)) (fun h₁ hns hk => ?_) S₀.co S₀.gen S₀.kind
  obtain ⟨l, hl⟩ := r.fr
  have St₁ : St w g h.objs.size ns (initL binds ns) N₀ h₁ := ⟨⟨look_init binds ns hi S₀.nodup ▸ hns, fun b o e => hk b o (gs' b o e), gz⟩, fun p hp => ⟨hk _ _ (gN p hp).1, fun e => absurd (Heap.lt_size (gN p hp).1) (by rw [e]; exact Nat.lt_irrefl _), (gN p hp).2⟩, G, nd, initL_len _ _⟩
  have I₁ : InstAt h₁ x ox C odx := by
    obtain ⟨a, b, c, d⟩ := I
    refine ⟨hk _ _ a, b, c, ?_⟩
    cases q1 : ox.dict <;> cases q2 : odx <;> simp only [q1, q2] at d ⊢
    exact hk _ _ d
  have main : ∀ QV' : Value → Shared → Prop, (∀ v s₂, (if ret then QV v s₂ else wpAny (model Prg w) (A.deeper (ksEnv qual scope h.objs.size f (.ref cda) cc)) (execs rest (ksEnv qual scope h.objs.size f (.ref cda) cc)) (fun fl s' => QV (match fl with | .ret v => v | _ => .none) s') (fun _ _ => False) s₂) → QV' v s₂) →
      _root_.PySem.wpAt (model Prg w) (A.deeper (ksEnv qual scope h.objs.size f (.ref cda) cc)) (.func (st :: rest) (ksEnv qual scope h.objs.size f (.ref cda) cc)) (eval (.Call (.Attribute (.Call (.Name "super" p0) [] [] p1) mname p2) (e :: es) [] p3) (ksEnv qual scope h.objs.size f (.ref cda) cc)) QV' NoE
        (mk z h₁ (t + binds.length)) := by
    intro QV' hQ
    obtain ⟨pl, hev⟩ := he (ksEnv qual scope h.objs.size f (.ref cda) cc)
    refine ks_wpAt_MethodCall (pl := pl) ?_ hev
    refine node_R (s := mk z h₁ (t + binds.length)) St₁.F G.X St₁.W T ho hp hv I₁ hcode hvs hfile hcell hD hsub hsuper hat hks hkc hka S₀.kind htop hboot ?_
    intro so h₂ F₂ N₂ k₂ e₂ n₂
    have St₂ : St w g h.objs.size ns (initL binds ns) ((so, ks_superObj D x C) :: N₀) h₂ := St₁.add k₂ e₂ n₂
    have I₂ : InstAt h₂ x ox C odx := by
      obtain ⟨a, b, c, d⟩ := I₁
      refine ⟨k₂ _ _ a, b, c, ?_⟩
      cases q1 : ox.dict <;> cases q2 : odx <;> simp only [q1, q2] at d ⊢
      exact k₂ _ _ d
    refine method_R St₂ (.head _) I₂ hopq hm hft hat ?_
    intro q h₃ St₃
    have k₃ := k (A.deeper (envX qual scope h.objs.size f (.ref cda) [("__class__", cc)])) h.objs.size h₃ (t + binds.length + 1) _ so q rfl (r.deeper (Nat.le_refl _)) ⟨l, by show A.frames.map _ = _; rw [hl]; rfl⟩
      ⟨S₀.kind, S₀.nodup, S₀.loc, S₀.glo, S₀.dbg, S₀.dbg', rfl, rfl, rfl, rfl⟩ St₃
    refine callWith_of (P := MethP (KK w) q f2 (.ref x)) ?_ (keeps_M hfn) ?_
    · rw [ha]; show ((false || (backTo p3 (starEach es _)).any (·.1)) || false) = false; rw [ha']; rfl
    · rw [ha] at k₃ ⊢
      refine evalArgs_plain (wpAny_mono k₃ (fun vs s₁ q₁ => ⟨q₁.1, wpAny_call (ks_codeAny_call_bound q₁.1.1 (codeAny_mono q₁.2 fun r s' qq => ?_))⟩) fun _ _ z => z)
      rcases r with e | (v | _ | _ | _) <;> first | exact hQ _ _ qq | exact qq.elim
  refine ks_wpAt_execs_cons ?_
  cases ret with
  | true =>
    subst hst
    refine ks_wpAt_Return_some (ks_wpAt_mono (main (fun v s₂ => QV v s₂) fun v s₂ q => q) (fun v s' q => q) fun _ _ q => q.elim)
  | false =>
    subst hst
    refine ks_wpAt_Expr_any (ks_wpAt_mono (main _ fun v s₂ q => q) (fun v s' q => wpAt_of_wpAny (wpAny_mono q (fun fl s'' q' => ?_) fun _ _ q' => q'.elim)) fun _ _ q => q.elim) (hint _) (hsw _)
    cases fl <;> exact q'
end
end
section
open PySem PySem.W PyProof.Rows PySem.Calls
inductive GetE : List DictEntry → Str → Value → Prop
  | here {hs : Int} {n : Str} {tk : Tok} {v : Value} {r : List DictEntry} : GetE (⟨hs, .str n tk, v⟩ :: r) n v
  | next {hs : Int} {m n : Str} {tk : Tok} {u v : Value} {r : List DictEntry} : (m == n) = false → GetE r n v → GetE (⟨hs, .str m tk, u⟩ :: r) n v
inductive NotE : List DictEntry → Str → Prop
  | nil {n : Str} : NotE [] n
  | next {hs : Int} {m n : Str} {tk : Tok} {u : Value} {r : List DictEntry} : (m == n) = false → NotE r n → NotE (⟨hs, .str m tk, u⟩ :: r) n
inductive PutE : List DictEntry → Int → Str → Tok → Value → List DictEntry → Prop
  | nil {hh : Int} {n : Str} {tk : Tok} {v : Value} : PutE [] hh n tk v [⟨hh, .str n tk, v⟩]
  | here {hs hh : Int} {n : Str} {tk tk' : Tok} {u v : Value} {r : List DictEntry} : PutE (⟨hs, .str n tk', u⟩ :: r) hh n tk v (⟨hs, .str n tk', v⟩ :: r)
  | next {hs hh : Int} {m n : Str} {tk tk' : Tok} {u v : Value} {r r' : List DictEntry} : (m == n) = false → PutE r hh n tk v r' → PutE (⟨hs, .str m tk', u⟩ :: r) hh n tk v (⟨hs, .str m tk', u⟩ :: r')
theorem isStr_str {m n : Str} {tk : Tok} : (Value.str m tk).isStr n = (m == n) := rfl
theorem GetE.get {es n v} (g : GetE es n v) : getL n es = some (some v) := by
  induction g with
  | here => simp [getL, List.find?, isStr_str]
  | next e _ ih =>
    unfold getL at ih ⊢
    simp only [List.find?, isStr_str, e]
    split at ih <;> rename_i q
    · exact ih
    · split at ih <;> cases ih
theorem NotE.get {es n} (g : NotE es n) : getL n es = some none := by
  have : es.find? (·.key.isStr n) = none ∧ es.any (·.refKey) = false := by
    induction g with
    | nil => exact ⟨rfl, rfl⟩
    | next e _ ih => exact ⟨by simp only [List.find?, isStr_str, e]; exact ih.1, by simp only [List.any_cons, ih.2]; rfl⟩
  unfold getL
  rw [this.1, this.2]; rfl
theorem PutE.put {es hh n tk v es'} (p : PutE es hh n tk v es') : putL n hh (.str n tk) v es = es' ∧ putN n es es.length = es'.length ∧ (getL n es).isSome = true ∧ es'.length ≤ es.length + 1 := by
  have : putL n hh (.str n tk) v es = es' ∧ putN n es es.length = es'.length ∧ (es.any (·.refKey) = false ∨ (es.find? (·.key.isStr n)).isSome = true) ∧ es'.length ≤ es.length + 1 := by
    induction p with
    | nil => exact ⟨rfl, rfl, .inl rfl, Nat.le_refl _⟩
    | here => refine ⟨by simp [putL, isStr_str], by simp [putN, isStr_str], .inr (by simp [List.find?, isStr_str]), by simp⟩
    | @next hs hh m n tk tk' u v r r' e _ ih =>
      obtain ⟨a, b, c, d⟩ := ih
      refine ⟨by simp only [putL, isStr_str, e, Bool.false_eq_true, if_false, a], ?_, ?_, by simp; omega⟩
      · unfold putN at b ⊢
        simp only [List.any_cons, isStr_str, e, Bool.false_or, List.length_cons]
        cases q : r.any (fun x => x.key.isStr n) <;> simp only [q, Bool.false_eq_true, if_false, if_true] at b ⊢ <;> omega
      · rcases c with c | c
        · left; simp only [List.any_cons, c]; rfl
        · right; simp only [List.find?, isStr_str, e]; exact c
  obtain ⟨a, b, c, d⟩ := this
  refine ⟨a, b, ?_, d⟩
  unfold getL
  split
  · rfl
  · rename_i q
    rcases c with c | c
    · rw [c]; rfl
    · rw [q] at c; cases c
/-- a dict with nothing struck out -/
abbrev dicO (es : List DictEntry) : Obj := dictOf es es.length

abbrev dataNames : List Str := ["size", "name", "endianness", "minimum", "maximum", "encoding", "errors", "_infos", "_byte_order", "_number_of_bits_to_unpack", "_number_of_arguments"]
/-- a class of plain objects without names of its own by these -/
structure InfoC (w : World) (C : Addr) : Prop where
  plain : PlainC w C
  set : SetC w C
  no : ∀ n ∈ dataNames, findIn (KK w) (.ref C) n = some none
theorem InfoC.of {w : World} {C : Addr} (h : (plainGet (KK w) C "" && hasDictIn (KK w) C && (findIn (KK w) (.ref C) "__setattr__" == some (some (.builtin "object.__setattr__"))) && plainOver (KK w) C && dataNames.all fun n => findIn (KK w) (.ref C) n == some none) = true) : InfoC w C := by
  simp only [Bool.and_eq_true, List.all_eq_true, beq_iff_eq] at h
  obtain ⟨⟨⟨⟨a, b⟩, c⟩, d⟩, e⟩ := h
  exact ⟨⟨a, b⟩, ⟨c, d, b⟩, e⟩
theorem ic_s (w : World) : InfoC w 132 := .of (by kernel_rfl)
theorem ic_u (w : World) : InfoC w 167 := .of (by kernel_rfl)
theorem ic_b (w : World) : InfoC w 196 := .of (by kernel_rfl)
theorem ic_f (w : World) : InfoC w 272 := .of (by kernel_rfl)
theorem ic_r (w : World) : InfoC w 298 := .of (by kernel_rfl)
theorem ic_p (w : World) : InfoC w 329 := .of (by kernel_rfl)
theorem ic_P (w : World) : InfoC w 348 := .of (by kernel_rfl)
theorem ic_t (w : World) : InfoC w 383 := .of (by kernel_rfl)
theorem ic_CF (w : World) : InfoC w 507 := .of (by kernel_rfl)

section
variable {w : World} {A : Around} {E : Value → Shared → Prop} {z : Shared} {h h₀ : Heap} {t : Nat} {L : Addr} {env : Env} {s : Shared}
  {ns gs : List Str} {vs vs' : List (Option Value)} {N N' : List (Addr × Obj)} {QV : Value → Shared → Prop} {Q : Flow → Shared → Prop} {QB : Bool → Shared → Prop} {value slice : Expr} {pos p : Pos} {rest : List Stmt}
  {x C dx : Addr} {es es' : List DictEntry} {n n' : Nat} {name : Str} {v : Value}
theorem v_get {expr : Bool} (S : St w h₀ L ns vs N h) (I : Ob h x C dx es n) (P : InfoC w C) (hn : name ∈ dataNames) (g : GetE es name v) (hv : handedIn v = true)
    (k : QV v (mk z h (t + 1))) : wpAny (model Prg w) A (getAttr (.ref x) name expr) QV E (mk z h t) := v_attr S I P.plain (P.no _ hn) g.get hv k
theorem v_put {QU : Unit → Shared → Prop} (S : St w h₀ L ns vs N h) (I : Ob h x C dx es es.length) (P : InfoC w C) (hn : name ∈ dataNames) (hz : es.length ≤ 500) (g : PutE es (PyData.keyHash w.params name) name (t + 1) v es')
    (u : UpdN N dx (dicO es) (dicO es') N')
    (k : ∀ h' t', St w h₀ L ns vs N' h' → QU () (mk z h' t')) : wpAny (model Prg w) A (setAttr (.ref x) name v) QU E (mk z h t) := by
  have p := g.put
  exact set_dict (s := mk z h t) S.F S.G₀.X S.W I.inst rfl P.set.set P.set.over (by unfold takerIn; rw [P.no _ hn]; rfl) P.set.dict p.2.2.1 (Prod.ext p.1 p.2.1) (u.upd S.nd) (by omega) fun h' F' N'' => k h' _ ⟨F', N'', S.G₀, u.keys ▸ S.nd, S.len⟩
theorem Gl.hide (S : St w h₀ L ns vs N h) {b : Addr} {o : Obj} (m : (b, o) ∈ N) : Gl w (h.hide b) :=
  S.G₀.keeps fun c o' e => (Heap.hide_ne h (fun q : c = b => by rw [q, (S.W _ m).2.2] at e; cases e)).trans (S.F.keep c o' e)
end
end
local macro_rules | `(tactic| tm_at "m_ne") => `(tactic| decide +kernel)
local macro_rules | `(tactic| tm_at "m_get") => `(tactic| first | with_reducible exact GetE.here | ((with_reducible apply GetE.next); tm_at "m_ne"; tm_at "m_get"))
local macro_rules | `(tactic| tm_at "m_not") => `(tactic| first | with_reducible exact NotE.nil | ((with_reducible apply NotE.next); tm_at "m_ne"; tm_at "m_not"))
local macro_rules | `(tactic| tm_at "m_pute") => `(tactic| first | with_reducible exact PutE.nil | with_reducible exact PutE.here | ((with_reducible apply PutE.next); tm_at "m_ne"; tm_at "m_pute"))
section
open PySem PySem.W PyProof.Rows PySem.Calls
section
variable {w : World} {A : Around} {E : Value → Shared → Prop} {z : Shared} {h h₀ : Heap} {t : Nat} {L : Addr} {env : Env} {s : Shared}
  {ns gs : List Str} {vs vs' : List (Option Value)} {N N' : List (Addr × Obj)} {QV : Value → Shared → Prop} {Q : Flow → Shared → Prop} {QB : Bool → Shared → Prop} {QU : Unit → Shared → Prop}
  {x C dx : Addr} {es es' : List DictEntry} {n n' : Nat} {name : Str} {v : Value}
theorem g_getattr {o : Value} {b : Bool} (k : wpAny (model Prg w) A (getAttr o name b) QV E s) : wpAny (model Prg w) A (getAttr o name b) QV E s := k
theorem g_setattr {o : Value} (k : wpAny (model Prg w) A (setAttr o name v) QU E s) : wpAny (model Prg w) A (setAttr o name v) QU E s := k
theorem Ob.mix (hx : h₀.get? x = some (instObj C dx)) (S : St w h₀ L ns vs N h) (m : (dx, dictOf es n) ∈ N) : Ob h x C dx es n := ⟨S.F.keep _ _ hx, (S.W _ m).1⟩
theorem Ob.base (I : Ob h₀ x C dx es n) (S : St w h₀ L ns vs N h) : Ob h x C dx es n := I.keeps S.F.keep
/-- a base with one object hidden -/
theorem hide_stays (G : Gl w (h.hide dx)) : Gl w h := G.keeps fun _ _ e => Heap.of_hide e
theorem hide_N {o : Obj} (hd : h.get? dx = some o) : ∀ p ∈ [(dx, o)], h.get? p.1 = some p.2 ∧ (h.hide dx).get? p.1 = none := fun p hp => by
  rw [List.mem_singleton.mp hp]; exact ⟨hd, Heap.hide_self h dx⟩
end
end
local macro_rules | `(tactic| tm_at "m_ob") => `(tactic| first | with_reducible assumption | ((with_reducible refine' Ob.of ?S ?a ?b); (case S => tm_at "m_asm"); (case a => tm_at "m_mem"); (case b => tm_at "m_mem")) | ((with_reducible refine' Ob.mix ?a ?S ?b); (case S => tm_at "m_asm"); (case a => tm_at "m_asm"); (case b => tm_at "m_mem")) | ((with_reducible refine' Ob.base ?a ?S); (case S => tm_at "m_asm"); (case a => tm_at "m_asm")))
local macro_rules | `(tactic| tm_at "m_ic") => `(tactic| first | with_reducible assumption | with_reducible exact ic_u _ | with_reducible exact ic_s _ | with_reducible exact ic_b _ | with_reducible exact ic_f _ | with_reducible exact ic_r _ | with_reducible exact ic_t _ | with_reducible exact ic_p _ | with_reducible exact ic_P _ | with_reducible exact ic_CF _)
local macro_rules | `(tactic| tm_at "m_e") => `(tactic| ((with_reducible refine e_attr ?_ ?e); (case e => with_unfolding_all rfl)))
local macro_rules | `(tactic| tm_at "m_s") => `(tactic| ((with_reducible refine s_setattr ?_ ?e); (case e => with_unfolding_all rfl)))
local macro_rules | `(tactic| tm_at "m") => `(tactic| ((with_reducible refine g_getattr ?_); (with_reducible refine' v_get ?S ?I ?P ?m ?g ?v ?_); (case S => tm_at "m_asm"); (case I => tm_at "m_ob"); (case P => tm_at "m_ic"); (case m => tm_at "m_mem"); (case g => tm_at "m_get"); (case v => exact rfl)))
local macro_rules | `(tactic| tm_at "m") => `(tactic| ((with_reducible refine g_setattr ?_); (with_reducible refine' v_put ?S ?I ?P ?m ?z ?g ?u ?_); (case S => tm_at "m_asm"); (case I => tm_at "m_ob"); (case P => tm_at "m_ic"); (case m => tm_at "m_mem"); (case z => simp); (case g => tm_at "m_pute"); (case u => tm_at "m_upd"); intro _ _ _))
section
open PySem PySem.W PyProof.Rows PySem.Calls
theorem c_init {w : World} {A : Around} {z : Shared} {h : Heap} {t : Nat} {QV : Value → Shared → Prop} {x C dx : Addr} (r : Room A 3) (G : Gl w (h.hide dx)) (P : InfoC w C) (hx : (h.hide dx).get? x = some (instObj C dx)) (hd : h.get? dx = some (dicO [])) (sz nm : Value)
    (args : List Value) (hargs : args = [.ref x, sz, nm] ∨ (args = [.ref x, sz] ∧ nm = .none))
    (k : ∀ t1 t2 t3 h' t', (∀ b o, b ≠ dx → h.get? b = some o → h'.get? b = some o) → h'.get? dx = some (dicO [de w "size" t1 sz, de w "name" t2 nm, de w "endianness" t3 .none]) → QV .none (mk z h' t')) :
    codeAny (model Prg w) A (.call (.ref 92) ⟨args, []⟩) (CR QV) (mk z h t) := by
  have X : (KK w).In (mk z h t).heap := G.X.keeps fun b o e => Heap.of_hide e
  refine enterC (n := 2) (binds := [(Str.ofString "self", .ref x), (Str.ofString "size", sz), (Str.ofString "name", nm)]) (h.hide dx) [(dx, dicO [])] [Str.ofString "self", Str.ofString "size", Str.ofString "name"] [] rfl r G
    (fun b o e => Heap.of_hide e) (Nat.le_of_eq (Heap.hide_size h dx)) (hide_N hd) (by simp) (by kernel_rfl) ?_ (by tm_at "m_sc") ⟨rfl, rfl, rfl, trivial⟩ ?_
  · rcases hargs with rfl | ⟨rfl, rfl⟩
    · exact binds_K X rfl rfl rfl rfl rfl
    · exact binds_K X rfl rfl rfl rfl rfl
  intro A' L h' t' env he r' hfr C S
  clear he hfr
  dsimp only [initL] at S
  tm_at "ms"
  rename St _ _ _ _ _ _ _ => hS
  exact k _ _ _ _ _ (fun b o hb e => hS.F.keep _ _ ((Heap.hide_ne h hb).trans e)) (hS.W _ (.head _)).1

theorem hide_get {h : Heap} {x dx : Addr} {o : Obj} (hx : h.get? x = some o) (hn : x ≠ dx) : (h.hide dx).get? x = some o := (Heap.hide_ne h hn).trans hx
theorem hide_ne' {h : Heap} {x dx : Addr} {o : Obj} (hx : (h.hide dx).get? x = some o) : x ≠ dx := fun q => by rw [q, Heap.hide_self] at hx; cases hx

theorem c_initU {w : World} {A : Around} {z : Shared} {h : Heap} {t : Nat} {QV : Value → Shared → Prop} {x C dx : Addr} (r : Room A 5) (G : Gl w (h.hide dx)) (hC : C = 167 ∨ C = 196) (hx : (h.hide dx).get? x = some (instObj C dx)) (hd : h.get? dx = some (dicO [])) (sz : Int) (ts : Tok) (nm : Value) (h0 : 0 ≤ sz) (h1 : sz ≤ 100) (hn : handedIn nm = true)
    (k : ∀ t1 t2 t3 t4 t5 h' t', (∀ b o, b ≠ dx → h.get? b = some o → h'.get? b = some o) → h'.get? dx = some (dicO [de w "size" t1 (.int sz ts), de w "name" t2 nm, de w "endianness" t3 .none, de w "maximum" t4 (.int (2 ^ sz.toNat - 1) t5)]) → QV .none (mk z h' t')) :
    codeAny (model Prg w) A (.call (.ref 150) ⟨[.ref x, .int sz ts, nm], []⟩) (CR QV) (mk z h t) := by
  have hx' : h.get? x = some (instObj C dx) := Heap.of_hide hx
  have P : InfoC w C := by rcases hC with rfl | rfl <;> tm_at "m_ic"
  refine enterSup (n := 4) (C := C) (D := 167) (f2 := 92) (binds := [(Str.ofString "self", .ref x), (Str.ofString "size", .int sz ts), (Str.ofString "name", nm)]) (h.hide dx) [(dx, dicO [])] [Str.ofString "self", Str.ofString "size", Str.ofString "name"] [Str.ofString "super"] false
    rfl r G (fun b o e => Heap.of_hide e) (Nat.le_of_eq (Heap.hide_size h dx)) rfl (hide_N hd) (by simp) (by kernel_rfl) (BindsTo.of_eq rfl) (by tm_at "m_sc") ⟨rfl, rfl, rfl, trivial⟩
    rfl rfl (Ob.inst ⟨hx', hd⟩) rfl rfl (by decide +kernel) rfl rfl (by rcases hC with rfl | rfl <;> kernel_rfl) (by kernel_rfl) (by decide +kernel) rfl rfl rfl (by decide +kernel) (by kernel_rfl) (by kernel_rfl) (by rcases hC with rfl | rfl <;> kernel_rfl) (by kernel_rfl) (by kernel_rfl)
    (fun _ => by with_unfolding_all rfl) (fun _ => by with_unfolding_all rfl) (fun _ => ⟨_, by with_unfolding_all rfl⟩) (fun _ => by with_unfolding_all rfl) (fun _ => by with_unfolding_all rfl) ?_
  intro A' L h' t' env so q he r' hfr Cf S
  clear he hfr
  dsimp only [initL] at S
  tm_at "ms"
  refine ⟨⟨(S.W _ (.head _)).1, S.G.X⟩, ?_⟩
  refine c_init (r'.le (by omega)) (Gl.hide S (.tail _ (.tail _ (.head _)))) P (hide_get (S.F.keep _ _ hx) (hide_ne' hx)) (S.W _ (.tail _ (.tail _ (.head _)))).1 _ _ _ (.inl rfl) ?_
  intro t1 t2 t3 h2 t2' hk hd2
  have S2 := S.upd (UpdN.next (UpdN.next UpdN.here)) hk hd2
  clear S hk hd2
  simp only [Bool.false_eq_true, if_false]
  tm_at "ms"
  rename St _ _ _ _ _ _ _ => hS
  exact k _ _ _ _ _ _ _ (fun b o hb e => hS.F.keep _ _ ((Heap.hide_ne h hb).trans e)) (hS.W _ (.tail _ (.tail _ (.head _)))).1

theorem c_initS {w : World} {A : Around} {z : Shared} {h : Heap} {t : Nat} {QV : Value → Shared → Prop} {x dx : Addr} (r : Room A 5) (G : Gl w (h.hide dx)) (hx : (h.hide dx).get? x = some (instObj 132 dx)) (hd : h.get? dx = some (dicO [])) (sz : Int) (ts : Tok) (nm : Value) (h0 : 1 ≤ sz) (h1 : sz ≤ 100) (hn : handedIn nm = true)
    (k : ∀ t1 t2 t3 t4 t5 t6 t7 h' t', (∀ b o, b ≠ dx → h.get? b = some o → h'.get? b = some o) → h'.get? dx = some (dicO [de w "size" t1 (.int sz ts), de w "name" t2 nm, de w "endianness" t3 .none, de w "minimum" t4 (.int (-2 ^ (sz - 1).toNat) t5), de w "maximum" t6 (.int (- (-2 ^ (sz - 1).toNat) - 1) t7)]) → QV .none (mk z h' t')) :
    codeAny (model Prg w) A (.call (.ref 115) ⟨[.ref x, .int sz ts, nm], []⟩) (CR QV) (mk z h t) := by
  have hx' : h.get? x = some (instObj 132 dx) := Heap.of_hide hx
  have P : InfoC w 132 := by tm_at "m_ic"
  refine enterSup (n := 4) (C := 132) (D := 132) (f2 := 92) (binds := [(Str.ofString "self", .ref x), (Str.ofString "size", .int sz ts), (Str.ofString "name", nm)]) (h.hide dx) [(dx, dicO [])] [Str.ofString "self", Str.ofString "size", Str.ofString "name"] [Str.ofString "super"] false
    rfl r G (fun b o e => Heap.of_hide e) (Nat.le_of_eq (Heap.hide_size h dx)) rfl (hide_N hd) (by simp) (by kernel_rfl) (BindsTo.of_eq rfl) (by tm_at "m_sc") ⟨rfl, rfl, rfl, trivial⟩
    rfl rfl (Ob.inst ⟨hx', hd⟩) rfl rfl (by decide +kernel) rfl rfl (by kernel_rfl) (by kernel_rfl) (by decide +kernel) rfl rfl rfl (by decide +kernel) (by kernel_rfl) (by kernel_rfl) (by kernel_rfl) (by kernel_rfl) (by kernel_rfl)
    (fun _ => by with_unfolding_all rfl) (fun _ => by with_unfolding_all rfl) (fun _ => ⟨_, by with_unfolding_all rfl⟩) (fun _ => by with_unfolding_all rfl) (fun _ => by with_unfolding_all rfl) ?_
  intro A' L h' t' env so q he r' hfr Cf S
  clear he hfr
  dsimp only [initL] at S
  tm_at "ms"
  refine ⟨⟨(S.W _ (.head _)).1, S.G.X⟩, ?_⟩
  refine c_init (r'.le (by omega)) (Gl.hide S (.tail _ (.tail _ (.head _)))) P (hide_get (S.F.keep _ _ hx) (hide_ne' hx)) (S.W _ (.tail _ (.tail _ (.head _)))).1 _ _ _ (.inl rfl) ?_
  intro t1 t2 t3 h2 t2' hk hd2
  have S2 := S.upd (UpdN.next (UpdN.next UpdN.here)) hk hd2
  clear S hk hd2
  simp only [Bool.false_eq_true, if_false]
  tm_at "ms"
  rename St _ _ _ _ _ _ _ => hS
  exact k _ _ _ _ _ _ _ _ _ (fun b o hb e => hS.F.keep _ _ ((Heap.hide_ne h hb).trans e)) (hS.W _ (.tail _ (.tail _ (.head _)))).1

theorem c_initT {w : World} {A : Around} {z : Shared} {h : Heap} {t : Nat} {QV : Value → Shared → Prop} {x dx : Addr} (r : Room A 5) (G : Gl w (h.hide dx)) (hx : (h.hide dx).get? x = some (instObj 383 dx)) (hd : h.get? dx = some (dicO [])) (sz nm en er : Value)
    (k : ∀ t1 t2 t3 t4 t5 h' t', (∀ b o, b ≠ dx → h.get? b = some o → h'.get? b = some o) → h'.get? dx = some (dicO [de w "size" t1 sz, de w "name" t2 nm, de w "endianness" t3 .none, de w "encoding" t4 en, de w "errors" t5 er]) → QV .none (mk z h' t')) :
    codeAny (model Prg w) A (.call (.ref 366) ⟨[.ref x, sz, nm, en, er], []⟩) (CR QV) (mk z h t) := by
  have hx' : h.get? x = some (instObj 383 dx) := Heap.of_hide hx
  have P : InfoC w 383 := by tm_at "m_ic"
  refine enterSup (n := 4) (C := 383) (D := 383) (f2 := 92) (binds := [(Str.ofString "self", .ref x), (Str.ofString "size", sz), (Str.ofString "name", nm), (Str.ofString "encoding", en), (Str.ofString "errors", er)]) (h.hide dx) [(dx, dicO [])] [Str.ofString "self", Str.ofString "size", Str.ofString "name", Str.ofString "encoding", Str.ofString "errors"] [Str.ofString "super"] false
    rfl r G (fun b o e => Heap.of_hide e) (Nat.le_of_eq (Heap.hide_size h dx)) rfl (hide_N hd) (by simp) (by kernel_rfl) (BindsTo.of_eq rfl) (by tm_at "m_sc") ⟨rfl, rfl, rfl, rfl, rfl, trivial⟩
    rfl rfl (Ob.inst ⟨hx', hd⟩) rfl rfl (by decide +kernel) rfl rfl (by kernel_rfl) (by kernel_rfl) (by decide +kernel) rfl rfl rfl (by decide +kernel) (by kernel_rfl) (by kernel_rfl) (by kernel_rfl) (by kernel_rfl) (by kernel_rfl)
    (fun _ => by with_unfolding_all rfl) (fun _ => by with_unfolding_all rfl) (fun _ => ⟨_, by with_unfolding_all rfl⟩) (fun _ => by with_unfolding_all rfl) (fun _ => by with_unfolding_all rfl) ?_
  intro A' L h' t' env so q he r' hfr Cf S
  clear he hfr
  dsimp only [initL] at S
  tm_at "ms"
  refine ⟨⟨(S.W _ (.head _)).1, S.G.X⟩, ?_⟩
  refine c_init (r'.le (by omega)) (Gl.hide S (.tail _ (.tail _ (.head _)))) P (hide_get (S.F.keep _ _ hx) (hide_ne' hx)) (S.W _ (.tail _ (.tail _ (.head _)))).1 _ _ _ (.inl rfl) ?_
  intro t1 t2 t3 h2 t2' hk hd2
  have S2 := S.upd (UpdN.next (UpdN.next UpdN.here)) hk hd2
  clear S hk hd2
  simp only [Bool.false_eq_true, if_false]
  tm_at "ms"
  rename St _ _ _ _ _ _ _ => hS
  exact k _ _ _ _ _ _ _ (fun b o hb e => hS.F.keep _ _ ((Heap.hide_ne h hb).trans e)) (hS.W _ (.tail _ (.tail _ (.head _)))).1
end
section
open PySem PySem.W PyProof.Rows PySem.Calls
theorem GetE.put {es : List DictEntry} {n : Str} {u : Value} (g : GetE es n u) (hh : Int) (tk : Tok) (v : Value) : ∃ es', PutE es hh n tk v es' ∧ es'.length = es.length ∧ GetE es' n v ∧ (∀ m x, (n == m) = false → GetE es m x → GetE es' m x) ∧ (∀ m, (n == m) = false → NotE es m → NotE es' m) := by
  induction g with
  | @here hs n tk' v' r =>
    refine ⟨_, .here, rfl, .here, fun m x e g => ?_, fun m e g => ?_⟩
    · cases g with
      | here => simp at e
      | next a b => exact .next a b
    · cases g with
      | next a b => exact .next a b
  | @next hs m n tk' u v' r e g ih =>
    obtain ⟨es', p, l, g', a, b⟩ := ih
    refine ⟨_, .next e p, by simp [l], .next e g', fun m' x e' q => ?_, fun m' e' q => ?_⟩
    · cases q with
      | here => exact .here
      | next c d => exact .next c (a _ _ e' d)
    · cases q with
      | next c d => exact .next c (b _ e' d)

inductive Kd | u | s | b | r | t | f | p | P
def Kd.cls : Kd → Addr
  | .u => 167 | .s => 132 | .b => 196 | .r => 298 | .t => 383 | .f => 272 | .p => 329 | .P => 348
/-- the entries of a group's object -/
structure InfE (k : Kd) (sz : Nat) (nm e : Value) (es : List DictEntry) : Prop where
  size : ∃ t, GetE es "size" (.int sz t)
  name : GetE es "name" nm
  endi : GetE es "endianness" e
  pack : NotE es "pack"
  max : (k = .u ∨ k = .b) → ∃ t, GetE es "maximum" (.int (2 ^ sz - 1) t)
  smin : k = .s → ∃ t, GetE es "minimum" (.int (-2 ^ (sz - 1)) t)
  smax : k = .s → ∃ t, GetE es "maximum" (.int (2 ^ (sz - 1) - 1) t)
  len : es.length ≤ 10
theorem InfE.put {k : Kd} {sz : Nat} {nm e : Value} {es : List DictEntry} (i : InfE k sz nm e es) (hh : Int) (tk : Tok) (v : Value) : ∃ es', PutE es hh "endianness" tk v es' ∧ InfE k sz nm v es' := by
  obtain ⟨es', p, l, g, a, b⟩ := i.endi.put hh tk v
  exact ⟨es', p, i.size.imp fun _ q => a _ _ (by decide +kernel) q, a _ _ (by decide +kernel) i.name, g, b _ (by decide +kernel) i.pack, fun q => (i.max q).imp fun _ q => a _ _ (by decide +kernel) q,
    fun q => (i.smin q).imp fun _ q => a _ _ (by decide +kernel) q, fun q => (i.smax q).imp fun _ q => a _ _ (by decide +kernel) q, l ▸ i.len⟩

theorem Kd.ic (w : World) (k : Kd) : InfoC w k.cls := by
  cases k
  · exact ic_u w
  · exact ic_s w
  · exact ic_b w
  · exact ic_r w
  · exact ic_t w
  · exact ic_f w
  · exact ic_p w
  · exact ic_P w

/-- what a new group's object is -/
def Born (w : World) (z : Shared) (h : Heap) (k : Kd) (sz : Nat) (nm : Value) (QV : Value → Shared → Prop) : Prop :=
  ∀ x dx es h' t', h.StaysIn h' → Ob h' x k.cls dx es es.length → h.get? x = none → h.get? dx = none → x ≠ dx → InfE k sz nm .none es → QV (.ref x) (mk z h' t')

section
variable {w : World} {A : Around} {E : Value → Shared → Prop} {z : Shared} {h : Heap} {t : Nat} {QV : Value → Shared → Prop}

theorem new_u (hk : k = .u ∨ k = .b) (r : Room A 7) (G : Gl w h) (sz : Nat) (ts : Tok) (nm : Value) (hs : sz ≤ 100) (hn : handedIn nm = true) (q : Born w z h k sz nm QV) : wpAny (model Prg w) A (call (.ref k.cls) [.int sz ts, nm]) QV E (mk z h t) := by
  refine v_make (m := 6) (fI := 150) G r (by rcases hk with rfl | rfl <;> kernel_rfl) (by rcases hk with rfl | rfl <;> kernel_rfl) (by kernel_rfl) ?_
  intro A' x dx h1 r1 k1 ob hx hd hne
  refine c_initU (r1.le (by omega)) (G.keeps fun b o e => (hide_get (k1 _ _ e) fun q => by rw [q, hd] at e; cases e)) (by rcases hk with rfl | rfl; exact .inl rfl; exact .inr rfl) (hide_get ob.ox hne.symm) ob.od sz ts nm (by omega) (by omega) hn ?_
  intro t1 t2 t3 t4 t5 h2 t2' kk hd2
  refine ⟨rfl, q x dx _ h2 _ (fun b o e => kk b o (fun q => by rw [q, hd] at e; cases e) (k1 _ _ e)) ⟨kk _ _ hne.symm ob.ox, hd2⟩ hx hd hne.symm ⟨⟨ts, by tm_at "m_get"⟩, by tm_at "m_get", by tm_at "m_get", by tm_at "m_not", fun _ => ⟨t5, ?_⟩, fun q => (by rcases hk with rfl | rfl <;> cases q), fun q => (by rcases hk with rfl | rfl <;> cases q), by simp⟩⟩
  rw [Int.toNat_natCast]
  tm_at "m_get"
theorem new_s (r : Room A 7) (G : Gl w h) (sz : Nat) (ts : Tok) (nm : Value) (h1 : 1 ≤ sz) (hs : sz ≤ 100) (hn : handedIn nm = true) (q : Born w z h .s sz nm QV) : wpAny (model Prg w) A (call (.ref 132) [.int sz ts, nm]) QV E (mk z h t) := by
  refine v_make (m := 6) (fI := 115) G r (by kernel_rfl) (by kernel_rfl) (by kernel_rfl) ?_
  intro A' x dx h1 r1 k1 ob hx hd hne
  refine c_initS (r1.le (by omega)) (G.keeps fun b o e => (hide_get (k1 _ _ e) fun q => by rw [q, hd] at e; cases e)) (hide_get ob.ox hne.symm) ob.od sz ts nm (by omega) (by omega) hn ?_
  intro t1 t2 t3 t4 t5 t6 t7 h2 t2' kk hd2
  have e1 : ((sz : Int) - 1).toNat = sz - 1 := by omega
  refine ⟨rfl, q x dx _ h2 _ (fun b o e => kk b o (fun q => by rw [q, hd] at e; cases e) (k1 _ _ e)) ⟨kk _ _ hne.symm ob.ox, hd2⟩ hx hd hne.symm ⟨⟨ts, by tm_at "m_get"⟩, by tm_at "m_get", by tm_at "m_get", by tm_at "m_not", fun q => (by rcases q with q | q <;> cases q), fun _ => ⟨t5, ?_⟩, fun _ => ⟨t7, ?_⟩, by simp⟩⟩
  · rw [e1]; tm_at "m_get"
  · have e2 : (2 : Int) ^ (sz - 1) - 1 = - (-2 ^ (sz - 1)) - 1 := by omega
    rw [e1, e2]; tm_at "m_get"
theorem new_t (r : Room A 7) (G : Gl w h) (sz : Nat) (ts : Tok) (nm en er : Value) (q : Born w z h .t sz nm QV) : wpAny (model Prg w) A (call (.ref 383) [.int sz ts, nm, en, er]) QV E (mk z h t) := by
  refine v_make (m := 6) (fI := 366) G r (by kernel_rfl) (by kernel_rfl) (by kernel_rfl) ?_
  intro A' x dx h1 r1 k1 ob hx hd hne
  refine c_initT (r1.le (by omega)) (G.keeps fun b o e => (hide_get (k1 _ _ e) fun q => by rw [q, hd] at e; cases e)) (hide_get ob.ox hne.symm) ob.od (.int sz ts) nm en er ?_
  intro t1 t2 t3 t4 t5 h2 t2' kk hd2
  exact ⟨rfl, q x dx _ h2 _ (fun b o e => kk b o (fun q => by rw [q, hd] at e; cases e) (k1 _ _ e)) ⟨kk _ _ hne.symm ob.ox, hd2⟩ hx hd hne.symm ⟨⟨ts, by tm_at "m_get"⟩, by tm_at "m_get", by tm_at "m_get", by tm_at "m_not", fun q => (by rcases q with q | q <;> cases q), fun q => (by cases q), fun q => (by cases q), by simp⟩⟩
theorem new_0 (hk : k = .r ∨ k = .f ∨ k = .p ∨ k = .P) (r : Room A 5) (G : Gl w h) (sz : Nat) (ts : Tok) (nm : Value) (args : List Value) (hargs : args = [.int sz ts, nm] ∨ (args = [.int sz ts] ∧ nm = .none)) (q : Born w z h k sz nm QV) :
    wpAny (model Prg w) A (call (.ref k.cls) args) QV E (mk z h t) := by
  refine v_make (m := 4) (fI := 92) G r (by rcases hk with rfl | rfl | rfl | rfl <;> kernel_rfl) (by rcases hk with rfl | rfl | rfl | rfl <;> kernel_rfl) (by kernel_rfl) ?_
  intro A' x dx h1 r1 k1 ob hx hd hne
  refine c_init (r1.le (by omega)) (G.keeps fun b o e => (hide_get (k1 _ _ e) fun q => by rw [q, hd] at e; cases e)) (Kd.ic w k) (hide_get ob.ox hne.symm) ob.od (.int sz ts) nm _ (hargs.imp (fun e => by rw [e]) fun e => ⟨by rw [e.1], e.2⟩) ?_
  intro t1 t2 t3 h2 t2' kk hd2
  exact ⟨rfl, q x dx _ h2 _ (fun b o e => kk b o (fun q => by rw [q, hd] at e; cases e) (k1 _ _ e)) ⟨kk _ _ hne.symm ob.ox, hd2⟩ hx hd hne.symm ⟨⟨ts, by tm_at "m_get"⟩, by tm_at "m_get", by tm_at "m_get", by tm_at "m_not", fun q => (by rcases hk with rfl | rfl | rfl | rfl <;> rcases q with q | q <;> cases q), fun q => (by rcases hk with rfl | rfl | rfl | rfl <;> cases q), fun q => (by rcases hk with rfl | rfl | rfl | rfl <;> cases q), by simp⟩⟩
end
end
section
open PySem PySem.W PyProof.Rows PySem.Calls
section
variable {w : World} {A : Around} {E : Value → Shared → Prop} {z : Shared} {h h₀ : Heap} {t : Nat} {L : Addr} {env : Env} {s : Shared}
  {ns gs : List Str} {vs vs' : List (Option Value)} {N N' : List (Addr × Obj)} {QV : Value → Shared → Prop} {Q : Flow → Shared → Prop} {QB : Bool → Shared → Prop} {QU : Unit → Shared → Prop} {rest : List Stmt}

theorem St.adds (S : St w h₀ L ns vs N h) {h' : Heap} (k : h.StaysIn h') : ∀ (M : List (Addr × Obj)), (∀ p ∈ M, h'.get? p.1 = some p.2 ∧ h.get? p.1 = none) → (M.map (·.1)).Nodup → St w h₀ L ns vs (M ++ N) h'
  | [], _, _ => S.stays k
  | (a, o) :: M, hM, nd => by
    have nd' := List.nodup_cons.mp nd
    have S' := S.adds k M (fun p hp => hM p (.tail _ hp)) nd'.2
    have ha := hM (a, o) (.head _)
    refine ⟨S'.F, fun p hp => ?_, S.G₀, List.nodup_cons.mpr ⟨fun q => ?_, S'.nd⟩, S.len⟩
    · rcases List.mem_cons.mp hp with rfl | hp
      · refine ⟨ha.1, fun e => ?_, ?_⟩
        · obtain ⟨oL, _, _, hL, _⟩ := S.F.ns
          have := ha.2
          rw [show a = L from e, hL] at this; cases this
        · cases q : h₀.get? a with
          | none => rfl
          | some o' => have := ha.2; rw [S.F.keep _ _ q] at this; cases this
      · exact S'.W p hp
    · obtain ⟨p, hp, e⟩ := List.mem_map.mp q
      rcases List.mem_append.mp hp with hp | hp
      · exact nd'.1 (List.mem_map.mpr ⟨p, hp, e⟩)
      · have h1 := (S.W p hp).1
        have h2 := ha.2
        rw [show p.1 = a from e, h2] at h1; cases h1

inductive Puts : List Str → List (Option Value) → List Str → List Value → List (Option Value) → Prop
  | nil {ns : List Str} {vs : List (Option Value)} : Puts ns vs [] [] vs
  | cons {ns xs : List Str} {vs vs1 vs' : List (Option Value)} {x : Str} {v : Value} {its : List Value} : Put ns vs x v vs1 → Puts ns vs1 xs its vs' → Puts ns vs (x :: xs) (v :: its) vs'
theorem x_stores (C : Fn env L ns gs) : ∀ {ps : List (Str × Pos)} {its : List Value} {vs vs' : List (Option Value)} {h : Heap} {t : Nat}, St w h₀ L ns vs N h → Puts ns vs (ps.map (·.1)) its vs' → (∀ h' t', St w h₀ L ns vs' N h' → QU () (mk z h' t')) →
    wpAny (model Prg w) A (assignInOrder (ps.map fun p => assign (.Name p.1 p.2) env) its) QU E (mk z h t)
  | [], its, vs, vs', h, t, S, p, k => by
    cases p
    exact wpAny_assignInOrder_none (k _ _ S)
  | (x, q) :: ps, its, vs, vs', h, t, S, p, k => by
    cases p with
    | cons p1 p2 =>
      refine wpAny_assignInOrder_more (PyProof.Rows.assign_Name (x_store C S p1 fun h' t' S' => ?_))
      exact x_stores C S' p2 k
inductive Nms : List Expr → List (Str × Pos) → List Str → Prop
  | nil : Nms [] [] []
  | cons {x : Str} {p : Pos} {es : List Expr} {ps : List (Str × Pos)} {xs : List Str} : Nms es ps xs → Nms (.Name x p :: es) ((x, p) :: ps) (x :: xs)
theorem Nms.names {es : List Expr} {ps : List (Str × Pos)} {xs : List Str} (n : Nms es ps xs) : ps.map (·.1) = xs := by
  induction n with
  | nil => rfl
  | cons n ih => simp [ih]
theorem Nms.each {es : List Expr} {ps : List (Str × Pos)} {xs : List Str} (n : Nms es ps xs) : assignEach es env = ps.map fun p => (false, assign (.Name p.1 p.2) env) := by
  induction n with
  | nil => rfl
  | @cons x p es ps xs n ih =>
    have : assignEach (.Name x p :: es) env = (false, assign (.Name x p) env) :: assignEach es env := by with_unfolding_all rfl
    rw [this, ih]; rfl
/-- a tuple taken apart -/
def Unp (w : World) (A : Around) (z : Shared) (h₀ : Heap) (L : Addr) (env : Env) (ns xs : List Str) (rest : List Stmt) (Q : Flow → Shared → Prop) (v : Value) (s₁ : Shared) : Prop :=
  ∃ tp its vs vs' N h t, v = .ref tp ∧ s₁ = mk z h t ∧ St w h₀ L ns vs N h ∧ IsTup h tp its.toArray ∧ its.length = xs.length ∧ Puts ns vs xs its vs' ∧ (∀ h' t', St w h₀ L ns vs' N h' → wpAny (model Prg w) A (execs rest env) Q NoE (mk z h' t'))
theorem unp {xs : List Str} {tp : Addr} {its : List Value} (S : St w h₀ L ns vs N h) (ht : IsTup h tp its.toArray) (hl : its.length = xs.length) (p : Puts ns vs xs its vs') (k : ∀ h' t', St w h₀ L ns vs' N h' → wpAny (model Prg w) A (execs rest env) Q NoE (mk z h' t')) :
    Unp w A z h₀ L env ns xs rest Q (.ref tp) (mk z h t) := ⟨tp, its, vs, vs', N, h, t, rfl, rfl, S, ht, hl, p, k⟩
theorem s_unp {elts : List Expr} {kk : Nat} {tpos pos : Pos} {value : Expr} {ps : List (Str × Pos)} {xs : List Str} (r : A.handled = none) (C : Fn env L ns gs) (_S : St w h₀ L ns vs N h) (he : Nms elts ps xs)
    (k : wpAny (model Prg w) A (eval value env) (Unp w A z h₀ L env ns xs rest Q) NoE (mk z h t))
    (hs : swapsWithSole [.Tuple elts kk tpos] value pos.line env = pure false) (hw : swappedStores [.Tuple elts kk tpos] value env = pure none) :
    wpAny (model Prg w) A (execs (.Assign [.Tuple elts kk tpos] value pos :: rest) env) Q NoE (mk z h t) := by
  refine s_cons (PyProof.Rows.Assign_Tuple (wpAny_mono k (fun v s₁ q => ?_) fun _ _ x => x) hs hw)
  obtain ⟨tp, its, vs, vs', N, h, t, rfl, rfl, S, ht, hl, p, k⟩ := q
  refine unpackN_ (s := mk z h t) S.F S.W ht r ?_ ?_ fun h' F' N' => ?_
  · rw [he.each]; simp only [List.length_map, List.size_toArray]; rw [hl, ← he.names]; simp
  · rw [he.each, List.findIdx?_eq_none_iff]; simp
  · rw [he.each, List.map_map]
    exact x_stores C ⟨F', N', S.G₀, S.nd, S.len⟩ (he.names ▸ p) fun h' t' S' => k h' t' S'
end
end
local macro_rules | `(tactic| tm_at "m_puts") => `(tactic| first | with_reducible exact Puts.nil | ((with_reducible apply Puts.cons); tm_at "m_put"; tm_at "m_puts"))
local macro_rules | `(tactic| tm_at "m_br") => `(tactic| first | refine br_t (by decide +kernel) ?_ | refine br_f (by decide +kernel) ?_)
local macro_rules | `(tactic| tm_at "m_nms") => `(tactic| first | with_reducible exact Nms.nil | ((with_reducible apply Nms.cons); tm_at "m_nms"))
local macro_rules | `(tactic| tm_at "m_unp") => `(tactic| ((with_reducible refine' s_unp ?r ?C ?S ?n ?_ ?s ?w); (case r => exact Room.hd (by with_reducible assumption)); (case C => tm_at "m_asm"); (case S => tm_at "m_asm"); (case n => tm_at "m_nms"); (case s => with_unfolding_all rfl); (case w => with_unfolding_all rfl)))
section
open PySem PySem.W PyProof.Rows PySem.Calls
theorem gf_Float (w : World) : GF w "_Float" 272 := ⟨by kernel_rfl, by kernel_rfl⟩
theorem gf_Uns (w : World) : GF w "_UnsignedInteger" 167 := ⟨by kernel_rfl, by kernel_rfl⟩
theorem gf_Sig (w : World) : GF w "_SignedInteger" 132 := ⟨by kernel_rfl, by kernel_rfl⟩
theorem gf_Boo (w : World) : GF w "_Boolean" 196 := ⟨by kernel_rfl, by kernel_rfl⟩
theorem gf_Raw (w : World) : GF w "_Raw" 298 := ⟨by kernel_rfl, by kernel_rfl⟩
theorem gf_Text (w : World) : GF w "_Text" 383 := ⟨by kernel_rfl, by kernel_rfl⟩
theorem gf_Zero (w : World) : GF w "_ZeroPadding" 329 := ⟨by kernel_rfl, by kernel_rfl⟩
theorem gf_One (w : World) : GF w "_OnePadding" 348 := ⟨by kernel_rfl, by kernel_rfl⟩
theorem gf_draw (w : World) : GF w "_law_draw" 530 := ⟨by kernel_rfl, by kernel_rfl⟩
theorem gf_letters (w : World) : GF w "_law_letters" 537 := ⟨by kernel_rfl, by kernel_rfl⟩
theorem gf_turned (w : World) : GF w "_law_turned" 544 := ⟨by kernel_rfl, by kernel_rfl⟩
theorem gf_step (w : World) : GF w "_law_step" 551 := ⟨by kernel_rfl, by kernel_rfl⟩
theorem gf_info (w : World) : GF w "_law_info" 558 := ⟨by kernel_rfl, by kernel_rfl⟩
theorem gf_row (w : World) : GF w "_law_row" 563 := ⟨by kernel_rfl, by kernel_rfl⟩
theorem gf_run (w : World) : GF w "_law_run" 568 := ⟨by kernel_rfl, by kernel_rfl⟩
theorem gf_octets (w : World) : GF w "_law_octets" 575 := ⟨by kernel_rfl, by kernel_rfl⟩
theorem gf_FLOATS (w : World) : GF w "_law_FLOATS" 523 := ⟨by kernel_rfl, by kernel_rfl⟩
theorem gf_parse (w : World) : GF w "_parse_format" 390 := ⟨by kernel_rfl, by kernel_rfl⟩
theorem gf_pba (w : World) : GF w "_pack_bytearray" 397 := ⟨by kernel_rfl, by kernel_rfl⟩
theorem gf_uba (w : World) : GF w "_unpack_bytearray" 404 := ⟨by kernel_rfl, by kernel_rfl⟩
theorem gf_hexl (w : World) : GF w "hexlify" 234 := ⟨by kernel_rfl, by kernel_rfl⟩
theorem gf_unhexl (w : World) : GF w "unhexlify" 248 := ⟨by kernel_rfl, by kernel_rfl⟩
theorem gf_buffer (w : World) : GF w "_buffer" 225 := ⟨by kernel_rfl, by kernel_rfl⟩
theorem gf_abuffer (w : World) : GF w "_ascii_buffer" 218 := ⟨by kernel_rfl, by kernel_rfl⟩
theorem gf_hexv (w : World) : GF w "_hex_value" 241 := ⟨by kernel_rfl, by kernel_rfl⟩
theorem gf_pack (w : World) : GF w "pack_bitstruct" 516 := ⟨by kernel_rfl, by kernel_rfl⟩
theorem gf_CF (w : World) : GF w "CompiledFormat" 507 := ⟨by kernel_rfl, by kernel_rfl⟩
end
local macro_rules | `(tactic| tm_at "m_gf") => `(tactic| with_reducible first | exact gf_Float _ | exact gf_Uns _ | exact gf_Sig _ | exact gf_Boo _ | exact gf_Raw _ | exact gf_Text _ | exact gf_Zero _ | exact gf_One _ | exact gf_draw _ | exact gf_letters _ | exact gf_turned _ | exact gf_step _ | exact gf_info _ | exact gf_row _ | exact gf_run _ | exact gf_octets _ | exact gf_FLOATS _ | exact gf_parse _ | exact gf_pba _ | exact gf_uba _ | exact gf_hexl _ | exact gf_unhexl _ | exact gf_buffer _ | exact gf_abuffer _ | exact gf_hexv _ | exact gf_pack _ | exact gf_CF _)
section
open PySem PySem.W PyProof.Rows PySem.Calls
def Kd.code : Kd → Nat
  | .u => 117 | .s => 115 | .b => 98 | .r => 114 | .t => 116 | .f => 102 | .p => 112 | .P => 80
def Kd.pad : Kd → Bool
  | .p => true | .P => true | _ => false
/-- a row of the law's run -/
structure Row where
  k : Kd
  lt : Bool
  sz : Nat
  pl : Nat
  val : Value
  num : Nat
  t1 : Tok
  t2 : Tok
  t3 : Tok
  t4 : Tok
  t5 : Tok
def ordS (lt : Bool) : Str := S [if lt then 60 else 62]
def Row.ord (r : Row) : Value := .str (ordS r.lt) r.t2
def Row.items (r : Row) : List Value := [.str (S [r.k.code]) r.t1, r.ord, .int r.sz r.t3, .int r.pl r.t4, r.val, .int r.num r.t5]

theorem two {h h' : Heap} {x C dx : Addr} {es : List DictEntry} (ob : Ob h' x C dx es es.length) (nx : h.get? x = none) (nd : h.get? dx = none) : ∀ p ∈ [(x, instObj C dx), (dx, dicO es)], h'.get? p.1 = some p.2 ∧ h.get? p.1 = none := fun p hp => by
  rcases List.mem_cons.mp hp with rfl | hp
  · exact ⟨ob.ox, nx⟩
  · rw [List.mem_singleton.mp hp]; exact ⟨ob.od, nd⟩
theorem two_nd {x dx : Addr} {o o' : Obj} (h : x ≠ dx) : ([(x, o), (dx, o')].map (·.1)).Nodup := by simp [h]
section
variable {w : World} {A : Around} {E : Value → Shared → Prop} {z : Shared} {h h₀ : Heap} {t : Nat} {L : Addr}
  {ns gs : List Str} {vs vs' : List (Option Value)} {N : List (Addr × Obj)} {QU : Unit → Shared → Prop} {x dx : Addr} {es : List DictEntry}
theorem v_endi {k : Kd} {sz : Nat} {nm e v : Value} (S : St w h₀ L ns vs N h) (hm : (x, instObj k.cls dx) ∈ N) {N' : List DictEntry → List (Addr × Obj)} (u : ∀ es', UpdN N dx (dicO es) (dicO es') (N' es')) (ie : InfE k sz nm e es)
    (kk : ∀ es' h' t', InfE k sz nm v es' → St w h₀ L ns vs (N' es') h' → QU () (mk z h' t')) : wpAny (model Prg w) A (setAttr (.ref x) "endianness" v) QU E (mk z h t) := by
  obtain ⟨es', p, ie'⟩ := ie.put (PyData.keyHash w.params "endianness") (t + 1) v
  exact v_put S (Ob.of S hm (u es).mem) (Kd.ic w k) (by tm_at "m_mem") (by have := ie.len; omega) p (u es') fun h' t' S' => kk es' h' t' ie' S'
end
theorem c_info {w : World} {A : Around} {E : Value → Shared → Prop} {z : Shared} {h : Heap} {t : Nat} {QV : Value → Shared → Prop} (r : Room A 10) (G : Gl w h) (R : Row) (hp : R.k.pad = false) (h1 : 1 ≤ R.sz) (hs : R.sz ≤ 64) {a : Addr} (ha : IsTup h a R.items.toArray)
    (q : ∀ x dx es h' t', h.StaysIn h' → Ob h' x R.k.cls dx es es.length → h.get? x = none → h.get? dx = none → x ≠ dx → InfE R.k R.sz (.int R.pl R.t4) R.ord es → QV (.ref x) (mk z h' t')) :
    wpAny (model Prg w) A (call (.ref 558) [.ref a]) QV E (mk z h t) := by
  refine enter (n := 9) (binds := [(Str.ofString "row", .ref a)]) [Str.ofString "row", Str.ofString "kind", Str.ofString "order", Str.ofString "size", Str.ofString "place", Str.ofString "value", Str.ofString "number", Str.ofString "info"] [Str.ofString "_Float", Str.ofString "_UnsignedInteger", Str.ofString "_SignedInteger", Str.ofString "_Boolean", Str.ofString "_Raw", Str.ofString "_Text"] rfl r G (by kernel_rfl) (BindsTo.of_eq rfl) (by tm_at "m_sc") ⟨rfl, trivial⟩ ?_
  intro A' L h' t' env he r' hfr C S
  clear he hfr
  dsimp only [initL] at S
  obtain ⟨K, lt, sz, pl, val, num, t1, t2, t3, t4, t5⟩ := R
  dsimp only [Row.items, Row.ord] at *
  tm_at "m_unp"
  tm_at "ms"
  refine unp S (ha.keeps S.F.keep) rfl (by tm_at "m_puts") ?_
  intro h2 t2' S2
  clear S
  tm_at "ms"
  refine ⟨S2.G.X, new_0 (k := .f) (.inr (.inl rfl)) (r'.le (by omega)) S2.G _ _ _ _ (.inl rfl) ?_⟩
  intro x dx es h3 t3' k3 ob3 nx nd nxd ie3
  have S3 := S2.adds k3 [(x, instObj (Kd.cls .f) dx), (dx, dicO es)] (two ob3 nx nd) (two_nd nxd)
  tm_at "ms"
  rename St _ _ _ _ _ _ _ => S3'
  cases K
  case f =>
    repeat' (first | tm_at "m" | tm_at "m_br")
    refine v_endi (k := .f) (es := es) S3' (.head _) (fun _ => .next .here) ie3 ?_
    intro es' h5 t5' ie5 S5
    tm_at "ms"
    exact q x dx es' h5 _ S5.F.keep (Ob.of S5 (.head _) (.tail _ (.head _))) (S5.W _ (.head _)).2.2 (S5.W _ (.tail _ (.head _))).2.2 nxd ie5
  case p => cases hp
  case P => cases hp
  case u =>
    repeat' (first | tm_at "m" | tm_at "m_br")
    refine ⟨S3'.G.X, new_u (.inl rfl) (r'.le (by omega)) S3'.G _ _ _ (by omega) rfl ?_⟩
    intro x2 dx2 es2 h4 t4' k4 ob4 nx2 nd2 nxd2 ie4
    have S4 := S3'.adds k4 [(x2, instObj (Kd.cls .u) dx2), (dx2, dicO es2)] (two ob4 nx2 nd2) (two_nd nxd2)
    clear S3'
    repeat' (first | tm_at "m" | tm_at "m_br")
    rename St _ _ _ _ _ _ _ => S4'
    refine v_endi (k := .u) (es := es2) S4' (.head _) (fun _ => .next .here) ie4 ?_
    intro es' h5 t5' ie5 S5
    tm_at "ms"
    exact q x2 dx2 es' h5 _ S5.F.keep (Ob.of S5 (.head _) (.tail _ (.head _))) (S5.W _ (.head _)).2.2 (S5.W _ (.tail _ (.head _))).2.2 nxd2 ie5
  case b =>
    repeat' (first | tm_at "m" | tm_at "m_br")
    refine ⟨S3'.G.X, new_u (k := .b) (.inr rfl) (r'.le (by omega)) S3'.G _ _ _ (by omega) rfl ?_⟩
    intro x2 dx2 es2 h4 t4' k4 ob4 nx2 nd2 nxd2 ie4
    have S4 := S3'.adds k4 [(x2, instObj (Kd.cls .b) dx2), (dx2, dicO es2)] (two ob4 nx2 nd2) (two_nd nxd2)
    clear S3'
    repeat' (first | tm_at "m" | tm_at "m_br")
    rename St _ _ _ _ _ _ _ => S4'
    refine v_endi (k := .b) (es := es2) S4' (.head _) (fun _ => .next .here) ie4 ?_
    intro es' h5 t5' ie5 S5
    tm_at "ms"
    exact q x2 dx2 es' h5 _ S5.F.keep (Ob.of S5 (.head _) (.tail _ (.head _))) (S5.W _ (.head _)).2.2 (S5.W _ (.tail _ (.head _))).2.2 nxd2 ie5
  case s =>
    repeat' (first | tm_at "m" | tm_at "m_br")
    refine ⟨S3'.G.X, new_s (r'.le (by omega)) S3'.G _ _ _ h1 (by omega) rfl ?_⟩
    intro x2 dx2 es2 h4 t4' k4 ob4 nx2 nd2 nxd2 ie4
    have S4 := S3'.adds k4 [(x2, instObj (Kd.cls .s) dx2), (dx2, dicO es2)] (two ob4 nx2 nd2) (two_nd nxd2)
    clear S3'
    repeat' (first | tm_at "m" | tm_at "m_br")
    rename St _ _ _ _ _ _ _ => S4'
    refine v_endi (k := .s) (es := es2) S4' (.head _) (fun _ => .next .here) ie4 ?_
    intro es' h5 t5' ie5 S5
    tm_at "ms"
    exact q x2 dx2 es' h5 _ S5.F.keep (Ob.of S5 (.head _) (.tail _ (.head _))) (S5.W _ (.head _)).2.2 (S5.W _ (.tail _ (.head _))).2.2 nxd2 ie5
  case r =>
    repeat' (first | tm_at "m" | tm_at "m_br")
    refine ⟨S3'.G.X, new_0 (k := .r) (.inl rfl) (r'.le (by omega)) S3'.G _ _ _ _ (.inl rfl) ?_⟩
    intro x2 dx2 es2 h4 t4' k4 ob4 nx2 nd2 nxd2 ie4
    have S4 := S3'.adds k4 [(x2, instObj (Kd.cls .r) dx2), (dx2, dicO es2)] (two ob4 nx2 nd2) (two_nd nxd2)
    clear S3'
    repeat' (first | tm_at "m" | tm_at "m_br")
    rename St _ _ _ _ _ _ _ => S4'
    refine v_endi (k := .r) (es := es2) S4' (.head _) (fun _ => .next .here) ie4 ?_
    intro es' h5 t5' ie5 S5
    tm_at "ms"
    exact q x2 dx2 es' h5 _ S5.F.keep (Ob.of S5 (.head _) (.tail _ (.head _))) (S5.W _ (.head _)).2.2 (S5.W _ (.tail _ (.head _))).2.2 nxd2 ie5
  case t =>
    repeat' (first | tm_at "m" | tm_at "m_br")
    refine ⟨S3'.G.X, new_t (r'.le (by omega)) S3'.G _ _ _ _ _ ?_⟩
    intro x2 dx2 es2 h4 t4' k4 ob4 nx2 nd2 nxd2 ie4
    have S4 := S3'.adds k4 [(x2, instObj (Kd.cls .t) dx2), (dx2, dicO es2)] (two ob4 nx2 nd2) (two_nd nxd2)
    clear S3'
    repeat' (first | tm_at "m" | tm_at "m_br")
    rename St _ _ _ _ _ _ _ => S4'
    refine v_endi (k := .t) (es := es2) S4' (.head _) (fun _ => .next .here) ie4 ?_
    intro es' h5 t5' ie5 S5
    tm_at "ms"
    exact q x2 dx2 es' h5 _ S5.F.keep (Ob.of S5 (.head _) (.tail _ (.head _))) (S5.W _ (.head _)).2.2 (S5.W _ (.tail _ (.head _))).2.2 nxd2 ie5
end
section
open PySem PySem.W PyProof.Rows PySem.Calls
theorem ofList_S (l : List Char) : Str.ofString (String.ofList l) = S (l.map Char.toNat) := by
  rw [Str.ofString_eq_toList]
  simp [S, String.toList_ofList]
theorem lets_snoc : ∀ (k n : Nat), lets (k + 1) n = lets k (n / 2) ++ [48 + n % 2]
  | 0, n => by simp [lets]
  | k + 1, n => by
    have ih := lets_snoc k n
    show (48 + n / 2 ^ (k + 1) % 2) :: lets (k + 1) n = ((48 + n / 2 / 2 ^ k % 2) :: lets k (n / 2)) ++ [48 + n % 2]
    rw [ih, Nat.div_div_eq_div_mul, Nat.pow_succ, Nat.mul_comm 2 (2 ^ k)]
    rfl
theorem lets_app : ∀ (b a n : Nat), lets (a + b) n = lets a (n / 2 ^ b) ++ lets b n
  | 0, a, n => by simp [lets]
  | b + 1, a, n => by
    rw [← Nat.add_assoc, lets_snoc, lets_snoc b n, lets_app b a (n / 2), ← List.append_assoc, Nat.div_div_eq_div_mul, Nat.pow_succ, Nat.mul_comm 2 (2 ^ b)]
theorem lets_mod : ∀ (k n m : Nat), k ≤ m → lets k (n % 2 ^ m) = lets k n
  | 0, n, m, _ => rfl
  | k + 1, n, m, h => by
    show (48 + n % 2 ^ m / 2 ^ k % 2) :: lets k (n % 2 ^ m) = (48 + n / 2 ^ k % 2) :: lets k n
    rw [lets_mod k n m (by omega)]
    have e : m = k + 1 + (m - (k + 1)) := by omega
    have h1 : n % 2 ^ m / 2 ^ k % 2 = n / 2 ^ k % 2 := by
      rw [e, Nat.pow_add, Nat.pow_succ, Nat.mul_assoc, Nat.mod_mul_right_div_self, Nat.mod_mul_right_mod]
    rw [h1]
theorem lets_rev : ∀ (k n : Nat), (lets k n).reverse = lets k (turnN k n)
  | 0, _ => rfl
  | k + 1, n => by
    show ((48 + n / 2 ^ k % 2) :: lets k n).reverse = _
    rw [List.reverse_cons, lets_rev k n, lets_snoc]
    have h1 : turnN (k + 1) n / 2 = turnN k n := by show (2 * turnN k n + n / 2 ^ k % 2) / 2 = _; omega
    have h2 : turnN (k + 1) n % 2 = n / 2 ^ k % 2 := by show (2 * turnN k n + n / 2 ^ k % 2) % 2 = _; omega
    rw [h1, h2]
theorem turnN_lt : ∀ (k n : Nat), turnN k n < 2 ^ k
  | 0, _ => by simp [turnN]
  | k + 1, n => by
    have := turnN_lt k n
    show 2 * turnN k n + n / 2 ^ k % 2 < _
    rw [Nat.pow_succ]; omega
theorem dig2 : ∀ (k m : Nat), m < 2 ^ k → (Nat.toDigits 2 (2 ^ k + m)).map Char.toNat = 49 :: lets k m
  | 0, m, h => by
    have : m = 0 := by simpa using h
    subst this; rfl
  | k + 1, m, h => by
    have hp : 2 ^ (k + 1) = 2 * 2 ^ k := by rw [Nat.pow_succ]; omega
    have hk : 1 ≤ 2 ^ k := Nat.one_le_two_pow
    rw [Nat.toDigits_of_base_le (by decide) (by omega), List.map_append]
    have e1 : (2 ^ (k + 1) + m) / 2 = 2 ^ k + m / 2 := by omega
    have e2 : (2 ^ (k + 1) + m) % 2 = m % 2 := by omega
    rw [e1, e2, dig2 k (m / 2) (by omega), lets_snoc]
    have e3 : (Nat.digitChar (m % 2)).toNat = 48 + m % 2 := by
      rcases Nat.mod_two_eq_zero_or_one m with q | q <;> rw [q] <;> rfl
    simp [e3]
theorem bin_text (k m : Nat) (h : m < 2 ^ k) : baseText "0b" 2 ((2 ^ k + m : Nat) : Int) = S (48 :: 98 :: 49 :: lets k m) := by
  unfold baseText
  rw [if_neg (by omega), ofList_S (Nat.toDigits 2 _), Int.natAbs_natCast, dig2 k m h]
  have e0 : Str.ofString "" = S [] := by decide +kernel
  have e1 : Str.ofString "0b" = S [48, 98] := by decide +kernel
  rw [e0, e1, S_app, S_app]; rfl

/-- a number's letters in pieces, the lowest first -/
def pieces : Nat → Nat → Nat → Nat → List Nat
  | 0, _, left, num => lets left num
  | f + 1, take, left, num => if left ≤ take then lets left num else lets take num ++ pieces f 8 (left - take) (num / 2 ^ take)
/-- the letters behind a text in hand of n letters -/
def stepL (raw low : Bool) (n sz num : Nat) : List Nat := if !low || raw then lets sz num else pieces sz (8 - n % 8) sz num
theorem pieces_len : ∀ (f t l n : Nat), (pieces f t l n).length = l
  | 0, _, l, n => by simp [pieces, lets_len]
  | f + 1, t, l, n => by
    unfold pieces
    split
    · exact lets_len _ _
    · rw [List.length_append, lets_len, pieces_len f]; omega
theorem stepL_len (raw low : Bool) (n sz num : Nat) : (stepL raw low n sz num).length = sz := by
  unfold stepL
  split
  · exact lets_len _ _
  · exact pieces_len _ _ _ _
end
section
open PySem PySem.W PyProof.Rows PySem.Calls
section
variable {w : World} {A : Around} {E : Value → Shared → Prop} {z : Shared} {h h₀ : Heap} {t : Nat} {L : Addr} {env : Env} {s : Shared}
  {ns gs : List Str} {vs vs' : List (Option Value)} {N N' : List (Addr × Obj)} {QV : Value → Shared → Prop} {Q : Flow → Shared → Prop} {QB : Bool → Shared → Prop} {QU : Unit → Shared → Prop} {rest : List Stmt}
  {a b : Int} {ta tb : Tok} {x y : Str}

/-- a while: what one turn leaves -/
def WTurned (w : World) (z : Shared) (h₀ : Heap) (L : Addr) (ns : List Str) (Inv : Nat → List (Option Value) → List (Addr × Obj) → Prop) (n : Nat) (f : Flow) (s' : Shared) : Prop :=
  f = .next ∧ ∃ m vs N h t, m < n ∧ s' = mk z h t ∧ St w h₀ L ns vs N h ∧ Inv m vs N
theorem WTurned.mk' {Inv : Nat → List (Option Value) → List (Addr × Obj) → Prop} {n : Nat} (m : Nat) (hm : m < n) (S : St w h₀ L ns vs N h) (i : Inv m vs N) : WTurned w z h₀ L ns Inv n .next (mk z h t) :=
  ⟨rfl, m, vs, N, h, t, hm, rfl, S, i⟩
theorem s_while {test : Expr} {body : List Stmt} {pos : Pos} (Inv : Nat → List (Option Value) → List (Addr × Obj) → Prop) (n : Nat) (S : St w h₀ L ns vs N h) (h0 : Inv n vs N)
    (step : ∀ n vs N h t, Inv n vs N → St w h₀ L ns vs N h →
      wpAny (model Prg w) A (isTrue test env (eval test env)) (Br (fun s₂ => wpAny (model Prg w) A (execs body env) (WTurned w z h₀ L ns Inv n) NoE s₂) (fun s₂ => wpAny (model Prg w) A (execs rest env) Q NoE s₂)) NoE (mk z h t)) :
    wpAny (model Prg w) A (execs (.While test body [] pos :: rest) env) Q NoE (mk z h t) := by
  refine s_cons (wpAny_While (codeAny_whileLoop (fun n s' => ∃ vs N h t, s' = mk z h t ∧ St w h₀ L ns vs N h ∧ Inv n vs N) ?_ n ⟨vs, N, h, t, rfl, S, h0⟩))
  rintro n s' ⟨vs, N, h, t, rfl, S, J⟩
  refine wpAny_mono (step n vs N h t J S) (fun b s₂ q => ?_) fun _ _ e => e.elim
  cases b with
  | false =>
    simp only [Bool.false_eq_true, if_false]
    exact wpAny_execs_nil (q.2 rfl)
  | true =>
    simp only [if_true]
    refine wpAny_mono (q.1 rfl) (fun f s₃ h₃ => ?_) fun _ _ e => e.elim
    obtain ⟨rfl, m, vs', N', h', t', hm, rfl, S', J'⟩ := h₃
    exact ⟨m, hm, vs', N', h', t', rfl, S', J'⟩

theorem v_bin (k m : Nat) (ha : a = ((2 ^ k + m : Nat) : Int)) (hm : m < 2 ^ k) (hk : k ≤ 100000) (q : QV (.str (S (48 :: 98 :: 49 :: lets k m)) t) (mk z h (t + 1))) : wpAny (model Prg w) A (call (.builtin "bin") [.int a ta]) QV E (mk z h t) := by
  subst ha
  refine P.bin_of_int (s := mk z h t) (by rw [bin_text k m hm]; exact q) ?_
  rw [bin_text k m hm, S_len, sizeLine_eq]
  simp [lets_len]; omega
theorem v_intint (k : QV (.int a ta) (mk z h t)) : wpAny (model Prg w) A (call (.type "int") [.int a ta]) QV E (mk z h t) := call_int_int k
theorem v_intbool {b : Bool} (k : QV (.int (if b then 1 else 0) t) (mk z h (t + 1))) : wpAny (model Prg w) A (call (.type "int") [.bool b]) QV E (mk z h t) := call_int_bool k
theorem v_boolint (k : QV (.bool (a != 0)) (mk z h t)) : wpAny (model Prg w) A (call (.type "bool") [.int a ta]) QV E (mk z h t) := call_bool_int k
theorem v_shl (k : QV (.int (a * 2 ^ b.toNat) t) (mk z h (t + 1))) (hn : 0 ≤ b) (hn2 : b ≤ 1000) (ha : -1000000 < a ∧ a < 1000000) : wpAny (model Prg w) A (binaryOp .LShift (.int a ta) (.int b tb)) QV E (mk z h t) :=
  lshift_int_small (s := mk z h t) hn (by omega) (by omega) k
theorem v_iadd (k : QV (.int (a + b) t) (mk z h (t + 1))) : wpAny (model Prg w) A (inplaceOp .Add (.int a ta) (.int b tb)) QV E (mk z h t) := PyProof.Rows.iadd_int k
theorem v_isub (k : QV (.int (a - b) t) (mk z h (t + 1))) : wpAny (model Prg w) A (inplaceOp .Sub (.int a ta) (.int b tb)) QV E (mk z h t) := P.isub_int k
theorem v_isadd (k : ∀ t' tk, QV (.str (x ++ y) t') (mk z h tk)) (hz : x.length + y.length ≤ sizeLine) : wpAny (model Prg w) A (inplaceOp .Add (.str x ta) (.str y tb)) QV E (mk z h t) := PyProof.Rows.iadd_str k hz
theorem v_ins (k : QV (.bool (Txt.contains x y)) (mk z h t)) : wpAny (model Prg w) A (compareOp .In (.str y ta) (.str x tb)) QV E (mk z h t) := SB.contains k
theorem v_nins (k : QV (.bool (!Txt.contains x y)) (mk z h t)) : wpAny (model Prg w) A (compareOp .NotIn (.str y ta) (.str x tb)) QV E (mk z h t) := SB.notContains k
theorem v_lens {l : List Nat} (hz : l.length ≤ 2 ^ 60) (k : QV (.int l.length (t + 1)) (mk z h (t + 1 + 1))) : wpAny (model Prg w) A (call (.builtin "len") [.str (S l) ta]) QV E (mk z h t) :=
  PyProof.Rows.len_str (s := mk z h t) (by rw [S_len]; omega) (by rw [S_len]; exact k)
theorem v_min (hh : A.handled = none) (S : St w h₀ L ns vs N h) (k : ∀ t1 h' t', St w h₀ L ns vs N h' → QV (.int (min a b) t1) (mk z h' t')) : wpAny (model Prg w) A (call (.builtin "min") [.int a ta, .int b tb]) QV E (mk z h t) :=
  min_two_N (s := mk z h t) hh S.F S.W fun h' tk F' N' => by
    have e : (if b < a then b else a) = min a b := by split <;> omega
    rw [e]; exact k _ h' tk ⟨F', N', S.G₀, S.nd, S.len⟩
theorem g_inp {op : Operator} {a b : Value} (k : wpAny (model Prg w) A (inplaceOp op a b) QV E s) : wpAny (model Prg w) A (inplaceOp op a b) QV E s := k
end
theorem bi_bin (w : World) : BI w "bin" (.builtin "bin") := ⟨by kernel_rfl, by kernel_rfl, by decide⟩
theorem bi_min (w : World) : BI w "min" (.builtin "min") := ⟨by kernel_rfl, by kernel_rfl, by decide⟩
theorem bi_sum (w : World) : BI w "sum" (.builtin "sum") := ⟨by kernel_rfl, by kernel_rfl, by decide⟩
theorem bi_hex (w : World) : BI w "hex" (.builtin "hex") := ⟨by kernel_rfl, by kernel_rfl, by decide⟩
theorem bi_chr (w : World) : BI w "chr" (.builtin "chr") := ⟨by kernel_rfl, by kernel_rfl, by decide⟩
theorem bi_isi (w : World) : BI w "isinstance" (.builtin "isinstance") := ⟨by kernel_rfl, by kernel_rfl, by decide⟩
theorem bi_int (w : World) : BI w "int" (.type "int") := ⟨by kernel_rfl, by kernel_rfl, by decide⟩
theorem bi_bool (w : World) : BI w "bool" (.type "bool") := ⟨by kernel_rfl, by kernel_rfl, by decide⟩
theorem bi_float (w : World) : BI w "float" (.type "float") := ⟨by kernel_rfl, by kernel_rfl, by decide⟩
theorem bi_str (w : World) : BI w "str" (.type "str") := ⟨by kernel_rfl, by kernel_rfl, by decide⟩
theorem bi_bytes (w : World) : BI w "bytes" (.type "bytes") := ⟨by kernel_rfl, by kernel_rfl, by decide⟩
theorem bi_type (w : World) : BI w "type" (.type "type") := ⟨by kernel_rfl, by kernel_rfl, by decide⟩
end
local macro_rules | `(tactic| tm_at "m_biB") => `(tactic| with_reducible first | exact bi_bin _ | exact bi_min _ | exact bi_sum _ | exact bi_hex _ | exact bi_chr _ | exact bi_isi _ | exact bi_len _)
local macro_rules | `(tactic| tm_at "m_biT") => `(tactic| with_reducible first | exact bi_int _ | exact bi_bool _ | exact bi_float _ | exact bi_str _ | exact bi_bytes _ | exact bi_type _)
local macro_rules | `(tactic| tm_at "m") => `(tactic| ((with_reducible refine g_inp ?_); first
  | with_reducible refine v_iadd ?_
  | with_reducible refine v_isub ?_
  | ((with_reducible refine v_isadd ?_ ?e); (case e => first | assumption | (simp only [S_len, lets_len, List.length_append, List.length_cons, List.length_nil, sizeLine_eq]; omega)); intro _ _)))
local macro_rules | `(tactic| tm_at "m_b") => `(tactic| ((with_reducible refine v_shl ?_ ?e ?f ?g); (case e => omega); (case f => omega); (case g => omega)))
local macro_rules | `(tactic| tm_at "m_k") => `(tactic| first | with_reducible refine v_ins ?_ | with_reducible refine v_nins ?_)
local macro_rules | `(tactic| tm_at "m") => `(tactic| ((with_reducible refine g_call ?_); first
  | with_reducible refine v_intint ?_
  | with_reducible refine v_intbool ?_
  | with_reducible refine v_boolint ?_
  | ((with_reducible refine v_lens ?e ?_); (case e => first | assumption | (simp only [lets_len, List.length_append, List.length_cons, List.length_nil]; omega)))
  | ((with_reducible refine' v_min ?H ?S ?_); (case H => exact Room.hd (by with_reducible assumption)); (case S => tm_at "m_asm"); intro _ _ _ _)))
section
open PySem PySem.W PyProof.Rows PySem.Calls
theorem sl3 (l : List Nat) : sl (48 :: 98 :: 49 :: l) 3 none = l := by
  unfold sl; simp
theorem p2i (k : Nat) : ((2 ^ k : Nat) : Int) = (2 : Int) ^ k := by push_cast; rfl
end
local macro_rules | `(tactic| tm_at "m_get") => `(tactic| with_reducible assumption)
local macro_rules | `(tactic| tm_at "m") => `(tactic| with_reducible first | refine br_f rfl ?_ | refine br_t rfl ?_)
local macro_rules | `(tactic| tm_at "m_o") => `(tactic| first | ((with_reducible refine br_df ?e ?_); (case e => omega)) | ((with_reducible refine br_dt ?e ?_); (case e => omega)) | fail "no branch known")
local macro_rules | `(tactic| tm_at "mo") => `(tactic| repeat' (first | tm_at "m" | tm_at "m_o"))
local macro_rules | `(tactic| tm_at "m_not") => `(tactic| with_reducible assumption)
section
open PySem PySem.W PyProof.Rows PySem.Calls
section
variable {w : World} {A : Around} {E : Value → Shared → Prop} {z : Shared} {h : Heap} {t : Nat} {QV : Value → Shared → Prop}
theorem c_packU {x C dx : Addr} {es : List DictEntry} {sz : Nat} {tm ts : Tok} (r : Room A 3) (G : Gl w h) (hC : InfoC w C) (I : Ob h x C dx es es.length) (gm : GetE es "maximum" (.int (2 ^ sz - 1) tm)) (gs : GetE es "size" (.int sz ts)) (hs : sz ≤ 100) (v : Nat) (tv : Tok) (hv : v < 2 ^ sz)
    (q : ∀ tv h' t', h.StaysIn h' → QV (.str (S (lets sz v)) tv) (mk z h' t')) :
    codeAny (model Prg w) A (.call (.ref 157) ⟨[.ref x, .int v tv], []⟩) (CR QV) (mk z h t) := by
  refine enterC (n := 2) (binds := [(Str.ofString "self", .ref x), (Str.ofString "arg", .int v tv)]) h [] [Str.ofString "self", Str.ofString "arg", Str.ofString "value"] [Str.ofString "int", Str.ofString "Error_bitstruct", Str.ofString "bin"] rfl r G (fun _ _ e => e) (Nat.le_refl _) (fun _ q => nomatch q) List.nodup_nil (by kernel_rfl) (BindsTo.of_eq rfl) (by tm_at "m_sc") ⟨rfl, rfl, trivial⟩ ?_
  intro A' L h' t' env he r' hfr Cf S
  clear he hfr
  dsimp only [initL] at S
  have hv' : (v : Int) < 2 ^ sz := by rw [← p2i]; exact_mod_cast hv
  tm_at "mo"
  refine v_bin sz v (by rw [Int.toNat_natCast, Int.natCast_add, p2i]; omega) hv (by omega) ?_
  tm_at "ms"
  refine t_slice (some (3, _)) none rfl rfl rfl (by simp [lets_len, sizeLine_eq]; omega) (by tm_at "m_asm") ?_ (by tm_at "m_hs")
  intro h2 t2 tk2 S2
  tm_at "ms"
  have := q t2 h2 tk2 S2.F.keep
  rw [← sl3 (lets sz v)] at this
  exact this
theorem c_packS {x C dx : Addr} {es : List DictEntry} {sz : Nat} {tm tn ts : Tok} (r : Room A 3) (G : Gl w h) (hC : InfoC w C) (I : Ob h x C dx es es.length) (gn : GetE es "minimum" (.int (-2 ^ (sz - 1)) tn)) (gm : GetE es "maximum" (.int (2 ^ (sz - 1) - 1) tm)) (gs : GetE es "size" (.int sz ts)) (h1 : 1 ≤ sz) (hs : sz ≤ 100)
    (v : Int) (tv : Tok) (n : Nat) (hv0 : -2 ^ (sz - 1) ≤ v) (hv1 : v ≤ 2 ^ (sz - 1) - 1) (hn : n < 2 ^ sz) (hvn : v = n ∨ (v < 0 ∧ v + 2 ^ sz = n))
    (q : ∀ tv h' t', h.StaysIn h' → QV (.str (S (lets sz n)) tv) (mk z h' t')) :
    codeAny (model Prg w) A (.call (.ref 122) ⟨[.ref x, .int v tv], []⟩) (CR QV) (mk z h t) := by
  refine enterC (n := 2) (binds := [(Str.ofString "self", .ref x), (Str.ofString "arg", .int v tv)]) h [] [Str.ofString "self", Str.ofString "arg", Str.ofString "value"] [Str.ofString "int", Str.ofString "Error_bitstruct", Str.ofString "bin"] rfl r G (fun _ _ e => e) (Nat.le_refl _) (fun _ q => nomatch q) List.nodup_nil (by kernel_rfl) (BindsTo.of_eq rfl) (by tm_at "m_sc") ⟨rfl, rfl, trivial⟩ ?_
  intro A' L h' t' env he r' hfr Cf S
  clear he hfr
  dsimp only [initL] at S
  tm_at "mo"
  · refine br_d ?_ ?_
    · intro hneg
      tm_at "mo"
      refine v_bin sz n (by rw [Int.toNat_natCast, Int.natCast_add, p2i]; omega) hn (by omega) ?_
      tm_at "ms"
      refine t_slice (some (3, _)) none rfl rfl rfl (by simp [lets_len, sizeLine_eq]; omega) (by tm_at "m_asm") ?_ (by tm_at "m_hs")
      intro h2 t2 tk2 S2
      tm_at "ms"
      have := q t2 h2 tk2 S2.F.keep
      rw [← sl3 (lets sz n)] at this
      exact this
    · intro hneg
      tm_at "mo"
      refine v_bin sz n (by rw [Int.toNat_natCast, Int.natCast_add, p2i]; omega) hn (by omega) ?_
      tm_at "ms"
      refine t_slice (some (3, _)) none rfl rfl rfl (by simp [lets_len, sizeLine_eq]; omega) (by tm_at "m_asm") ?_ (by tm_at "m_hs")
      intro h2 t2 tk2 S2
      tm_at "ms"
      have := q t2 h2 tk2 S2.F.keep
      rw [← sl3 (lets sz n)] at this
      exact this
theorem c_packB {x dx : Addr} {es : List DictEntry} {sz : Nat} {tm ts : Tok} (r : Room A 5) (G : Gl w h) (I : Ob h x 196 dx es es.length) (gm : GetE es "maximum" (.int (2 ^ sz - 1) tm)) (gs : GetE es "size" (.int sz ts)) (h1 : 1 ≤ sz) (hs : sz ≤ 100) (v : Int) (tv : Tok)
    (q : ∀ tv h' t', h.StaysIn h' → QV (.str (S (lets sz (if v = 0 then 0 else 1))) tv) (mk z h' t')) :
    codeAny (model Prg w) A (.call (.ref 185) ⟨[.ref x, .int v tv], []⟩) (CR QV) (mk z h t) := by
  refine enterSup (n := 4) (C := 196) (D := 196) (f2 := 157) (binds := [(Str.ofString "self", .ref x), (Str.ofString "arg", .int v tv)]) h [] [Str.ofString "self", Str.ofString "arg"] [Str.ofString "super", Str.ofString "int", Str.ofString "bool"] true
    rfl r G (fun b o e => e) (Nat.le_refl _) rfl (fun _ q => nomatch q) List.nodup_nil (by kernel_rfl) (BindsTo.of_eq rfl) (by tm_at "m_sc") ⟨rfl, rfl, trivial⟩
    rfl rfl (Ob.inst I) rfl rfl (by decide +kernel) rfl rfl (by kernel_rfl) (by kernel_rfl) (by decide +kernel) rfl rfl rfl (by decide +kernel) (by kernel_rfl) (by kernel_rfl) (by kernel_rfl) (by kernel_rfl) (by kernel_rfl)
    (fun _ => by with_unfolding_all rfl) (fun _ => by with_unfolding_all rfl) (fun _ => ⟨_, by with_unfolding_all rfl⟩) (fun _ => by with_unfolding_all rfl) (fun _ => by with_unfolding_all rfl) ?_
  intro A' L h' t' env so q' he r' hfr Cf S
  clear he hfr
  dsimp only [initL] at S
  tm_at "ms"
  refine ⟨⟨(S.W _ (.head _)).1, S.G.X⟩, ?_⟩
  have e : (if (v != 0) = true then (1 : Int) else 0) = ((if v = 0 then 0 else 1 : Nat) : Int) := by
    by_cases hv : v = 0 <;> simp [hv]
  rw [e]
  refine c_packU (r'.le (by omega)) S.G (ic_b w) (I.keeps S.F.keep) gm gs hs _ _ ?_ fun tv h2 t2 k2 => ?_
  · have : 2 ≤ 2 ^ sz := by
      calc 2 = 2 ^ 1 := rfl
        _ ≤ 2 ^ sz := Nat.pow_le_pow_right (by decide) h1
    split <;> omega
  · exact q tv h2 t2 fun b o e => k2 _ _ (S.F.keep _ _ e)
end
end
section
open PySem PySem.W PyProof.Rows PySem.Calls
def Kd.raw : Kd → Bool
  | .r => true | .t => true | _ => false
theorem in_rt (k : Kd) : Txt.contains (Str.ofString "rt") (S [k.code]) = k.raw := by cases k <;> decide +kernel
theorem in_pP (k : Kd) : Txt.contains (Str.ofString "pP") (S [k.code]) = k.pad := by cases k <;> decide +kernel
theorem ord_lt (lt : Bool) : (ordS lt == Str.ofString "<") = lt := by cases lt <;> decide +kernel
/-- the number in the group's bit order -/
def Row.bits (R : Row) : Nat := if R.lt then turnN R.sz R.num else R.num

section
variable {w : World} {A : Around} {E : Value → Shared → Prop} {z : Shared} {h : Heap} {t : Nat} {QV : Value → Shared → Prop}
theorem br_b {P1 P2 : Shared → Prop} {b c : Bool} {s : Shared} (e : b = c) (k1 : c = true → P1 s) (k2 : c = false → P2 s) : Br P1 P2 b s := ⟨fun q => k1 (e ▸ q), fun q => k2 (e ▸ q)⟩

theorem br_join {w : World} {A : Around} {E : Value → Shared → Prop} {env : Env} {Q : Flow → Shared → Prop} {b : Bool} {s : Shared} {body1 body2 rest : List Stmt} (J : Shared → Prop)
    (k : Br (fun s => wpAny (model Prg w) A (execs body1 env) (fun f s' => f = .next ∧ J s') E s) (fun s => wpAny (model Prg w) A (execs body2 env) (fun f s' => f = .next ∧ J s') E s) b s) (k2 : ∀ s', J s' → wpAny (model Prg w) A (execs rest env) Q E s') :
    Br (fun s => wpAny (model Prg w) A (execs body1 env) (thenDo w A env rest Q E) E s) (fun s => wpAny (model Prg w) A (execs body2 env) (thenDo w A env rest Q E) E s) b s :=
  ⟨fun e => wpAny_mono (k.1 e) (fun f s' q => by obtain ⟨rfl, j⟩ := q; exact k2 _ j) fun _ _ x => x, fun e => wpAny_mono (k.2 e) (fun f s' q => by obtain ⟨rfl, j⟩ := q; exact k2 _ j) fun _ _ x => x⟩
theorem c_step (r : Room A 5) (G : Gl w h) (R : Row) (hs : R.sz ≤ 64) {a : Addr} (ha : IsTup h a R.items.toArray) (hand : List Nat) (th : Tok) (hh : hand.length ≤ 5000) (low : Bool)
    (q : ∀ tv h' t', h.StaysIn h' → QV (.str (S (hand ++ stepL R.k.raw low hand.length R.sz R.bits)) tv) (mk z h' t')) :
    wpAny (model Prg w) A (call (.ref 551) [.str (S hand) th, .ref a, .bool low]) QV E (mk z h t) := by
  refine enter (n := 4) (binds := [(Str.ofString "hand", .str (S hand) th), (Str.ofString "row", .ref a), (Str.ofString "low_first", .bool low)]) [Str.ofString "hand", Str.ofString "row", Str.ofString "low_first", Str.ofString "kind", Str.ofString "order", Str.ofString "size", Str.ofString "place", Str.ofString "value", Str.ofString "number", Str.ofString "text", Str.ofString "left", Str.ofString "take"] [Str.ofString "_law_turned", Str.ofString "_law_letters", Str.ofString "min", Str.ofString "len"] rfl r G (by kernel_rfl) (BindsTo.of_eq rfl) (by tm_at "m_sc") ⟨rfl, rfl, rfl, trivial⟩ ?_
  intro A' L h' t' env he r' hfr C S
  clear he hfr
  dsimp only [initL] at S
  obtain ⟨K, lt, sz, pl, val, num, t1, t2, t3, t4, t5⟩ := R
  dsimp only [Row.items, Row.ord] at *
  tm_at "m_unp"
  tm_at "ms"
  refine unp S (ha.keeps S.F.keep) rfl (by tm_at "m_puts") ?_
  intro h2 t2' S2
  clear S
  tm_at "ms"
  refine br_join (fun s => ∃ h3 t3' tn, s = mk z h3 t3' ∧ St w h L [Str.ofString "hand", Str.ofString "row", Str.ofString "low_first", Str.ofString "kind", Str.ofString "order", Str.ofString "size", Str.ofString "place", Str.ofString "value", Str.ofString "number", Str.ofString "text", Str.ofString "left", Str.ofString "take"]
    [some (.str (Mine.S hand) th), some (.ref a), some (.bool low), some (.str (Mine.S [K.code]) t1), some (.str (ordS lt) t2), some (.int sz t3), some (.int pl t4), some val, some (.int (if lt then turnN sz num else num : Nat) tn), none, none, none] [] h3) (br_b (ord_lt lt) ?_ ?_) ?_
  · intro hlt
    tm_at "ms"
    refine ⟨S2.G.X, c_turned (r'.le (by omega)) S2.G _ _ _ _ (by omega) fun tv h3 t3' k3 => ?_⟩
    have S3 := S2.stays k3
    tm_at "ms"
    rename St _ _ _ _ _ _ _ => S4
    refine ⟨rfl, _, _, tv, rfl, ?_⟩
    rw [if_pos hlt]; exact S4
  · intro hlt
    tm_at "ms"
    refine ⟨rfl, _, _, t5, rfl, ?_⟩
    rw [if_neg (by rw [hlt]; decide)]; exact S2
  clear S2
  rintro _ ⟨h3, t3', tn, rfl, S3⟩
  change St w h L _ [_, _, _, _, _, _, _, _, some (.int (Row.bits ⟨K, lt, sz, pl, val, num, t1, t2, t3, t4, t5⟩ : Nat) tn), _, _, _] _ _ at S3
  generalize Row.bits ⟨K, lt, sz, pl, val, num, t1, t2, t3, t4, t5⟩ = bits at *
  tm_at "ms"
  cases hl : (!low || K.raw)
  · have hlow : low = true := by cases low <;> simp_all
    have hraw : K.raw = false := by cases low <;> simp_all
    subst hlow
    tm_at "ms"
    refine br_f (by rw [in_rt]; exact hraw) ?_
    tm_at "ms"
    rename St _ _ _ _ _ _ _ => S4
    have hstep : stepL K.raw true hand.length sz bits = pieces sz (8 - hand.length % 8) sz bits := by unfold stepL; rw [hl]; rfl
    rw [hstep] at q
    refine s_while (fun n vs N => N = [] ∧ ∃ f txt nm ta tb tc u, n ≤ f ∧ vs = [some (.str (Mine.S hand) th), some (.ref a), some (.bool true), some (.str (Mine.S [K.code]) t1), some (.str (ordS lt) t2), some (.int sz t3), some (.int pl t4), some val, some (.int (nm : Nat) ta), some (.str (Mine.S txt) tb), some (.int n tc), u]
      ∧ txt ++ pieces f (8 - txt.length % 8) n nm = hand ++ pieces sz (8 - hand.length % 8) sz bits ∧ txt.length + n = hand.length + sz) sz S4 ⟨rfl, sz, hand, bits, _, _, _, _, Nat.le_refl _, rfl, rfl, rfl⟩ ?_
    clear S4 S3
    rintro l vs N h5 t5' ⟨rfl, f, txt, nm, ta, tb, tc, u, hf, rfl, hP, hL⟩ S5
    tm_at "ms"
    refine br_d ?_ ?_
    · intro hpos
      have hlen : txt.length ≤ 2 ^ 60 := by omega
      tm_at "ms"
      rename St _ _ _ _ _ _ _ => S6
      have htk : min (8 - (txt.length : Int) % 8) (l : Int) = ((min (8 - txt.length % 8) l : Nat) : Int) := by omega
      rw [htk] at S6 ⊢
      generalize htkn : min (8 - txt.length % 8) l = tk at S6
      have htk8 : tk ≤ 8 := by omega
      have hpp : (0 : Int) < 2 ^ (tk : Int).toNat := Int.pow_pos (by decide)
      refine v_mod ?_ hpp
      rw [show (nm : Int) % 2 ^ (tk : Int).toNat = ((nm % 2 ^ tk : Nat) : Int) by rw [Int.toNat_natCast, Int.natCast_emod, p2i]]
      tm_at "ms"
      refine ⟨S6.G.X, c_letters (r'.le (by omega)) S6.G _ _ _ _ (by omega) fun tv h7 t7' k7 => ?_⟩
      have S7 := S6.stays k7
      have hz : (Mine.S txt).length + (Mine.S (lets tk (nm % 2 ^ tk))).length ≤ sizeLine := by rw [S_len, S_len, lets_len, sizeLine_eq]; omega
      tm_at "ms"
      refine v_fdiv ?_ hpp (by
        rw [Int.toNat_natCast, ← p2i]
        have : 2 ^ tk ≤ 2 ^ 8 := Nat.pow_le_pow_right (by decide) htk8
        omega)
      rw [show (nm : Int) / 2 ^ (tk : Int).toNat = ((nm / 2 ^ tk : Nat) : Int) by rw [Int.toNat_natCast, Int.natCast_ediv, p2i]]
      tm_at "ms"
      rename St _ _ _ _ _ _ _ => S8
      rw [S_app, show (l : Int) - (tk : Int) = ((l - tk : Nat) : Int) by omega] at S8
      refine WTurned.mk' (l - tk) (by omega) S8 ⟨rfl, f - 1, _, _, _, _, _, _, by omega, rfl, ?_, by simp [lets_len]; omega⟩
      obtain ⟨f, rfl⟩ : ∃ g, f = g + 1 := ⟨f - 1, by omega⟩
      rw [← hP, lets_mod _ _ _ (Nat.le_refl _), List.append_assoc]
      congr 1
      rw [Nat.add_sub_cancel, show pieces (f + 1) (8 - txt.length % 8) l nm = if l ≤ 8 - txt.length % 8 then lets l nm else lets (8 - txt.length % 8) nm ++ pieces f 8 (l - (8 - txt.length % 8)) (nm / 2 ^ (8 - txt.length % 8)) from rfl]
      by_cases hle : l ≤ 8 - txt.length % 8
      · have : tk = l := by omega
        rw [if_pos hle, this, Nat.sub_self]
        have : ∀ f t n, pieces f t 0 n = [] := fun f t n => List.eq_nil_of_length_eq_zero (pieces_len f t 0 n)
        rw [this, List.append_nil]
      · have : tk = 8 - txt.length % 8 := by omega
        rw [if_neg hle, ← this]
        have e8 : 8 - (txt ++ lets tk nm).length % 8 = 8 := by rw [List.length_append, lets_len]; omega
        rw [e8]
    · intro hz
      have : l = 0 := by omega
      subst this
      tm_at "ms"
      have e0 : ∀ f t n, pieces f t 0 n = [] := fun f t n => List.eq_nil_of_length_eq_zero (pieces_len f t 0 n)
      rw [e0, List.append_nil] at hP
      have := q tb h5 (t5' + 1) S5.F.keep
      rw [← hP] at this
      exact this
  · have hstep : stepL K.raw low hand.length sz bits = lets sz bits := by unfold stepL; rw [hl]; rfl
    rw [hstep] at q
    cases low with
    | false =>
      tm_at "ms"
      refine ⟨S3.G.X, c_letters (r'.le (by omega)) S3.G _ _ _ _ (by omega) fun tv h7 t7' k7 => ?_⟩
      have S7 := S3.stays k7
      have hz : (Mine.S hand).length + (Mine.S (lets sz bits)).length ≤ sizeLine := by rw [S_len, S_len, lets_len, sizeLine_eq]; omega
      tm_at "ms"
      rw [S_app]
      exact q _ _ _ S7.F.keep
    | true =>
      tm_at "ms"
      refine br_t (by rw [in_rt]; simpa using hl) ?_
      tm_at "ms"
      refine ⟨S3.G.X, c_letters (r'.le (by omega)) S3.G _ _ _ _ (by omega) fun tv h7 t7' k7 => ?_⟩
      have S7 := S3.stays k7
      have hz : (Mine.S hand).length + (Mine.S (lets sz bits)).length ≤ sizeLine := by rw [S_len, S_len, lets_len, sizeLine_eq]; omega
      tm_at "ms"
      rw [S_app]
      exact q _ _ _ S7.F.keep
end
end
section
open PySem PySem.W PyProof.Rows PySem.Calls
def Kd.packF : Kd → Addr
  | .u => 157 | .s => 122 | .b => 185 | .r => 288 | .t => 373 | .f => 262 | .p => 326 | .P => 345
theorem kd_find (w : World) (k : Kd) : findIn (KK w) (.ref k.cls) "pack" = some (some (.ref k.packF)) ∧ isFn (KK w) (.ref k.packF) = true ∧ keepIn (KK w) (.ref k.packF) = true := by
  cases k <;> exact ⟨by kernel_rfl, by kernel_rfl, by kernel_rfl⟩
theorem kd_isi (w : World) (k : Kd) : kitAny (KK w) (.ref k.cls) [.ref 298, .ref 383] = some k.raw ∧ kitOne (KK w) (.ref k.cls) (.ref 310) = some k.pad := by
  cases k <;> exact ⟨by kernel_rfl, by kernel_rfl⟩
theorem kd_cls (w : World) (k : Kd) : findIn (KK w) (.ref k.cls) "__class__" = some (some (.builtin "object.__class__")) ∧ mroIn (KK w) k.cls (.type "object") = some true ∧ plainGet (KK w) k.cls "__class__" = true := by
  cases k <;> exact ⟨by kernel_rfl, by kernel_rfl, by kernel_rfl⟩
theorem kd_own (w : World) (k : Kd) {x dx : Addr} {es : List DictEntry} {n : Nat} : KitX (KK w) (.ref x) (.ref k.cls) (fun h => InstAt h x (instObj k.cls dx) k.cls (some (dictOf es n))) :=
  kitx_own (kd_cls w k).2.2 (Kd.ic w k).plain.dict (kd_cls w k).1 (by kernel_rfl) (by kernel_rfl) (kd_cls w k).2.1

section
variable {w : World} {A : Around} {E : Value → Shared → Prop} {z : Shared} {h h₀ : Heap} {t : Nat} {L : Addr} {env : Env} {s : Shared}
  {ns gs : List Str} {vs vs' : List (Option Value)} {N N' : List (Addr × Obj)} {QV : Value → Shared → Prop} {k : Kd} {x dx tp : Addr} {es : List DictEntry} {n : Nat}
theorem v_isiT (S : St w h₀ L ns vs N h) (I : Ob h x k.cls dx es n) (hm : (tp, tupOf [.ref 298, .ref 383]) ∈ N) (q : ∀ t', QV (.bool k.raw) (mk z h t')) : wpAny (model Prg w) A (call (.builtin "isinstance") [.ref x, .ref tp]) QV E (mk z h t) :=
  kia_tup (s := mk z h t) (kd_own w k) S.G.X I.inst (S.W _ hm).1 (kd_isi w k).1 (by intro e; cases e) fun tk => q tk
theorem v_isiP (S : St w h₀ L ns vs N h) (I : Ob h x k.cls dx es n) (q : ∀ t', QV (.bool k.pad) (mk z h t')) : wpAny (model Prg w) A (call (.builtin "isinstance") [.ref x, .ref 310]) QV E (mk z h t) :=
  kia_one (s := mk z h t) (kd_own w k) S.G.X I.inst (kd_isi w k).2 (by intro e; cases e) fun tk => q tk
theorem g_getmeth {o : Value} {nm : Str} {pl : Sem Bool} {QP : Value × List Value → Shared → Prop} (q : wpAny (model Prg w) A (getMethod o nm pl) QP E s) : wpAny (model Prg w) A (getMethod o nm pl) QP E s := q
theorem v_pmeth {pl : Sem Bool} {QP : Value × List Value → Shared → Prop} (S : St w h₀ L ns vs N h) (I : Ob h x k.cls dx es n) (hl : NotE es "pack")
    (q : QP (.ref k.packF, [.ref x]) (mk z h t)) : wpAny (model Prg w) A (getMethod (.ref x) "pack" pl) QP E (mk z h t) := v_meth S I (Kd.ic w k).plain (kd_find w k).1 (kd_find w k).2.1 hl.get q
end
theorem gf_Padding (w : World) : GF w "_Padding" 310 := ⟨by kernel_rfl, by kernel_rfl⟩
end
local macro_rules | `(tactic| tm_at "m_gf") => `(tactic| with_reducible exact gf_Padding _)
local macro_rules | `(tactic| tm_at "m_e") => `(tactic| ((with_reducible refine' x_glob ?C ?S ?m (GF.v ?g) ?_); (case g => tm_at "m_gf"); (case C => tm_at "m_asm"); (case S => tm_at "m_asm"); (case m => tm_at "m_mem")))
section
open PySem PySem.W PyProof.Rows PySem.Calls
/-- what a group's pack is known to give for a value -/
def PackC (w : World) (z : Shared) (k : Kd) (x : Addr) (h₀ : Heap) (val : Value) (l : List Nat) : Prop :=
  ∀ (A : Around) (h : Heap) (t : Nat) (QV : Value → Shared → Prop), Room A 8 → Gl w h → h₀.StaysIn h → (∀ tv h' t', h.StaysIn h' → QV (.str (S l) tv) (mk z h' t')) →
    codeAny (model Prg w) A (.call (.ref k.packF) ⟨[.ref x, val], []⟩) (CR QV) (mk z h t)

theorem c_packval {w : World} {A : Around} {E : Value → Shared → Prop} {z : Shared} {h : Heap} {t : Nat} {QV : Value → Shared → Prop} (r : Room A 10) (G : Gl w h) {x0 dx0 x dx : Addr} {es0 es : List DictEntry} {n0 : Nat} {k : Kd} {sz : Nat} {nm : Value} {lt low : Bool} {to tm : Tok}
    (I0 : Ob h x0 507 dx0 es0 n0) (g0 : GetE es0 "_byte_order" (.str (ordS low) tm)) (I : Ob h x k.cls dx es es.length) (ie : InfE k sz nm (.str (ordS lt) to) es) (hs : sz ≤ 64) (val : Value) (num : Nat) (pc : PackC w z k x h val (lets sz num)) (hand : List Nat) (th : Tok) (hh : hand.length ≤ 5000)
    (q : ∀ tv h' t', h.StaysIn h' → QV (.str (S (hand ++ stepL k.raw low hand.length sz (if lt then turnN sz num else num))) tv) (mk z h' t')) :
    wpAny (model Prg w) A (call (.ref 424) [.ref x0, .ref x, val, .str (S hand) th]) QV E (mk z h t) := by
  refine enter (n := 9) (binds := [(Str.ofString "self", .ref x0), (Str.ofString "info", .ref x), (Str.ofString "value", val), (Str.ofString "bits", .str (S hand) th)]) [Str.ofString "self", Str.ofString "info", Str.ofString "value", Str.ofString "bits", Str.ofString "value_bits", Str.ofString "aligned_offset"] [Str.ofString "isinstance", Str.ofString "_Raw", Str.ofString "_Text", Str.ofString "len"] rfl r G (by kernel_rfl) (BindsTo.of_eq rfl) (by tm_at "m_sc") ⟨rfl, rfl, rfl, rfl, trivial⟩ ?_
  intro A' L h' t' env he r' hfr C S
  clear he hfr
  dsimp only [initL] at S
  tm_at "ms"
  refine v_pmeth S (I.keeps S.F.keep) ie.pack ?_
  refine' v_callm ?S (kd_find w k).2.2 ?_ ?e ?f
  case S => tm_at "m_asm"
  case e => with_unfolding_all rfl
  case f => with_unfolding_all rfl
  tm_at "ms"
  refine ⟨S.G.X, call_CR (pc _ _ _ _ (r'.le (by omega)) S.G S.F.keep fun tv h2 t2 k2 => ?_)⟩
  have S2 := S.stays k2
  clear S
  have ic := Kd.ic w k
  have ge := ie.endi
  tm_at "ms"
  rename St _ _ _ _ _ _ _ => S3
  refine br_join (fun s => ∃ h3 t3' tn, s = mk z h3 t3' ∧ St w h L [Str.ofString "self", Str.ofString "info", Str.ofString "value", Str.ofString "bits", Str.ofString "value_bits", Str.ofString "aligned_offset"]
    [some (.ref x0), some (.ref x), some val, some (.str (Mine.S hand) th), some (.str (Mine.S (lets sz (if lt then turnN sz num else num))) tn), none] [] h3) (br_b (ord_lt lt) ?_ ?_) ?_
  · intro hlt
    tm_at "ms"
    refine t_rev rfl (by rw [lets_len, sizeLine_eq]; omega) S3 ?_ (by tm_at "m_hs")
    intro h4 t4 tk4 S4
    tm_at "ms"
    rename St _ _ _ _ _ _ _ => S5
    refine ⟨rfl, _, _, t4, rfl, ?_⟩
    rw [if_pos hlt, ← lets_rev]; exact S5
  · intro hlt
    tm_at "ms"
    refine ⟨rfl, _, _, tv, rfl, ?_⟩
    rw [if_neg (by rw [hlt]; decide)]; exact S3
  clear S3 S2
  rintro _ ⟨h3, t3', tn, rfl, S3⟩
  generalize (if lt = true then turnN sz num else num) = bits at *
  tm_at "ms"
  have hz0 : (Mine.S hand).length + (Mine.S (lets sz bits)).length ≤ sizeLine := by rw [S_len, S_len, lets_len, sizeLine_eq]; omega
  cases low with
  | false =>
    refine br_t (by decide +kernel) ?_
    tm_at "ms"
    rw [S_app]
    rename St _ _ _ _ _ _ _ => S4
    exact q _ _ _ S4.F.keep
  | true =>
    refine br_f (by decide +kernel) ?_
    tm_at "ms"
    rename St _ _ _ _ _ _ _ => S4
    refine v_isiT S4 (I.keeps S4.F.keep) (.head _) fun t5 => ?_
    tm_at "ms"
    cases hraw : k.raw with
    | true =>
      tm_at "ms"
      rw [S_app]
      rename St _ _ _ _ _ _ _ => S4
      rw [hraw] at q
      exact q _ _ _ S4.F.keep
    | false =>
      have hlen : hand.length ≤ 2 ^ 60 := by omega
      tm_at "ms"
      have hstep : stepL k.raw true hand.length sz bits = pieces sz (8 - hand.length % 8) sz bits := by unfold stepL; rw [hraw]; rfl
      rw [hstep] at q
      rename St _ _ _ _ _ _ _ => S5
      rw [lets_len] at S5
      generalize hN5 : [(_, tupOf [Value.ref 298, Value.ref 383])] = N5 at S5
      refine s_while (fun n vs N => N = N5 ∧ ∃ f txt nm tb tc td, n ≤ f ∧ vs = [some (.ref x0), some (.ref x), some val, some (.str (Mine.S txt) tb), some (.str (Mine.S (lets n nm)) tc), some (.int (n - (8 - (txt.length : Int) % 8)) td)]
        ∧ txt ++ pieces f (8 - txt.length % 8) n nm = hand ++ pieces sz (8 - hand.length % 8) sz bits ∧ txt.length + n = hand.length + sz) sz S5 ⟨rfl, sz, hand, bits, _, _, _, Nat.le_refl _, rfl, rfl, rfl⟩ ?_
      clear S5 S4 S3
      rintro l vs N h5 t5' ⟨rfl, f, txt, nm, tb, tc, td, hf, rfl, hP, hL⟩ S5
      tm_at "ms"
      refine br_d ?_ ?_
      · intro hpos
        have htk : (l : Int) - (8 - (txt.length : Int) % 8) = ((l - (8 - txt.length % 8) : Nat) : Int) := by omega
        have htl : 8 - txt.length % 8 < l := by omega
        rw [htk] at S5 hpos
        generalize hm : 8 - txt.length % 8 = tk at *
        tm_at "ms"
        refine t_slice (some (l - tk, _)) none rfl rfl rfl (by rw [lets_len, sizeLine_eq]; omega) S5 ?_ (by tm_at "m_hs")
        intro h6 t6 tk6 S6
        have e1 : sl (lets l nm) ((Option.map (fun x => x.1) (some (l - tk, td))).getD 0) (Option.map (fun x => x.1) (none : Option (Nat × Tok))) = lets tk nm := by
          show ((lets l nm).take (lets l nm).length).drop (l - tk) = _
          rw [List.take_length, show l = (l - tk) + tk by omega, lets_app, Nat.add_sub_cancel]
          exact List.drop_left' (lets_len _ _)
        rw [e1]
        have hz1 : (Mine.S txt).length + (Mine.S (lets tk nm)).length ≤ sizeLine := by rw [S_len, S_len, lets_len, sizeLine_eq]; omega
        tm_at "ms"
        rename St _ _ _ _ _ _ _ => S7
        refine t_slice none (some (l - tk, _)) rfl rfl rfl (by rw [lets_len, sizeLine_eq]; omega) S7 ?_ (by tm_at "m_hs")
        intro h8 t8 tk8 S8
        have e2 : sl (lets l nm) ((Option.map (fun x => x.1) (none : Option (Nat × Tok))).getD 0) (Option.map (fun x => x.1) (some (l - tk, td))) = lets (l - tk) (nm / 2 ^ tk) := by
          show ((lets l nm).take (l - tk)).drop 0 = _
          rw [List.drop_zero, show l = (l - tk) + tk by omega, lets_app, Nat.add_sub_cancel]
          exact List.take_left' (lets_len _ _)
        rw [e2]
        tm_at "ms"
        rename St _ _ _ _ _ _ _ => S9
        have e8 : (txt ++ lets tk nm).length % 8 = 0 := by rw [List.length_append, lets_len]; omega
        have e9 : ((l - tk : Nat) : Int) - 8 = ((l - tk : Nat) : Int) - (8 - ((txt ++ lets tk nm).length : Int) % 8) := by omega
        rw [S_app, e9] at S9
        refine WTurned.mk' (l - tk) (by omega) S9 ⟨rfl, f - 1, _, _, _, _, _, by omega, rfl, ?_, by simp [lets_len]; omega⟩
        obtain ⟨f, rfl⟩ : ∃ g, f = g + 1 := ⟨f - 1, by omega⟩
        rw [← hP, List.append_assoc, Nat.add_sub_cancel, e8]
        congr 1
        rw [show pieces (f + 1) tk l nm = if l ≤ tk then lets l nm else lets tk nm ++ pieces f 8 (l - tk) (nm / 2 ^ tk) from rfl, if_neg (by omega)]
      · intro hneg
        have hz1 : (Mine.S txt).length + (Mine.S (lets l nm)).length ≤ sizeLine := by rw [S_len, S_len, lets_len, sizeLine_eq]; omega
        tm_at "ms"
        rename St _ _ _ _ _ _ _ => S6
        rw [S_app]
        have : pieces f (8 - txt.length % 8) l nm = lets l nm := by
          cases f with
          | zero => rfl
          | succ f => rw [show pieces (f + 1) (8 - txt.length % 8) l nm = if l ≤ 8 - txt.length % 8 then lets l nm else lets (8 - txt.length % 8) nm ++ pieces f 8 (l - (8 - txt.length % 8)) (nm / 2 ^ (8 - txt.length % 8)) from rfl, if_pos (by omega)]
        rw [this] at hP
        rw [hP]
        exact q _ _ _ S6.F.keep
end
section
open PySem PySem.W PyProof.Rows PySem.Calls PySem.NumText
theorem typeCall_int_2 (a b : Value) : checkTypeCall "int" ⟨[a, b], []⟩ = pure () := by kernel_rfl
theorem newCall_int_2 (a b : Value) : checkBuiltinCall "int.__new__" ⟨[.type "int", a, b], []⟩ = pure () := by kernel_rfl
theorem args_oi_3 (a b c : Value) : argsOk "object.__init__" ⟨[a, b, c], []⟩ := by unfold argsOk; kernel_rfl

/-- the value of a digit's sign -/
def dg (c : Nat) : Nat := (digit? c).getD 0
def dval (b : Nat) (cs : List Nat) : Nat := cs.foldl (fun a c => a * b + dg c) 0
theorem digits_all {b : Nat} : ∀ (cs : List Nat) (acc : Array Nat) (fl : Bool), (∀ c ∈ cs, ∃ d, digit? c = some d ∧ d < b) →
    cs.foldlM (NumText.step b) (acc, fl) = some (acc ++ (cs.map dg).toArray, fl || !cs.isEmpty)
  | [], acc, fl, _ => by simp
  | c :: cs, acc, fl, h => by
    obtain ⟨d, hd, hb⟩ := h c (.head _)
    have hne : (c == 95) = false := by
      cases q : c == 95
      · rfl
      · have : c = 95 := by simpa using q
        subst this
        cases hd
    rw [List.foldlM_cons]
    have : NumText.step b (acc, fl) c = some (acc.push d, true) := by
      unfold NumText.step
      rw [hne, hd]
      simp [hb]
    rw [this]
    show cs.foldlM (NumText.step b) (acc.push d, true) = _
    rw [digits_all cs _ _ fun c hc => h c (.tail _ hc)]
    simp [dg, hd]
theorem foldl_map_dg (b : Nat) : ∀ (cs : List Nat) (a : Nat), (cs.map dg).foldl (fun acc d => acc * b + d) a = cs.foldl (fun a c => a * b + dg c) a
  | [], _ => rfl
  | c :: cs, a => by simp [foldl_map_dg b cs]
theorem read_num {b : Nat} {cs : List Nat} (hb : ([2, 16] : List Nat).contains b = true) (hne : cs ≠ []) (h : ∀ c ∈ cs, ∃ d, digit? c = some d ∧ d < b) (hp : prefix? cs = none) :
    (int_private% "readNumeral") 0 b cs = (int_private% "Numeral.value") (dval b cs : Nat) := by
  have hnb : ∀ c ∈ cs, blank c = false := by
    intro c hc
    obtain ⟨d, hd, _⟩ := h c hc
    cases q : blank c
    · rfl
    · exfalso
      unfold blank at q
      unfold digit? at hd
      simp only [Bool.or_eq_true, beq_iff_eq, Bool.and_eq_true, decide_eq_true_eq] at q
      have : (48 ≤ c && c ≤ 57) = false := by simp; omega
      rw [this] at hd
      have : (97 ≤ c && c ≤ 122) = false := by simp; omega
      rw [this] at hd
      have : (65 ≤ c && c ≤ 90) = false := by simp; omega
      rw [this] at hd
      cases hd
  have e1 : cs.dropWhile blank = cs := by
    cases cs with
    | nil => rfl
    | cons c r => rw [List.dropWhile_cons, hnb c (.head _)]; rfl
  have e2 : sign cs = (false, cs) := by
    cases cs with
    | nil => rfl
    | cons c r =>
      obtain ⟨d, hd, _⟩ := h c (.head _)
      unfold sign
      split
      · rename_i q; cases q; cases hd
      · rename_i q; cases q; cases hd
      · rfl
  have e3 : based b cs = (b, false, cs) := by
    unfold based
    rw [hp]
    have : (b == 0) = false := by
      cases q : b == 0
      · rfl
      · have : b = 0 := by simpa using q
        subst this; cases hb
    simp [this]
  have e4 : (cs.reverse.dropWhile blank).reverse = cs := by
    have : cs.reverse.dropWhile blank = cs.reverse := by
      cases q : cs.reverse with
      | nil => rfl
      | cons c r =>
        have : c ∈ cs := by rw [← List.mem_reverse, q]; exact .head _
        rw [List.dropWhile_cons, hnb c this]; rfl
    rw [this, List.reverse_reverse]
  have e5 : digits? b cs = some (cs.map dg).toArray := by
    unfold digits?
    rw [digits_all cs _ _ h]
    cases cs with
    | nil => exact absurd rfl hne
    | cons c r => simp
  rw [readNumeral_eq, e1, e2, e3]
  dsimp only
  rw [e4, e5]
  unfold judge
  dsimp only
  have c1 : (![2, 4, 8, 16, 32].contains b && (0 : Nat) != 0 && (cs.map dg).toArray.size > 0) = false := by simp
  have c2 : (b == 10) = false := by
    cases q : b == 10
    · rfl
    · have : b = 10 := by simpa using q
      subst this; cases hb
  rw [c2]
  simp only [bne_self_eq_false, Bool.and_false, Bool.false_and, Bool.false_eq_true, if_false]
  have : (cs.map dg).toArray.foldl (fun acc d => acc * b + d) 0 = dval b cs := by
    rw [List.foldl_toArray, foldl_map_dg]; rfl
  rw [this]

theorem wp_textB {M : Model} {A : Around} {E : Value → Shared → Prop} {s : Shared} {Q : Value → Shared → Prop} {v : Value} {text : List Nat} {n : Int} {b : Nat}
    (hs : (text.takeWhile (· != 0)).length ≤ 640) (hr : (int_private% "readNumeral") 0 b (text.takeWhile (· != 0)) = (int_private% "Numeral.value") n)
    (ha : ((text.takeWhile (· != 0)).length == text.length) = true) (h : Q (.int n s.toks) { s with toks := s.toks + 1 }) :
    wpAny M A ((int_private% "intFromText") v text b) Q E s := by
  obtain ⟨hp, g, d, tk, os⟩ := s
  repeat (any_goals (first
    | assumption
    | (with_reducible refine wpAny_ite_true (decide_eq_true hs) ?_)
    | (with_reducible refine wpAny_ite_true (decide_eq_true ha) ?_)
    | wp_step))
  all_goals (try rw [hr])
  all_goals (try dsimp only)
  repeat (any_goals (first
    | assumption
    | (with_reducible refine wpAny_ite_true (decide_eq_true hs) ?_)
    | (with_reducible refine wpAny_ite_true (decide_eq_true ha) ?_)
    | wp_step))
theorem no_zero {cs : List Nat} {b : Nat} (h : ∀ c ∈ cs, ∃ d, digit? c = some d ∧ d < b) : cs.takeWhile (· != 0) = cs := by
  induction cs with
  | nil => rfl
  | cons c r ih =>
    obtain ⟨d, hd, _⟩ := h c (.head _)
    have : (c != 0) = true := by
      cases q : c != 0
      · have : c = 0 := by simpa using q
        subst this; cases hd
      · rfl
    rw [List.takeWhile_cons, this]
    simp [ih fun c hc => h c (.tail _ hc)]
set_option maxHeartbeats 4000000 in
theorem gives_textB {x : PySem.Str} {u u' : Tok} {n : Int} {b : Nat} {cs : List Nat} (hx : x = S cs) (ha : cs.all (· < 128) = true) (hb : b = 2 ∨ b = 16) (hl : (cs.takeWhile (· != 0)).length ≤ 640)
    (hr : (int_private% "readNumeral") 0 b (cs.takeWhile (· != 0)) = (int_private% "Numeral.value") n) (he : ((cs.takeWhile (· != 0)).length == cs.length) = true) :
    Gives (Builtin.«int.__new__» ⟨[.type "int", .str x u, .int (b : Int) u'], []⟩) (.int n) :=
  .of_wp fun M A E s Q h => by
    obtain ⟨hp, g, d, tk, os⟩ := s
    have f1 := F.conv_sub_int
    have f2 := F.madeHere_int
    have f6 : typeOf (.str x u) = pure (.type "str") := rfl
    have hk := KIN.Hid.mk (And.intro hl (And.intro hr he))
    have hall : x.cps.all (· < 128) = true := by subst hx; simpa [S] using ha
    have hto : x.cps.toList = cs := by subst hx; rfl
    clear hl hr he
    rcases hb with rfl | rfl <;>
    repeat (any_goals (first
      | assumption
      | (rw [if_pos hall, hto])
      | ((with_reducible show wpAny _ _ ((int_private% "intFromText") _ _ _) _ _ _); refine wp_textB hk.out.1 hk.out.2.1 hk.out.2.2 ?_)
      | wp_step))
    all_goals first | exact ⟨_, rfl, h⟩ | skip
set_option maxHeartbeats 4000000 in
theorem gives_textC {bs : List UInt8} {u u' : Tok} {n : Int} {cs : List Nat} (hx : bs.map (·.toNat) = cs) (hl : (cs.takeWhile (· != 0)).length ≤ 640)
    (hr : (int_private% "readNumeral") 0 16 (cs.takeWhile (· != 0)) = (int_private% "Numeral.value") n) (he : ((cs.takeWhile (· != 0)).length == cs.length) = true) :
    Gives (Builtin.«int.__new__» ⟨[.type "int", .bytes bs.toArray u, .int 16 u'], []⟩) (.int n) :=
  .of_wp fun M A E s Q h => by
    obtain ⟨hp, g, d, tk, os⟩ := s
    have f1 := F.conv_sub_int
    have f2 := F.madeHere_int
    have f6 : typeOf (.bytes bs.toArray u) = pure (.type "bytes") := rfl
    subst hx
    have hk := KIN.Hid.mk (And.intro hl (And.intro hr he))
    clear hl hr he
    repeat (any_goals (first
      | assumption
      | ((with_reducible show wpAny _ _ ((int_private% "intFromText") _ _ _) _ _ _); refine wp_textB hk.out.1 hk.out.2.1 hk.out.2.2 ?_)
      | wp_step))
    all_goals first | exact ⟨_, rfl, h⟩ | skip
section
variable {w : World} {A : Around} {E : Value → Shared → Prop} {z : Shared} {h h₀ : Heap} {t : Nat} {QV : Value → Shared → Prop} {cs : List Nat} {tx ti : Tok}
theorem v_intS2 (hall : ∀ c ∈ cs, c = 48 ∨ c = 49) (hh : cs.head? = some 49) (hl : cs.length ≤ 640) (k : QV (.int (dval 2 cs : Nat) t) (mk z h (t + 1))) : wpAny (model Prg w) A (call (.type "int") [.str (S cs) tx, .int 2 ti]) QV E (mk z h t) := by
  have hd : ∀ c ∈ cs, ∃ d, digit? c = some d ∧ d < 2 := fun c hc => by
    rcases hall c hc with rfl | rfl
    · exact ⟨0, rfl, by decide⟩
    · exact ⟨1, rfl, by decide⟩
  have e0 := no_zero hd
  have hp : prefix? cs = none := by
    cases cs with
    | nil => rfl
    | cons c r =>
      have : c = 49 := by simpa using hh
      subst this; rfl
  refine callType_new F.called_int F.newNe_int (typeCall_int_2 _ _) (newCall_int_2 _ _) (fun obj => args_oi_3 obj _ _) F.entry_int_new
    (gives_textB (b := 2) (cs := cs) (n := (dval 2 cs : Nat)) rfl ?_ (.inl rfl) (by rw [e0]; exact hl) (by rw [e0]; exact read_num rfl (by intro q; rw [q] at hh; cases hh) hd hp) (by rw [e0]; simp)).meets (show (Made.int (dval 2 cs : Nat)).post _ (mk z h t) from ⟨rfl, k⟩)
  rw [List.all_eq_true]
  intro c hc
  rcases hall c hc with rfl | rfl <;> decide
theorem v_intB16 {bs : List UInt8} (hb : bs.map (·.toNat) = cs) (hd : ∀ c ∈ cs, ∃ d, digit? c = some d ∧ d < 16) (hne : cs ≠ []) (hp : prefix? cs = none) (hl : cs.length ≤ 640) (k : QV (.int (dval 16 cs : Nat) t) (mk z h (t + 1))) : wpAny (model Prg w) A (call (.type "int") [.bytes bs.toArray tx, .int 16 ti]) QV E (mk z h t) := by
  have e0 := no_zero hd
  exact callType_new F.called_int F.newNe_int (typeCall_int_2 _ _) (newCall_int_2 _ _) (fun obj => args_oi_3 obj _ _) F.entry_int_new
    (gives_textC (cs := cs) (n := (dval 16 cs : Nat)) hb (by rw [e0]; exact hl) (by rw [e0]; exact read_num rfl hne hd hp) (by rw [e0]; simp)).meets (show (Made.int (dval 16 cs : Nat)).post _ (mk z h t) from ⟨rfl, k⟩)
theorem v_intS {n : Nat} (hn : n < 10 ^ 10) {x : Str} (hx : x = Str.ofString (toString (n : Int))) (k : QV (.int n t) (mk z h (t + 1))) : wpAny (model Prg w) A (call (.type "int") [.str x tx]) QV E (mk z h t) := by
  subst hx
  exact KIN.call_num (s := mk z h t) (by omega) (by omega) k
end
end
section
open PySem PySem.W PyProof.Rows PySem.Calls
/-- bytes by their numbers -/
def By (l : List Nat) : List UInt8 := l.map Nat.toUInt8
theorem By_app (a b : List Nat) : By a ++ By b = By (a ++ b) := by simp [By]
theorem By_len (l : List Nat) : (By l).length = l.length := by simp [By]
theorem By_nat {l : List Nat} (h : ∀ c ∈ l, c < 256) : (By l).map (·.toNat) = l := by
  unfold By
  rw [List.map_map]
  conv => rhs; rw [← List.map_id l]
  apply List.map_congr_left
  intro c hc
  have := h c hc
  simp [Nat.mod_eq_of_lt this]
/-- the hex letters -/
def hexL : List Nat → List Nat
  | [] => []
  | c :: r => Builtin.Bytes.hexDigit (c / 16) :: Builtin.Bytes.hexDigit (c % 16) :: hexL r
theorem hexL_len : ∀ l, (hexL l).length = 2 * l.length
  | [] => rfl
  | c :: r => by simp [hexL, hexL_len r]; omega
theorem hex_fold {bs : List UInt8} : ∀ (k : Nat) (out : Array Nat),
    (bs.zipIdx k).foldl (fun (out : Array Nat) (x : UInt8 × Nat) => (out.push (Builtin.Bytes.hexDigit (x.1.toNat / 16))).push (Builtin.Bytes.hexDigit (x.1.toNat % 16))) out = out ++ (hexL (bs.map (·.toNat))).toArray := by
  induction bs with
  | nil => intro k out; simp [hexL]
  | cons b r ih =>
    intro k out
    rw [List.zipIdx_cons, List.foldl_cons, ih]
    simp [hexL]
theorem gives_hex {bs : List UInt8} {t : Tok} : Gives (Builtin.«bytes.hex» ⟨[.bytes bs.toArray t], []⟩) (.str (S (hexL (bs.map (·.toNat))))) := by
  have e : Builtin.«bytes.hex» ⟨[.bytes bs.toArray t], []⟩ = retStr ⟨(bs.zipIdx 0).foldl (fun (out : Array Nat) (x : UInt8 × Nat) => (out.push (Builtin.Bytes.hexDigit (x.1.toNat / 16))).push (Builtin.Bytes.hexDigit (x.1.toNat % 16))) #[]⟩ := by
    kernel_rfl
  rw [e, hex_fold]
  have : (⟨#[] ++ (hexL (bs.map (·.toNat))).toArray⟩ : PySem.Str) = S (hexL (bs.map (·.toNat))) := by simp [S]
  rw [this]
  exact gives_retStr _

theorem loop2 {β : Type} (f : Nat → β → Sem (ForInStep β)) (n : Nat) (a b : β) (hn : 0 < n) (h0 : ∀ j, f j a = pure (.yield b)) (h1 : ∀ j, f j b = pure (.done b)) : (forIn [:n] a f : Sem β) = pure b := by
  rw [Std.Legacy.Range.forIn_eq_forIn_range']
  have e : [:n].size = n := by simp [Std.Legacy.Range.size]
  rw [e]
  obtain ⟨m, rfl⟩ : ∃ m, n = m + 1 := ⟨n - 1, by omega⟩
  show forIn (List.range' 0 (m + 1) 1) a f = _
  rw [List.range'_succ, List.forIn_cons, h0]
  show forIn (List.range' 1 m 1) b f = _
  cases m with
  | zero => rfl
  | succ m =>
    rw [List.range'_succ, List.forIn_cons, h1]
    rfl
theorem fold_by (c : Builtin._codecs.TextCodec) : ∀ (l : List Nat) (acc : Array UInt8), (∀ x ∈ l, c.bytesOf x = [x.toUInt8]) → l.foldl (fun acc y => acc ++ (c.bytesOf y).toArray) acc = acc ++ (By l).toArray
  | [], acc, _ => by simp [By]
  | x :: l, acc, h => by
    rw [List.foldl_cons, h x (.head _), fold_by c l _ fun y hy => h y (.tail _ hy)]
    simp [By]
open Builtin Builtin._codecs in
theorem narrow_clean (id : String) (c : TextCodec) (e : Option PySem.Str) (self : Value) (l : List Nat) (hb : ∀ x ∈ l, c.bad x = false) (hc : ∀ x ∈ l, c.bytesOf x = [x.toUInt8]) (hl : l ≠ []) (hz : l.length ≤ 100000) :
    encodeNarrow id c e self (S l) = pure (By l).toArray := by
  have hpos : 0 < l.length := List.length_pos_iff.mpr hl
  have hsz : ((#[] : Array UInt8).size > sizeLine) = False := by rw [sizeLine_eq]; simp
  have hsz2 : ¬ ((By l).toArray.size > sizeLine) := by rw [sizeLine_eq]; simp [By_len]; omega
  have hf : Array.findIdx? c.bad ((S l).cps.extract 0) = none := by
    rw [Array.findIdx?_eq_none_iff]
    intro x hx
    have : x ∈ l := by simpa [S] using hx
    rw [hb x this]
  obtain ⟨a, ha⟩ : ∃ a, (S l).cps[0]? = some a := ⟨l[0], by simp [S, hpos]⟩
  have hba : c.bad a = false := hb a (by
    have : l[0]? = some a := by simpa [S] using ha
    exact List.mem_of_getElem? this)
  have hn : (S l).cps[l.length]? = none := by simp [S]
  unfold encodeNarrow
  refine (congrArg (fun m : Sem (Nat × Array UInt8 × Faults) => m >>= fun s => pure s.2.1) (loop2 _ (S l).length (0, #[], {}) (l.length, (By l).toArray, {}) (by rw [S_len]; exact hpos) (fun j => ?_) (fun j => ?_))).trans rfl
  · dsimp only
    rw [if_neg (by rw [hsz]; exact not_false), ha]
    dsimp only
    rw [hba, if_pos (by rfl), hf]
    have ex : (S l).cps.extract 0 = l.toArray := by simp [S]
    rw [ex]
    have e1 : (none : Option Nat).getD l.toArray.size = l.length := by simp
    have e2 : l.toArray.extract 0 l.length = l.toArray := by simp
    rw [e1, e2, List.foldl_toArray, fold_by c l _ hc]
    simp
  · dsimp only
    rw [if_neg hsz2, hn]
open Builtin Builtin._codecs in
theorem ascii_clean (id : String) (e : Option PySem.Str) (self : Value) (l : List Nat) (h : ∀ x ∈ l, x < 128) (hl : l ≠ []) (hz : l.length ≤ 100000) : encodeNarrow id asciiCodec e self (S l) = pure (By l).toArray :=
  narrow_clean id _ e self l (fun x hx => by have := h x hx; show decide (x ≥ 128) = false; simp; omega) (fun x _ => rfl) hl hz
open Builtin Builtin._codecs in
theorem utf8_clean (id : String) (e : Option PySem.Str) (self : Value) (l : List Nat) (h : ∀ x ∈ l, x < 128) (hl : l ≠ []) (hz : l.length ≤ 100000) : encodeNarrow id utf8Codec e self (S l) = pure (By l).toArray :=
  narrow_clean id _ e self l (fun x hx => by have := h x hx; show Str.isSurrogate x = false; unfold Str.isSurrogate; simp; omega) (fun x hx => by
    have := h x hx
    show Str.utf8Of x = [x.toUInt8]
    unfold Str.utf8Of
    rw [if_pos (by omega)]) hl hz
open Builtin in
theorem encode_ascii_tree (x : PySem.Str) (t u : Tok) : «str.encode» ⟨[.str x t, .str (Str.ofString "ascii") u], []⟩ = (do ret (← (do mkBytes (← _codecs.encodeNarrow "str.encode" _codecs.asciiCodec none (.str x t) x)))) := by kernel_rfl
open Builtin in
theorem encode_utf8_tree (x : PySem.Str) (t u : Tok) : «str.encode» ⟨[.str x t, .str (Str.ofString "utf-8") u], []⟩ = (do ret (← (do mkBytes (← _codecs.encodeNarrow "str.encode" _codecs.utf8Codec none (.str x t) x)))) := by kernel_rfl
open Builtin in
theorem meets_encA {l : List Nat} {t u : Tok} (h : ∀ x ∈ l, x < 128) (hl : l ≠ []) (hz : l.length ≤ 100000) : Gives («str.encode» ⟨[.str (S l) t, .str (Str.ofString "ascii") u], []⟩) (.bytes (By l).toArray) := by
  refine .of_wp fun M A E s Q hq => ?_
  rw [encode_ascii_tree, ascii_clean _ _ _ l h hl hz]
  exact wpAny_bind (wpAny_bind (wpAny_pure (wpAny_mkBytes (wpAny_pure ⟨_, rfl, hq.2⟩) hq.1)))
open Builtin in
theorem meets_encU {l : List Nat} {t u : Tok} (h : ∀ x ∈ l, x < 128) (hl : l ≠ []) (hz : l.length ≤ 100000) : Gives («str.encode» ⟨[.str (S l) t, .str (Str.ofString "utf-8") u], []⟩) (.bytes (By l).toArray) := by
  refine .of_wp fun M A E s Q hq => ?_
  rw [encode_utf8_tree, utf8_clean _ _ _ l h hl hz]
  exact wpAny_bind (wpAny_bind (wpAny_pure (wpAny_mkBytes (wpAny_pure ⟨_, rfl, hq.2⟩) hq.1)))
theorem int_declB (a : Int) (t : Tok) (b : Array UInt8) (u : Tok) : Gives (Builtin.«int.__mul__» ⟨[.int a t, .bytes b u], []⟩) (.val (Value.notImplemented)) :=
  .of_wp fun M A E s Q h => by obtain ⟨hp, g, d, tk, os⟩ := s; wp_walk; exact ⟨_, rfl, h⟩
theorem noIadd_bytes : typeLookup (.type "bytes") (dunderI "add") = pure none := by rw [typeLookup_type, builtinLookup_eq_fast]; kernel_rfl

section
variable {w : World} {A : Around} {E : Value → Shared → Prop} {z : Shared} {h h₀ : Heap} {t : Nat} {L : Addr} {env : Env} {s : Shared}
  {ns gs : List Str} {vs vs' : List (Option Value)} {N N' : List (Addr × Obj)} {QV : Value → Shared → Prop} {Q : Flow → Shared → Prop} {QB : Bool → Shared → Prop} {QP : Value × List Value → Shared → Prop} {pl : Sem Bool}
  {a b : List Nat} {bs cs : List UInt8} {ta tb : Tok} {n : Int}
theorem m_hex (k : QP (.builtin "bytes.hex", [.bytes bs.toArray ta]) s) : wpAny (model Prg w) A (getMethod (.bytes bs.toArray ta) "hex" pl) QP E s := by
  with_reducible exact KBd.method_of (.bytes _ ta) (typeIs_bytes _ _ _) FB.slot_bytes_hex FB.type_bytes_hex KBd.noRef k
theorem m_encode {x : PySem.Str} (k : QP (.builtin "str.encode", [.str x ta]) s) : wpAny (model Prg w) A (getMethod (.str x ta) "encode" pl) QP E s := by
  with_reducible exact getMethod_builtin (typeIs_str _ _ _) F.plainAttrs_str F.slot_str_encode F.type_str_encode (fun _ e => nomatch e) k
theorem v_hex (hz : bs.length ≤ 100000) (k : QV (.str (S (hexL (bs.map (·.toNat)))) t) (mk z h (t + 1))) : wpAny (model Prg w) A (call (.builtin "bytes.hex") [.bytes bs.toArray ta]) QV E (mk z h t) :=
  call_gives FB.slot_bytes_hex (typeIs_bytes _ _ _) FB.entry_bytes_hex (FB.args_bytes_hex_1 _) gives_hex (show (Made.str _).post _ (mk z h t) from ⟨by rw [S_len, hexL_len, sizeLine_eq]; simp; omega, k⟩)
theorem v_encA (hh : ∀ x ∈ a, x < 128) (hl : a ≠ []) (hz : a.length ≤ 100000) (k : QV (.bytes (By a).toArray t) (mk z h (t + 1))) : wpAny (model Prg w) A (call (.builtin "str.encode") [.str (S a) ta, .str (Str.ofString "ascii") tb]) QV E (mk z h t) :=
  call_gives F.slot_str_encode (typeIs_str _ _ _) F.entry_str_encode (F.args_str_encode_2 _ _) (meets_encA hh hl hz) (show (Made.bytes _).post _ (mk z h t) from ⟨by rw [sizeLine_eq]; simp [By_len]; omega, k⟩)
theorem v_encU (hh : ∀ x ∈ a, x < 128) (hl : a ≠ []) (hz : a.length ≤ 100000) (k : QV (.bytes (By a).toArray t) (mk z h (t + 1))) : wpAny (model Prg w) A (call (.builtin "str.encode") [.str (S a) ta, .str (Str.ofString "utf-8") tb]) QV E (mk z h t) :=
  call_gives F.slot_str_encode (typeIs_str _ _ _) F.entry_str_encode (F.args_str_encode_2 _ _) (meets_encU hh hl hz) (show (Made.bytes _).post _ (mk z h t) from ⟨by rw [sizeLine_eq]; simp [By_len]; omega, k⟩)
theorem v_lenB (hz : bs.length ≤ 100000) (k : QV (.int bs.length (t + 1)) (mk z h (t + 1 + 1))) : wpAny (model Prg w) A (call (.builtin "len") [.bytes bs.toArray ta]) QV E (mk z h t) :=
  len_bytes (s := mk z h t) (by simp; omega) (by rw [List.size_toArray]; exact k)
theorem v_addB (hz : bs.length + cs.length ≤ 100000) (k : ∀ t' tk, QV (.bytes (bs ++ cs).toArray t') (mk z h tk)) : wpAny (model Prg w) A (binaryOp .Add (.bytes bs.toArray ta) (.bytes cs.toArray tb)) QV E (mk z h t) :=
  KBy.add_bytes (s := mk z h t) (by simp; omega) (by rw [List.append_toArray]; exact k)
theorem v_iaddB (hz : bs.length + cs.length ≤ 100000) (k : ∀ t' tk, QV (.bytes (bs ++ cs).toArray t') (mk z h tk)) : wpAny (model Prg w) A (inplaceOp .Add (.bytes bs.toArray ta) (.bytes cs.toArray tb)) QV E (mk z h t) := by
  refine wpAny_inplaceOp_concat (typeIs_bytes _ _ _) (typeIs_bytes _ _ _) noIadd_bytes KBy.noFill_bytes_add KBy.seq_bytes_add ?_
  have hsz : bs.toArray.size + cs.toArray.size ≤ 16777216 := by simp; omega
  refine call_gives FB.slot_bytes_add (typeIs_bytes _ _ _) FB.entry_bytes_add (FB.args_bytes_add_2 _ _) (KBy.gives_bytes_add (KBy.tooLong_not hsz)) ?_
  by_cases hb : bs.toArray.isEmpty = true
  · rw [if_pos hb]
    have e : bs = [] := by simpa using hb
    have h' := k tb t
    rw [e, List.nil_append] at h'
    exact h'
  · rw [if_neg hb]
    by_cases hc : cs.toArray.isEmpty = true
    · rw [if_pos hc]
      have e : cs = [] := by simpa using hc
      have h' := k ta t
      rw [e, List.append_nil] at h'
      exact h'
    · rw [if_neg hc]
      have h' := k t (t + 1)
      rw [← List.append_toArray] at h'
      exact ⟨by rw [Array.size_append, sizeLine_eq]; exact hsz, h'⟩
/-- no more than none of some bytes -/
theorem v_mulB0 (hb : bs ≠ []) (hs : bs.length ≤ 16) (hn : n ≤ 0) (hlo : -1048576 ≤ n) (k : QV (.bytes ([] : List UInt8).toArray t) (mk z h (t + 1))) : wpAny (model Prg w) A (binaryOp .Mult (.int n ta) (.bytes bs.toArray tb)) QV E (mk z h t) := by
  have hpos : 0 < bs.length := List.length_pos_iff.mpr hb
  have h0 : n.toNat = 0 := by omega
  have e3 : bs.toArray.size = bs.length := by simp
  refine lm_binaryOp_repeat_right (T := "bytes") (U := "int") (by decide) (fun s' => typeIs_int s' n ta) (typeIs_bytes _ _ _) F.fills_int_mul BMul.noFill F.slot_int_mul lm_noRepeat_int BMul.repeats F.slot_int_index.lookup
    (call_gives F.slot_int_mul (typeIs_int _ n ta) F.entry_int_mul (F.args_int_mul_2 _ _) (int_declB n ta _ tb)
      ⟨rfl, typeIs_bytes _ _ _, call_gives BMul.slot_mul (typeIs_bytes _ _ _) BMul.entry_mul (BMul.args_mul _ _)
        (BMul.gives_mul (by simp only [Builtin.Bytes.fitsIndex, Bool.and_eq_true, decide_eq_true_eq]; omega) (by rw [h0]; simp) (by rw [h0, e3, Nat.mul_zero]; exact beq_false_of_ne (by omega)) (by rw [h0, Nat.mul_zero]; exact KBy.tooLong_not (by decide))) ?_⟩)
  rw [h0, BMul.repeated_list hb]
  exact ⟨by rw [sizeLine_eq]; simp, k⟩
end
end
section
open PySem PySem.W PyProof.Rows PySem.Calls
section
variable {w : World} {A : Around} {E : Value → Shared → Prop} {z : Shared} {h h₀ : Heap} {t : Nat} {L : Addr} {env : Env} {s : Shared}
  {ns gs : List Str} {vs vs' : List (Option Value)} {N N' : List (Addr × Obj)} {QV : Value → Shared → Prop} {pos : Pos}
theorem g_callWith {f : Value} {as : List Value} {xs : List (Bool × Sem Value)} (k : wpAny (model Prg w) A (callWith pos f as xs []) QV E s) : wpAny (model Prg w) A (callWith pos f as xs []) QV E s := k
theorem v_meth0 {id : String} {v : Value} (k : wpAny (model Prg w) A (call (.builtin id) [v]) QV E s) : wpAny (model Prg w) A (callWith pos (.builtin id) [v] (backTo pos (starEach [] env)) []) QV E s := callWith_method0 k
theorem v_meth1 {id : String} {v : Value} {e : Expr} {rest : List Expr} (k : wpAny (model Prg w) A (spliced (backTo pos (starEach (e :: rest) env))) (fun vs s₁ => wpAny (model Prg w) A (call (.builtin id) (v :: vs)) QV E s₁) E s)
    (he : starEach (e :: rest) env = (false, eval e env) :: starEach rest env) (hp : (backTo pos (starEach rest env)).any (·.1) = false) :
    wpAny (model Prg w) A (callWith pos (.builtin id) [v] (backTo pos (starEach (e :: rest) env)) []) QV E s := callWith_method1 k he hp
theorem v_isT {T : String} (k : QV (.bool true) s) : wpAny (model Prg w) A (compareOp .Is (.type T) (.type T)) QV E s := wpAny_is_self rfl k
theorem v_isNT {T : String} (k : QV (.bool false) s) : wpAny (model Prg w) A (compareOp .IsNot (.type T) (.type T)) QV E s := wpAny_isNot_self rfl k
theorem v_isTo {T U : String} (hn : T ≠ U) (k : QV (.bool false) s) : wpAny (model Prg w) A (compareOp .Is (.type T) (.type U)) QV E s := wpAny_is_other rfl (fun e => hn (Value.type.inj e)) k
theorem v_isR {a : Addr} (k : QV (.bool true) s) : wpAny (model Prg w) A (compareOp .Is (.ref a) (.ref a)) QV E s := wpAny_is_ref_self k
theorem v_isNone (k : QV (.bool true) s) : wpAny (model Prg w) A (compareOp .Is .none .none) QV E s := wpAny_is_self rfl k
theorem v_typeB {b : Array UInt8} {tb : Tok} (k : QV (.type "bytes") s) : wpAny (model Prg w) A (call (.type "type") [.bytes b tb]) QV E s := call_type_of (Tx := "bytes") rfl (by decide +kernel) k
theorem v_typeS {b : PySem.Str} {tb : Tok} (k : QV (.type "str") s) : wpAny (model Prg w) A (call (.type "type") [.str b tb]) QV E s := call_type_of (Tx := "str") rfl (by decide +kernel) k
theorem v_typeI {b : Int} {tb : Tok} (k : QV (.type "int") s) : wpAny (model Prg w) A (call (.type "type") [.int b tb]) QV E s := call_type_of (Tx := "int") rfl (by decide +kernel) k
end
theorem gv_NOSEP (w : World) : GV w "_NO_SEP" (.ref 226) := ⟨by kernel_rfl⟩
end
local macro_rules | `(tactic| tm_at "m_e") => `(tactic| first
  | ((with_reducible refine' x_bi ?C ?S ?m ?g ?_); (case g => first | tm_at "m_biT" | tm_at "m_biB"); (case C => tm_at "m_asm"); (case S => tm_at "m_asm"); (case m => tm_at "m_mem"))
  | ((with_reducible refine' x_glob ?C ?S ?m (gv_NOSEP _) ?_); (case C => tm_at "m_asm"); (case S => tm_at "m_asm"); (case m => tm_at "m_mem")))
local macro_rules | `(tactic| tm_at "m_k") => `(tactic| with_reducible first | refine v_isT ?_ | refine v_isNT ?_ | refine v_isR ?_ | refine v_isNone ?_ | ((refine v_isTo ?e ?_); (case e => decide)))
local macro_rules | `(tactic| tm_at "m") => `(tactic| ((with_reducible refine g_getmeth ?_); with_reducible first | refine m_hex ?_ | refine m_encode ?_))
local macro_rules | `(tactic| tm_at "m") => `(tactic| ((with_reducible refine g_callWith ?_); first
  | with_reducible refine v_meth0 ?_
  | ((with_reducible refine v_meth1 ?_ ?e ?f); (case e => with_unfolding_all rfl); (case f => with_unfolding_all rfl))))
local macro_rules | `(tactic| tm_at "m") => `(tactic| ((with_reducible refine g_call ?_); with_reducible first
  | refine v_typeB ?_ | refine v_typeS ?_ | refine v_typeI ?_
  | ((refine v_hex ?e ?_); (case e => omega))
  | ((refine v_lenB ?e ?_); (case e => omega))))
local macro_rules | `(tactic| tm_at "m_b") => `(tactic| ((with_reducible refine v_addB ?e ?_); (case e => omega); intro _ _))
local macro_rules | `(tactic| tm_at "m") => `(tactic| ((with_reducible refine g_inp ?_); (with_reducible refine v_iaddB ?e ?_); (case e => omega); intro _ _))
section
open PySem PySem.W PyProof.Rows PySem.Calls
theorem hd_ok : ∀ d, d < 16 → PySem.NumText.digit? (Builtin.Bytes.hexDigit d) = some d ∧ Builtin.Bytes.hexDigit d < 128 ∧ Builtin.Bytes.hexDigit d ≠ 120 := by decide
theorem hexL_ok : ∀ (l : List Nat), (∀ c ∈ l, c < 256) → ∀ x ∈ hexL l, x < 128 ∧ ∃ d, PySem.NumText.digit? x = some d ∧ d < 16
  | [], _, x, hx => nomatch hx
  | c :: r, h, x, hx => by
    have hc := h c (.head _)
    have h1 := hd_ok (c / 16) (by omega)
    have h2 := hd_ok (c % 16) (by omega)
    rcases List.mem_cons.mp hx with rfl | hx
    · exact ⟨h1.2.1, _, h1.1, by omega⟩
    rcases List.mem_cons.mp hx with rfl | hx
    · exact ⟨h2.2.1, _, h2.1, by omega⟩
    · exact hexL_ok r (fun c hc => h c (.tail _ hc)) x hx
theorem hexL_ne {l : List Nat} (h : l ≠ []) : hexL l ≠ [] := by
  cases l with
  | nil => exact absurd rfl h
  | cons c r => simp [hexL]
/-- the number of some octets, the first the highest -/
def nb (l : List Nat) : Nat := l.foldl (fun a c => a * 256 + c) 0
theorem dval_hex : ∀ (l : List Nat) (a : Nat), (∀ c ∈ l, c < 256) → (hexL l).foldl (fun a c => a * 16 + dg c) a = l.foldl (fun a c => a * 256 + c) a
  | [], a, _ => rfl
  | c :: r, a, h => by
    have hc := h c (.head _)
    show (hexL r).foldl _ ((a * 16 + dg (Builtin.Bytes.hexDigit (c / 16))) * 16 + dg (Builtin.Bytes.hexDigit (c % 16))) = r.foldl _ (a * 256 + c)
    have e1 : dg (Builtin.Bytes.hexDigit (c / 16)) = c / 16 := by unfold dg; rw [(hd_ok (c / 16) (by omega)).1]; rfl
    have e2 : dg (Builtin.Bytes.hexDigit (c % 16)) = c % 16 := by unfold dg; rw [(hd_ok (c % 16) (by omega)).1]; rfl
    rw [dval_hex r _ fun c hc => h c (.tail _ hc), e1, e2]
    congr 1
    omega
theorem nb_from : ∀ (l : List Nat) (a : Nat), l.foldl (fun a c => a * 256 + c) a = a * 2 ^ (8 * l.length) + nb l
  | [], a => by simp [nb]
  | c :: r, a => by
    have e : nb (c :: r) = (0 * 256 + c) * 2 ^ (8 * r.length) + nb r := nb_from r _
    rw [List.foldl_cons, nb_from r, e, List.length_cons]
    have : 2 ^ (8 * (r.length + 1)) = 256 * 2 ^ (8 * r.length) := by rw [Nat.mul_add, Nat.pow_add]; omega
    rw [this, Nat.zero_mul, Nat.zero_add, Nat.add_mul, ← Nat.mul_assoc, Nat.add_assoc]
theorem nb_cons (c : Nat) (r : List Nat) : nb (c :: r) = c * 2 ^ (8 * r.length) + nb r := by
  have e : nb (c :: r) = (0 * 256 + c) * 2 ^ (8 * r.length) + nb r := nb_from r _
  rw [e, Nat.zero_mul, Nat.zero_add]
theorem nb_lt : ∀ (l : List Nat), (∀ c ∈ l, c < 256) → nb l < 2 ^ (8 * l.length)
  | [], _ => by simp [nb]
  | c :: r, h => by
    have hc := h c (.head _)
    have hr := nb_lt r fun c hc => h c (.tail _ hc)
    rw [nb_cons, List.length_cons]
    have : 2 ^ (8 * (r.length + 1)) = 256 * 2 ^ (8 * r.length) := by rw [Nat.mul_add, Nat.pow_add]; omega
    rw [this]
    have : c * 2 ^ (8 * r.length) ≤ 255 * 2 ^ (8 * r.length) := Nat.mul_le_mul_right _ (by omega)
    omega
theorem sl3b (n m sz : Nat) (h : sz ≤ n) : sl (48 :: 98 :: 49 :: lets n m) 3 (some (sz + 3)) = lets sz (m / 2 ^ (n - sz)) := by
  unfold sl
  simp only [Option.getD_some, List.take_succ_cons, List.drop_succ_cons, List.drop_zero]
  obtain ⟨k, rfl⟩ : ∃ k, n = sz + k := ⟨n - sz, by omega⟩
  rw [Nat.add_sub_cancel_left, lets_app]
  exact List.take_left' (lets_len _ _)
/-- int(b'01' + hexlify(..), 16) -/
theorem dval_01 (l : List Nat) (h : ∀ c ∈ l, c < 256) : dval 16 (48 :: 49 :: hexL l) = 2 ^ (8 * l.length) + nb l := by
  unfold dval
  rw [List.foldl_cons, List.foldl_cons]
  have e1 : dg 48 = 0 := rfl
  have e2 : dg 49 = 1 := rfl
  rw [e1, e2, dval_hex l _ h, nb_from]
  omega

section
variable {w : World} {A : Around} {E : Value → Shared → Prop} {z : Shared} {h : Heap} {t : Nat} {QV : Value → Shared → Prop}
theorem c_buffer (r : Room A 3) (G : Gl w h) (b : Array UInt8) (tb : Tok) (q : ∀ h' t', h.StaysIn h' → QV (.bytes b tb) (mk z h' t')) : wpAny (model Prg w) A (call (.ref 225) [.bytes b tb]) QV E (mk z h t) := by
  refine enter (n := 2) (binds := [(Str.ofString "data", .bytes b tb)]) [Str.ofString "data", Str.ofString "t"] [Str.ofString "type", Str.ofString "bytes", Str.ofString "bytearray", Str.ofString "_wall"] rfl r G (by kernel_rfl) (BindsTo.of_eq rfl) (by tm_at "m_sc") ⟨rfl, trivial⟩ ?_
  intro A' L h' t' env he r' hfr C S
  clear he hfr
  dsimp only [initL] at S
  tm_at "ms"
  rename St _ _ _ _ _ _ _ => S2
  exact q _ _ S2.F.keep
theorem c_hexlify (r : Room A 5) (G : Gl w h) (l : List Nat) (tb : Tok) (hl : ∀ c ∈ l, c < 256) (hne : l ≠ []) (hz : l.length ≤ 1000) (q : ∀ tv h' t', h.StaysIn h' → QV (.bytes (By (hexL l)).toArray tv) (mk z h' t')) :
    wpAny (model Prg w) A (call (.ref 234) [.bytes (By l).toArray tb]) QV E (mk z h t) := by
  have X : (KK w).In (mk z h t).heap := G.X
  refine enter (n := 4) (binds := [(Str.ofString "data", .bytes (By l).toArray tb), (Str.ofString "sep", .ref 226), (Str.ofString "bytes_per_sep", .int 1 685)]) [Str.ofString "data", Str.ofString "sep", Str.ofString "bytes_per_sep", Str.ofString "t"] [Str.ofString "_buffer", Str.ofString "type", Str.ofString "int", Str.ofString "_wall", Str.ofString "_NO_SEP", Str.ofString "str", Str.ofString "len", Str.ofString "bytes", Str.ofString "bool", Str.ofString "float", Str.ofString "list", Str.ofString "tuple", Str.ofString "dict", Str.ofString "bytearray"] rfl r G (by kernel_rfl) (binds_K X rfl rfl rfl rfl rfl) (by tm_at "m_sc") ⟨rfl, rfl, rfl, trivial⟩ ?_
  intro A' L h' t' env he r' hfr C S
  clear he hfr
  dsimp only [initL] at S
  tm_at "ms"
  refine ⟨S.G.X, c_buffer (r'.le (by omega)) S.G _ _ fun h2 t2 k2 => ?_⟩
  have S2 := S.stays k2
  have hlen : (By l).length ≤ 100000 := by rw [By_len]; omega
  tm_at "mo"
  rw [By_nat hl]
  refine v_encA (fun x hx => (hexL_ok l hl x hx).1) (hexL_ne hne) (by rw [hexL_len]; omega) ?_
  tm_at "ms"
  rename St _ _ _ _ _ _ _ => S3
  exact q _ _ _ S3.F.keep

/-- what the raw bits give: int(b'01' + hexlify(b), 16), its letters -/
theorem v_int01 (l : List Nat) (h' : ∀ c ∈ l, c < 256) (hz : l.length ≤ 300) {tx ti : Tok} (k : QV (.int ((2 ^ (8 * l.length) + nb l : Nat) : Int) t) (mk z h (t + 1))) :
    wpAny (model Prg w) A (call (.type "int") [.bytes ([48, 49] ++ By (hexL l)).toArray tx, .int 16 ti]) QV E (mk z h t) := by
  rw [← dval_01 l h'] at k
  refine v_intB16 (cs := 48 :: 49 :: hexL l) ?_ ?_ (by simp) rfl (by simp [hexL_len]; omega) k
  · have := By_nat (l := hexL l) fun c hc => by have := (hexL_ok l h' c hc).1; omega
    simp [this]
  · intro c hc
    rcases List.mem_cons.mp hc with rfl | hc
    · exact ⟨0, rfl, by decide⟩
    rcases List.mem_cons.mp hc with rfl | hc
    · exact ⟨1, rfl, by decide⟩
    · exact (hexL_ok l h' c hc).2
theorem c_pba (r : Room A 7) (G : Gl w h) (l : List Nat) (tb ts : Tok) (sz : Nat) (hl : ∀ c ∈ l, c < 256) (hne : l ≠ []) (hz : l.length ≤ 300) (hs : sz ≤ 8 * l.length) (q : ∀ tv h' t', h.StaysIn h' → QV (.str (Mine.S (lets sz (nb l / 2 ^ (8 * l.length - sz)))) tv) (mk z h' t')) :
    wpAny (model Prg w) A (call (.ref 397) [.int sz ts, .bytes (By l).toArray tb]) QV E (mk z h t) := by
  refine enter (n := 6) (binds := [(Str.ofString "size", .int sz ts), (Str.ofString "arg", .bytes (By l).toArray tb)]) [Str.ofString "size", Str.ofString "arg"] [Str.ofString "bin", Str.ofString "int", Str.ofString "hexlify"] rfl r G (by kernel_rfl) (BindsTo.of_eq rfl) (by tm_at "m_sc") ⟨rfl, rfl, trivial⟩ ?_
  intro A' L h' t' env he r' hfr C S
  clear he hfr
  dsimp only [initL] at S
  tm_at "ms"
  refine ⟨S.G.X, c_hexlify (r'.le (by omega)) S.G l _ hl hne (by omega) fun tv h2 t2 k2 => ?_⟩
  have S2 := S.stays k2
  clear S
  have hlen : ([48, 49] : List UInt8).length + (By (hexL l)).length ≤ 100000 := by rw [By_len, hexL_len]; simp; omega
  tm_at "ms"
  refine v_int01 l hl hz ?_
  tm_at "ms"
  refine v_bin (8 * l.length) (nb l) rfl (nb_lt l hl) (by omega) ?_
  tm_at "ms"
  refine t_slice (some (3, _)) (some (sz + 3, _)) rfl rfl (by show Value.int _ _ = Value.int _ _; rw [Int.natCast_add]; rfl) (by simp [lets_len, sizeLine_eq]; omega) (by tm_at "m_asm") ?_ (by tm_at "m_hs")
  intro h3 t3 tk3 S3
  tm_at "ms"
  have := q t3 h3 tk3 S3.F.keep
  rw [← sl3b _ _ _ hs] at this
  exact this
end
end
section
open PySem PySem.W PyProof.Rows PySem.Calls
section
variable {w : World} {A : Around} {E : Value → Shared → Prop} {z : Shared} {h : Heap} {t : Nat} {QV : Value → Shared → Prop} {x dx : Addr} {es : List DictEntry} {sz : Nat} {ts : Tok}
theorem c_packR (r : Room A 8) (G : Gl w h) (I : Ob h x 298 dx es es.length) (gz : GetE es "size" (.int sz ts)) (l : List Nat) (tb : Tok) (hl : ∀ c ∈ l, c < 256) (hne : l ≠ []) (hz : l.length ≤ 300) (hs : sz ≤ 8 * l.length) (hs2 : 8 * l.length < sz + 8)
    (q : ∀ tv h' t', h.StaysIn h' → QV (.str (S (lets sz (nb l / 2 ^ (8 * l.length - sz)))) tv) (mk z h' t')) :
    codeAny (model Prg w) A (.call (.ref 288) ⟨[.ref x, .bytes (By l).toArray tb], []⟩) (CR QV) (mk z h t) := by
  refine enterC (n := 7) (binds := [(Str.ofString "self", .ref x), (Str.ofString "arg", .bytes (By l).toArray tb)]) h [] [Str.ofString "self", Str.ofString "arg", Str.ofString "number_of_padding_bytes"] [Str.ofString "len", Str.ofString "bin", Str.ofString "int", Str.ofString "hexlify"] rfl r G (fun _ _ e => e) (Nat.le_refl _) (fun _ q => nomatch q) List.nodup_nil (by kernel_rfl) (BindsTo.of_eq rfl) (by tm_at "m_sc") ⟨rfl, rfl, trivial⟩ ?_
  intro A' L h' t' env he r' hfr Cf S
  clear he hfr
  dsimp only [initL] at S
  have ic := ic_r w
  have hlen : (By l).length ≤ 100000 := by rw [By_len]; omega
  tm_at "ms"
  refine v_mulB0 (bs := [0]) (by simp) (by simp) (by rw [By_len]; omega) (by rw [By_len]; omega) ?_
  have hlen2 : (By l).length + ([] : List UInt8).length ≤ 100000 := by rw [By_len]; simp; omega
  tm_at "ms"
  rename St _ _ _ _ _ _ _ => S2
  rw [List.append_nil] at S2 ⊢
  refine ⟨S2.G.X, c_hexlify (r'.le (by omega)) S2.G l _ hl hne (by omega) fun tv h2 t2 k2 => ?_⟩
  have S3 := S2.stays k2
  clear S S2
  have hlen3 : ([48, 49] : List UInt8).length + (By (hexL l)).length ≤ 100000 := by rw [By_len, hexL_len]; simp; omega
  tm_at "ms"
  refine v_int01 l hl hz ?_
  tm_at "ms"
  refine v_bin (8 * l.length) (nb l) rfl (nb_lt l hl) (by omega) ?_
  tm_at "ms"
  refine t_slice (some (3, _)) (some (sz + 3, _)) rfl rfl (by show Value.int _ _ = Value.int _ _; rw [Int.natCast_add]; rfl) (by simp [lets_len, sizeLine_eq]; omega) (by tm_at "m_asm") ?_ (by tm_at "m_hs")
  intro h3 t3 tk3 S3
  tm_at "ms"
  have := q t3 h3 tk3 S3.F.keep
  rw [← sl3b _ _ _ hs] at this
  exact this
theorem c_packT (r : Room A 8) (G : Gl w h) (I : Ob h x 383 dx es es.length) (gz : GetE es "size" (.int sz ts)) (l : List Nat) (tb : Tok) (hl : ∀ c ∈ l, c < 128) (hne : l ≠ []) (hz : l.length ≤ 300) (hs : sz ≤ 8 * l.length) (hs2 : 8 * l.length < sz + 8)
    (q : ∀ tv h' t', h.StaysIn h' → QV (.str (S (lets sz (nb l / 2 ^ (8 * l.length - sz)))) tv) (mk z h' t')) :
    codeAny (model Prg w) A (.call (.ref 373) ⟨[.ref x, .str (S l) tb], []⟩) (CR QV) (mk z h t) := by
  refine enterC (n := 7) (binds := [(Str.ofString "self", .ref x), (Str.ofString "arg", .str (S l) tb)]) h [] [Str.ofString "self", Str.ofString "arg", Str.ofString "encoded", Str.ofString "number_of_padding_bytes"] [Str.ofString "len", Str.ofString "_pack_bytearray"] rfl r G (fun _ _ e => e) (Nat.le_refl _) (fun _ q => nomatch q) List.nodup_nil (by kernel_rfl) (BindsTo.of_eq rfl) (by tm_at "m_sc") ⟨rfl, rfl, trivial⟩ ?_
  intro A' L h' t' env he r' hfr Cf S
  clear he hfr
  dsimp only [initL] at S
  have ic := ic_t w
  tm_at "ms"
  refine v_encU hl hne (by omega) ?_
  have hlen : (By l).length ≤ 100000 := by rw [By_len]; omega
  tm_at "ms"
  refine v_mulB0 (bs := [0]) (by simp) (by simp) (by rw [By_len]; omega) (by rw [By_len]; omega) ?_
  have hlen2 : (By l).length + ([] : List UInt8).length ≤ 100000 := by rw [By_len]; simp; omega
  tm_at "ms"
  rename St _ _ _ _ _ _ _ => S2
  rw [List.append_nil] at S2 ⊢
  refine ⟨S2.G.X, c_pba (r'.le (by omega)) S2.G l _ _ sz (fun c hc => by have := hl c hc; omega) hne hz hs fun tv h2 t2 k2 => ?_⟩
  exact q _ _ _ fun b o e => k2 _ _ (S2.F.keep _ _ e)
end
end
section
open PySem PySem.W PyProof.Rows PySem.Calls Builtin
theorem sp_kind : builtinKind "_struct.pack" = none := by decide +kernel
theorem sp_plain : plainId "_struct.pack" = true := by decide +kernel
theorem sp_entry : entryFor table "_struct.pack" = some Builtin.«_struct.pack» := entryFor_of_tree (by kernel_rfl)
theorem sp_args (a b : Value) : argsOk "_struct.pack" ⟨[a, b], []⟩ := by unfold argsOk; kernel_rfl
theorem sp_e1 (t u : Tok) : «_struct.pack» ⟨[.str (Str.ofString ">e") t, .float (Float64.ofInt 1) u], []⟩ = (do ret (← mkBytes #[0x3c, 0x00])) := by kernel_rfl
theorem sp_e2 (t u : Tok) : «_struct.pack» ⟨[.str (Str.ofString ">e") t, .float (Float64.ofInt (-2)) u], []⟩ = (do ret (← mkBytes #[0xc0, 0x00])) := by kernel_rfl
theorem sp_f1 (t u : Tok) : «_struct.pack» ⟨[.str (Str.ofString ">f") t, .float (Float64.ofInt 1) u], []⟩ = (do ret (← mkBytes #[0x3f, 0x80, 0x00, 0x00])) := by kernel_rfl
theorem sp_f2 (t u : Tok) : «_struct.pack» ⟨[.str (Str.ofString ">f") t, .float (Float64.ofInt (-2)) u], []⟩ = (do ret (← mkBytes #[0xc0, 0x00, 0x00, 0x00])) := by kernel_rfl
theorem sp_d1 (t u : Tok) : «_struct.pack» ⟨[.str (Str.ofString ">d") t, .float (Float64.ofInt 1) u], []⟩ = (do ret (← mkBytes #[0x3f, 0xf0, 0, 0, 0, 0, 0, 0])) := by kernel_rfl
theorem sp_d2 (t u : Tok) : «_struct.pack» ⟨[.str (Str.ofString ">d") t, .float (Float64.ofInt (-2)) u], []⟩ = (do ret (← mkBytes #[0xc0, 0, 0, 0, 0, 0, 0, 0])) := by kernel_rfl
/-- the floats that the law packs -/
inductive FlB : Nat → Int → List Nat → Prop
  | e1 : FlB 16 1 [0x3c, 0x00]
  | e2 : FlB 16 (-2) [0xc0, 0x00]
  | f1 : FlB 32 1 [0x3f, 0x80, 0x00, 0x00]
  | f2 : FlB 32 (-2) [0xc0, 0x00, 0x00, 0x00]
  | d1 : FlB 64 1 [0x3f, 0xf0, 0, 0, 0, 0, 0, 0]
  | d2 : FlB 64 (-2) [0xc0, 0, 0, 0, 0, 0, 0, 0]
def flF (sz : Nat) : Str := if sz = 16 then Str.ofString ">e" else if sz = 32 then Str.ofString ">f" else Str.ofString ">d"
theorem FlB.sp {sz : Nat} {v : Int} {l : List Nat} (f : FlB sz v l) (t u : Tok) : «_struct.pack» ⟨[.str (flF sz) t, .float (Float64.ofInt v) u], []⟩ = (do ret (← mkBytes (By l).toArray)) := by
  cases f
  · exact sp_e1 t u
  · exact sp_e2 t u
  · exact sp_f1 t u
  · exact sp_f2 t u
  · exact sp_d1 t u
  · exact sp_d2 t u
theorem FlB.facts {sz : Nat} {v : Int} {l : List Nat} (f : FlB sz v l) : (∀ c ∈ l, c < 256) ∧ l ≠ [] ∧ 8 * l.length = sz ∧ (sz = 16 ∨ sz = 32 ∨ sz = 64) ∧ v.natAbs ≤ 2 := by
  cases f <;> exact ⟨by decide, by decide, by decide, by decide, by decide⟩
theorem gv_ps (w : World) : GV w "pack_struct" (.builtin "_struct.pack") := ⟨by kernel_rfl⟩
end
local macro_rules | `(tactic| tm_at "m_e") => `(tactic| ((with_reducible refine' x_callGB ?C ?S ?m (gv_ps _) ?_ ?e ?e'); (case C => tm_at "m_asm"); (case S => tm_at "m_asm"); (case m => tm_at "m_mem"); (case e => with_unfolding_all rfl); (case e' => with_unfolding_all rfl)))
section
open PySem PySem.W PyProof.Rows PySem.Calls Builtin
section
variable {w : World} {A : Around} {E : Value → Shared → Prop} {z : Shared} {h : Heap} {t : Nat} {QV : Value → Shared → Prop} {x dx : Addr} {es : List DictEntry} {sz : Nat} {ts : Tok}
theorem v_sp {f : Str} {b : UInt64} {l : List Nat} {tf tb : Tok} (e : «_struct.pack» ⟨[.str f tf, .float b tb], []⟩ = (do ret (← mkBytes (By l).toArray))) (hl : l.length ≤ 100) (k : QV (.bytes (By l).toArray t) (mk z h (t + 1))) :
    wpAny (model Prg w) A (call (.builtin "_struct.pack") [.str f tf, .float b tb]) QV E (mk z h t) := by
  have g : Gives («_struct.pack» ⟨[.str f tf, .float b tb], []⟩) (.bytes (By l).toArray) := .of_wp fun M A E s Q hq => by
    rw [e]
    exact wpAny_bind (wpAny_mkBytes (wpAny_pure ⟨_, rfl, hq.2⟩) hq.1)
  exact call_function_meets sp_kind sp_plain sp_entry (sp_args _ _) g.meets (show (Made.bytes _).post _ (mk z h t) from ⟨by rw [sizeLine_eq]; simp [By_len]; omega, k⟩)
theorem v_float {n : Int} {tn : Tok} (hn : n.natAbs ≤ 2) (k : QV (.float (Float64.ofInt n) t) (mk z h (t + 1))) : wpAny (model Prg w) A (call (.type "float") [.int n tn]) QV E (mk z h t) :=
  call_float_int_fits (s := mk z h t) (Nat.lt_of_le_of_lt hn (Nat.lt_of_lt_of_le (show 2 < 2 ^ 2 by decide) (Nat.pow_le_pow_right (by decide) (by decide)))) k

theorem c_packF (r : Room A 8) (G : Gl w h) (I : Ob h x 272 dx es es.length) (gz : GetE es "size" (.int sz ts)) (v : Int) (tv : Tok) (l : List Nat) (fl : FlB sz v l)
    (q : ∀ tv h' t', h.StaysIn h' → QV (.str (S (lets sz (nb l))) tv) (mk z h' t')) :
    codeAny (model Prg w) A (.call (.ref 262) ⟨[.ref x, .int v tv], []⟩) (CR QV) (mk z h t) := by
  refine enterC (n := 7) (binds := [(Str.ofString "self", .ref x), (Str.ofString "arg", .int v tv)]) h [] [Str.ofString "self", Str.ofString "arg", Str.ofString "value"] [Str.ofString "float", Str.ofString "pack_struct", Str.ofString "Error_bitstruct", Str.ofString "bin", Str.ofString "int", Str.ofString "hexlify"] rfl r G (fun _ _ e => e) (Nat.le_refl _) (fun _ q => nomatch q) List.nodup_nil (by kernel_rfl) (BindsTo.of_eq rfl) (by tm_at "m_sc") ⟨rfl, rfl, trivial⟩ ?_
  intro A' L h' t' env he r' hfr Cf S
  clear he hfr
  dsimp only [initL] at S
  have ic := ic_f w
  obtain ⟨hl, hne, hlen, hsz, hv⟩ := fl.facts
  tm_at "ms"
  refine v_float hv ?_
  tm_at "ms"
  rename St _ _ _ _ _ _ _ => S2
  clear S
  have fsp := fl.sp
  rcases hsz with rfl | rfl | rfl
  all_goals
    repeat' (first | tm_at "m" | tm_at "m_br")
    refine v_sp (fsp _ _) (by omega) ?_
    repeat' (first | tm_at "m" | tm_at "m_br")
    rename St _ _ _ _ _ _ _ => S3
    refine ⟨S3.G.X, c_hexlify (r'.le (by omega)) S3.G l _ hl hne (by omega) fun tv h2 t2 k2 => ?_⟩
    have S4 := S3.stays k2
    clear S2 S3
    have hlen3 : ([48, 49] : List UInt8).length + (By (hexL l)).length ≤ 100000 := by rw [By_len, hexL_len]; simp; omega
    tm_at "ms"
    refine v_int01 l hl (by omega) ?_
    tm_at "ms"
    refine v_bin (8 * l.length) (nb l) rfl (nb_lt l hl) (by omega) ?_
    tm_at "ms"
    refine t_slice (some (3, _)) none rfl rfl rfl (by simp [lets_len, sizeLine_eq]; omega) (by tm_at "m_asm") ?_ (by tm_at "m_hs")
    intro h3 t3 tk3 S3
    tm_at "ms"
    have := q t3 h3 tk3 S3.F.keep
    rw [← hlen, ← sl3 (lets (8 * l.length) (nb l))] at this
    exact this
end
end
section
open PySem PySem.W PyProof.Rows PySem.Calls
/-- a value that a group packs, and the number of its bits -/
inductive VOK : Kd → Nat → Value → Nat → Prop
  | u {sz n : Nat} {t : Tok} : n < 2 ^ sz → VOK .u sz (.int n t) n
  | s {sz n : Nat} {v : Int} {t : Tok} : -2 ^ (sz - 1) ≤ v → v ≤ 2 ^ (sz - 1) - 1 → n < 2 ^ sz → (v = n ∨ (v < 0 ∧ v + 2 ^ sz = n)) → VOK .s sz (.int v t) n
  | b {sz : Nat} {v : Int} {t : Tok} : VOK .b sz (.int v t) (if v = 0 then 0 else 1)
  | r {sz : Nat} {l : List Nat} {t : Tok} : (∀ c ∈ l, c < 256) → l ≠ [] → l.length ≤ 300 → sz ≤ 8 * l.length → 8 * l.length < sz + 8 → VOK .r sz (.bytes (By l).toArray t) (nb l / 2 ^ (8 * l.length - sz))
  | t {sz : Nat} {l : List Nat} {t : Tok} : (∀ c ∈ l, c < 128) → l ≠ [] → l.length ≤ 300 → sz ≤ 8 * l.length → 8 * l.length < sz + 8 → VOK .t sz (.str (S l) t) (nb l / 2 ^ (8 * l.length - sz))
  | f {sz : Nat} {v : Int} {l : List Nat} {t : Tok} : FlB sz v l → VOK .f sz (.int v t) (nb l)

theorem packC {w : World} {z : Shared} {k : Kd} {x dx : Addr} {h : Heap} {es : List DictEntry} {sz num : Nat} {val nm e : Value} (v : VOK k sz val num) (h1 : 1 ≤ sz) (hs : sz ≤ 64) (I : Ob h x k.cls dx es es.length) (ie : InfE k sz nm e es) : PackC w z k x h val (lets sz num) := by
  intro A h' t QV r G st q
  have I' := I.keeps st
  obtain ⟨ts, gz⟩ := ie.size
  cases v with
  | u hn =>
    obtain ⟨tm, gm⟩ := ie.max (.inl rfl)
    exact c_packU (r.le (by omega)) G (ic_u w) I' gm gz (by omega) _ _ hn q
  | s h1' h2' h3' h4' =>
    obtain ⟨tn, gn⟩ := ie.smin rfl
    obtain ⟨tm, gm⟩ := ie.smax rfl
    exact c_packS (r.le (by omega)) G (ic_s w) I' gn gm gz h1 (by omega) _ _ _ h1' h2' h3' h4' q
  | b =>
    obtain ⟨tm, gm⟩ := ie.max (.inr rfl)
    exact c_packB (r.le (by omega)) G I' gm gz h1 (by omega) _ _ q
  | r a b c d e => exact c_packR r G I' gz _ _ a b c d e q
  | t a b c d e => exact c_packT r G I' gz _ _ a b c d e q
  | f a => exact c_packF r G I' gz _ _ _ a q
end
section
open PySem PySem.W PyProof.Rows PySem.Calls
/-- letters that are bits -/
def Bits (l : List Nat) : Prop := ∀ c ∈ l, c = 48 ∨ c = 49
theorem dval_from (b : Nat) : ∀ (l : List Nat) (a : Nat), l.foldl (fun a c => a * b + dg c) a = a * b ^ l.length + dval b l
  | [], a => by simp [dval]
  | c :: r, a => by
    have e : dval b (c :: r) = (0 * b + dg c) * b ^ r.length + dval b r := dval_from b r _
    rw [List.foldl_cons, dval_from b r, e, List.length_cons, Nat.pow_succ, Nat.zero_mul, Nat.zero_add, Nat.add_mul, Nat.mul_assoc, Nat.mul_comm b, Nat.add_assoc]
theorem dval_app (b : Nat) (x y : List Nat) : dval b (x ++ y) = dval b x * b ^ y.length + dval b y := by
  show (x ++ y).foldl _ 0 = _
  rw [List.foldl_append, dval_from]; rfl
theorem dval_cons (b c : Nat) (r : List Nat) : dval b (c :: r) = dg c * b ^ r.length + dval b r := by
  have := dval_app b [c] r
  simpa [dval] using this
theorem dval_lt : ∀ {l : List Nat}, Bits l → dval 2 l < 2 ^ l.length
  | [], _ => by simp [dval]
  | c :: r, h => by
    have hr := dval_lt (l := r) fun c hc => h c (.tail _ hc)
    have hc : dg c ≤ 1 := by rcases h c (.head _) with rfl | rfl <;> decide
    rw [dval_cons, List.length_cons, Nat.pow_succ]
    have : dg c * 2 ^ r.length ≤ 1 * 2 ^ r.length := Nat.mul_le_mul_right _ hc
    omega
theorem dval_lets : ∀ (k n : Nat), dval 2 (lets k n) = n % 2 ^ k
  | 0, n => by simp [lets, dval, Nat.mod_one]
  | k + 1, n => by
    rw [lets_snoc, dval_app, dval_lets k (n / 2)]
    have : dval 2 [48 + n % 2] = n % 2 := by
      rcases Nat.mod_two_eq_zero_or_one n with q | q <;> rw [q] <;> rfl
    rw [this, List.length_singleton, Nat.pow_one, Nat.pow_succ, Nat.mul_comm (2 ^ k) 2, Nat.mod_mul]
    omega
theorem lets_bits : ∀ (k n : Nat), Bits (lets k n)
  | 0, _, c, hc => nomatch hc
  | k + 1, n, c, hc => by
    rcases List.mem_cons.mp hc with rfl | hc
    · have := Nat.mod_lt (n / 2 ^ k) (by decide : 0 < 2); omega
    · exact lets_bits k n c hc
theorem bits_lets : ∀ {l : List Nat}, Bits l → lets l.length (dval 2 l) = l
  | [], _ => rfl
  | c :: r, h => by
    have hr := bits_lets (l := r) fun c hc => h c (.tail _ hc)
    have hlt := dval_lt (l := r) fun c hc => h c (.tail _ hc)
    have hp : 0 < 2 ^ r.length := Nat.two_pow_pos _
    rw [List.length_cons]
    show (48 + dval 2 (c :: r) / 2 ^ r.length % 2) :: lets r.length (dval 2 (c :: r)) = c :: r
    have e1 : dval 2 (c :: r) / 2 ^ r.length = dg c := by
      rw [dval_cons, Nat.mul_comm, Nat.mul_add_div hp, Nat.div_eq_of_lt hlt]; omega
    have e2 : dval 2 (c :: r) % 2 ^ r.length = dval 2 r := by
      rw [dval_cons, Nat.mul_comm, Nat.mul_add_mod, Nat.mod_eq_of_lt hlt]
    rw [e1, ← lets_mod r.length _ r.length (Nat.le_refl _), e2, hr]
    congr 1
    rcases h c (.head _) with rfl | rfl <;> rfl

/-- the octets of a number, the first the highest -/
def octs : Nat → Nat → List Nat
  | 0, _ => []
  | m + 1, v => v / 2 ^ (8 * m) % 256 :: octs m v
theorem octs_len : ∀ m v, (octs m v).length = m
  | 0, _ => rfl
  | m + 1, v => by simp [octs, octs_len m v]
theorem octs_lt : ∀ m v, ∀ c ∈ octs m v, c < 256
  | 0, _, c, hc => nomatch hc
  | m + 1, v, c, hc => by
    rcases List.mem_cons.mp hc with rfl | hc
    · exact Nat.mod_lt _ (by decide)
    · exact octs_lt m v c hc
theorem octs_snoc : ∀ m v, octs (m + 1) v = octs m (v / 256) ++ [v % 256]
  | 0, v => by simp [octs]
  | m + 1, v => by
    show v / 2 ^ (8 * (m + 1)) % 256 :: octs (m + 1) v = (v / 256 / 2 ^ (8 * m) % 256 :: octs m (v / 256)) ++ [v % 256]
    rw [octs_snoc m v, Nat.div_div_eq_div_mul]
    have : 2 ^ (8 * (m + 1)) = 256 * 2 ^ (8 * m) := by rw [Nat.mul_add, Nat.pow_add]; omega
    rw [this]; rfl
theorem hexL_app : ∀ a b, hexL (a ++ b) = hexL a ++ hexL b
  | [], _ => rfl
  | c :: a, b => by simp [hexL, hexL_app a b]
theorem digChar : ∀ d, d < 16 → (Nat.digitChar d).toNat = Builtin.Bytes.hexDigit d := by decide
theorem dig16 : ∀ (m v : Nat), v < 2 ^ (8 * m) → (Nat.toDigits 16 (128 * 2 ^ (8 * m) + v)).map Char.toNat = 56 :: 48 :: hexL (octs m v)
  | 0, v, h => by
    have : v = 0 := by simpa using h
    subst this; rfl
  | m + 1, v, h => by
    have e : 2 ^ (8 * (m + 1)) = 256 * 2 ^ (8 * m) := by rw [Nat.mul_add, Nat.pow_add]; omega
    have hp : 0 < 2 ^ (8 * m) := Nat.two_pow_pos _
    rw [e] at h ⊢
    rw [Nat.toDigits_of_base_le (by decide) (by omega), Nat.toDigits_of_base_le (by decide) (by omega), List.map_append, List.map_append]
    have e1 : (128 * (256 * 2 ^ (8 * m)) + v) / 16 / 16 = 128 * 2 ^ (8 * m) + v / 256 := by omega
    have e2 : (128 * (256 * 2 ^ (8 * m)) + v) / 16 % 16 = v % 256 / 16 := by omega
    have e3 : (128 * (256 * 2 ^ (8 * m)) + v) % 16 = v % 256 % 16 := by omega
    rw [e1, e2, e3, dig16 m (v / 256) (by omega), octs_snoc, hexL_app]
    have d1 := digChar (v % 256 / 16) (by omega)
    have d2 := digChar (v % 16) (by omega)
    simp [hexL, d1, d2]
theorem hex_text (m v : Nat) (h : v < 2 ^ (8 * m)) : baseText "0x" 16 ((128 * 2 ^ (8 * m) + v : Nat) : Int) = S (48 :: 120 :: 56 :: 48 :: hexL (octs m v)) := by
  unfold baseText
  rw [if_neg (by omega), ofList_S (Nat.toDigits 16 _), Int.natAbs_natCast, dig16 m v h]
  have e0 : Str.ofString "" = S [] := by decide +kernel
  have e1 : Str.ofString "0x" = S [48, 120] := by decide +kernel
  rw [e0, e1, S_app, S_app]; rfl
theorem dval_1 (l : List Nat) : dval 2 ([49, 48, 48, 48, 48, 48, 48, 48] ++ l) = 128 * 2 ^ l.length + dval 2 l := by
  rw [dval_app]; rfl
/-- an octet of a text -/
def octAt (P : List Nat) (j : Nat) : Nat := dval 2 ((P.drop (8 * j)).take 8)
theorem octs_at : ∀ (m : Nat) {P : List Nat}, Bits P → P.length = 8 * m → octs m (dval 2 P) = (List.range m).map (octAt P)
  | 0, P, _, _ => rfl
  | m + 1, P, hb, hl => by
    obtain ⟨x, y, rfl, hx⟩ : ∃ x y, P = x ++ y ∧ x.length = 8 * m := ⟨P.take (8 * m), P.drop (8 * m), (List.take_append_drop _ _).symm, by simp; omega⟩
    have hy : y.length = 8 := by simp at hl; omega
    have hby : Bits y := fun c hc => hb c (List.mem_append_right _ hc)
    have hbx : Bits x := fun c hc => hb c (List.mem_append_left _ hc)
    have hly := dval_lt hby
    rw [hy] at hly
    rw [octs_snoc, dval_app, hy, List.range_succ, List.map_append]
    have e1 : (dval 2 x * 2 ^ 8 + dval 2 y) / 256 = dval 2 x := by omega
    have e2 : (dval 2 x * 2 ^ 8 + dval 2 y) % 256 = dval 2 y := by omega
    rw [e1, e2, octs_at m hbx hx]
    congr 1
    · apply List.map_congr_left
      intro j hj
      have hj' := List.mem_range.mp hj
      unfold octAt
      rw [List.drop_append_of_le_length (by omega), List.take_append_of_le_length (by simp; omega)]
    · simp only [List.map_cons, List.map_nil, octAt]
      rw [← hx, List.drop_left, List.take_of_length_le (by omega)]
theorem rstrip_id (l : List Nat) (c : Nat) (h : ∀ x ∈ l, x ≠ c) : Txt.rstripChars (S l) (S [c]) = S l := by
  have e : (((S l).cps.toList.drop 0).reverse.takeWhile (S [c]).cps.contains) = [] := by
    show ((l.drop 0).reverse.takeWhile _) = []
    rw [List.drop_zero]
    cases q : l.reverse with
    | nil => rfl
    | cons a r =>
      have : a ∈ l := by rw [← List.mem_reverse, q]; exact .head _
      have hc : (S [c]).cps.contains a = false := by
        have := h a this
        simp [S]; omega
      rw [List.takeWhile_cons, hc]; rfl
  unfold Txt.rstripChars Txt.stripBy
  rw [if_pos]
  unfold stripSame stripLo stripHi
  simp only [Bool.false_eq_true, if_false, if_true]
  rw [e]
  simp
end
section
open PySem PySem.W PyProof.Rows PySem.Calls
theorem ints_snoc {vs : List Value} {ns : List Int} (h : IntsAre vs ns) (n : Int) (t : Tok) : IntsAre (vs ++ [.int n t]) (ns ++ [n]) := by
  induction h with
  | nil => exact .cons n t .nil
  | cons m u _ ih => exact .cons m u ih
section
variable {w : World} {A : Around} {E : Value → Shared → Prop} {z : Shared} {h h₀ : Heap} {t : Nat} {L : Addr} {env : Env} {s : Shared}
  {ns gs : List Str} {vs vs' : List (Option Value)} {N N' : List (Addr × Obj)} {QV : Value → Shared → Prop} {Q : Flow → Shared → Prop} {QB : Bool → Shared → Prop} {QP : Value × List Value → Shared → Prop} {pl : Sem Bool} {value slice : Expr}
theorem t_bytes {bs : List UInt8} {i : Int} {tb ti : Tok} (j : Nat) (hi : i = (j : Int)) (hj : j < bs.length) (hz : bs.length ≤ 100000) (k : QV (.int (bs.getD j 0).toNat t) (mk z h (t + 1)))
    (hs : ∀ o i, subscripted slice false o i = operate [o, i] (getItem o i)) (ht : ∀ x t r, letTemporaryGo value (.bytes x t) r = pure ()) :
    wpAny (model Prg w) A (subscriptTail value slice (.bytes bs.toArray tb) (.int i ti)) QV E (mk z h t) := by
  subst hi
  refine tail_of_ItemOn (ops := [.bytes bs.toArray tb, .int j ti]) ⟨"bytes", _, FB.slot_bytes_getitem.lookup, typeIs_bytes _ _ _, ?_⟩ (hs _ _) (ht _ _)
  exact getItem_bytes (s := mk z h t) (by omega) (by omega) (by omega) (by rw [Int.toNat_natCast]; exact k)
theorem c_chain2 {l r1 r2 : Expr} {o1 o2 : CmpOp} {pos : Pos} {whole : Sem Value}
    (k : wpAny (model Prg w) A (eval l env) (fun a s₁ => wpAny (model Prg w) A (eval r1 env) (fun b s₂ => wpAny (model Prg w) A (compareOp o1 a b) (fun c s₃ => wpAny (model Prg w) A (truthy c)
      (Br (fun s₄ => wpAny (model Prg w) A (eval r2 env) (fun b2 s₅ => wpAny (model Prg w) A (compareOp o2 b b2) (fun c2 s₆ => wpAny (model Prg w) A (truthy c2) QB E s₆) E s₅) E s₄) (fun s₄ => QB false s₄)) E s₃) E s₂) E s₁) E s)
    (hm : lastMarks [o1, o2] [r1, r2] = false) (he : evalEach [] env = []) : wpAny (model Prg w) A (isTrue (.Compare l [o1, o2] [r1, r2] pos) env whole) QB E s := by
  refine isTrue_chain (wpAny_mono k (fun a s₁ q => ?_) fun _ _ x => x) hm
  rw [he]
  refine test_link (wpAny_mono q (fun b s₂ q => wpAny_mono q (fun c s₃ q => wpAny_mono q (fun b' s₄ q => ?_) fun _ _ x => x) fun _ _ x => x) fun _ _ x => x)
  cases b' with
  | true => exact test_last (q.1 rfl)
  | false => exact q.2 rfl
theorem m_append {l : Addr} {its : Array Value} {n : Nat} (S : St w h₀ L ns vs N h) (hm : (l, listOf its n) ∈ N) (k : QP (.builtin "list.append", [.ref l]) (mk z h t)) : wpAny (model Prg w) A (getMethod (.ref l) "append" pl) QP E (mk z h t) :=
  getMethod_list_append (s := mk z h t) (S.W _ hm).1 rfl rfl k
theorem m_isascii {x : PySem.Str} {ta : Tok} (k : QP (.builtin "str.isascii", [.str x ta]) s) : wpAny (model Prg w) A (getMethod (.str x ta) "isascii" pl) QP E s := by
  with_reducible exact getMethod_builtin (typeIs_str _ _ _) F.plainAttrs_str F.slot_str_isascii F.type_str_isascii (fun _ e => nomatch e) k
theorem m_rstrip {x : PySem.Str} {ta : Tok} (k : QP (.builtin "str.rstrip", [.str x ta]) s) : wpAny (model Prg w) A (getMethod (.str x ta) "rstrip" pl) QP E s := by
  with_reducible exact getMethod_builtin (typeIs_str _ _ _) F.plainAttrs_str F.slot_str_rstrip F.type_str_rstrip (fun _ e => nomatch e) k
theorem v_isascii {l : List Nat} {ta : Tok} (hl : ∀ c ∈ l, c < 128) (k : QV (.bool true) s) : wpAny (model Prg w) A (call (.builtin "str.isascii") [.str (S l) ta]) QV E s := by
  refine SC.isascii ?_
  have : Txt.isascii (S l) = true := by
    unfold Txt.isascii
    simp [S]
    exact hl
  rw [this]; exact k
theorem v_bytesL {l : Addr} {vs : List Value} {ns' : List Int} (S : St w h₀ L ns vs' N h) (hl : h.IsList l vs.toArray) (hi : IntsAre vs ns') (hr : ∀ n ∈ ns', 0 ≤ n ∧ n < 256) (hz : ns'.length ≤ 100000) (hh : A.handled = none)
    (k : ∀ h' t' tk, St w h₀ L ns vs' N h' → QV (.bytes (By (ns'.map Int.toNat)).toArray t') (mk z h' tk)) : wpAny (model Prg w) A (call (.type "bytes") [.ref l]) QV E (mk z h t) :=
  KBa.make_K (s := mk z h t) S.F S.W hh hl hi hr (by omega) fun h' t' tk F' N' _ => by
    have e : byteArr ns' = (By (ns'.map Int.toNat)).toArray := by unfold byteArr By; rw [List.map_map]; rfl
    rw [e]
    exact k h' t' tk ⟨F', N', S.G₀, S.nd, S.len⟩
end
end
local macro_rules | `(tactic| tm_at "m") => `(tactic| with_reducible refine t_ret ?_)
local macro_rules | `(tactic| tm_at "m_s") => `(tactic| ((with_reducible refine s_expr ?_ ?i ?e); (case i => with_reducible assumption); (case e => with_unfolding_all rfl)))
local macro_rules | `(tactic| tm_at "m_c") => `(tactic| ((with_reducible refine c_chain2 ?_ ?e ?f); (case e => with_unfolding_all rfl); (case f => with_unfolding_all rfl)))
local macro_rules | `(tactic| tm_at "m") => `(tactic| ((with_reducible refine g_getmeth ?_); with_reducible first | refine m_isascii ?_ | refine m_rstrip ?_ | ((refine' m_append ?S ?m ?_); (case S => tm_at "m_asm"); (case m => tm_at "m_mem"))))
section
open PySem PySem.W PyProof.Rows PySem.Calls
section
variable {w : World} {A : Around} {E : Value → Shared → Prop} {z : Shared} {h : Heap} {t : Nat} {QV : Value → Shared → Prop}
theorem c_hexv (r : Room A 3) (G : Gl w h) (d : Nat) (hd : d < 16) (c : Int) (hc : c = (Builtin.Bytes.hexDigit d : Nat)) (tc : Tok) (q : ∀ tv h' t', h.StaysIn h' → QV (.int d tv) (mk z h' t')) : wpAny (model Prg w) A (call (.ref 241) [.int c tc]) QV E (mk z h t) := by
  refine enter (n := 2) (binds := [(Str.ofString "c", .int c tc)]) [Str.ofString "c"] [] rfl r G (by kernel_rfl) (BindsTo.of_eq rfl) (by tm_at "m_sc") ⟨rfl, trivial⟩ ?_
  intro A' L h' t' env he r' hfr C S
  clear he hfr
  dsimp only [initL] at S
  unfold Builtin.Bytes.hexDigit at hc
  by_cases h10 : d < 10
  · rw [if_pos h10] at hc
    tm_at "mo"
    rw [show c - 48 = ((d : Nat) : Int) by omega]
    exact q _ _ _ S.F.keep
  · rw [if_neg h10] at hc
    tm_at "mo"
    rw [show c - 87 = ((d : Nat) : Int) by omega]
    exact q _ _ _ S.F.keep
theorem c_abuffer (r : Room A 3) (G : Gl w h) (l : List Nat) (tb : Tok) (hl : ∀ c ∈ l, c < 128) (hne : l ≠ []) (hz : l.length ≤ 1000) (q : ∀ tv h' t', h.StaysIn h' → QV (.bytes (By l).toArray tv) (mk z h' t')) : wpAny (model Prg w) A (call (.ref 218) [.str (S l) tb]) QV E (mk z h t) := by
  refine enter (n := 2) (binds := [(Str.ofString "data", .str (S l) tb)]) [Str.ofString "data", Str.ofString "t"] [Str.ofString "type", Str.ofString "str", Str.ofString "ValueError", Str.ofString "bytes", Str.ofString "bytearray", Str.ofString "_wall"] rfl r G (by kernel_rfl) (BindsTo.of_eq rfl) (by tm_at "m_sc") ⟨rfl, trivial⟩ ?_
  intro A' L h' t' env he r' hfr C S
  clear he hfr
  dsimp only [initL] at S
  tm_at "mo"
  refine v_isascii hl ?_
  tm_at "mo"
  refine v_encA hl hne (by omega) ?_
  tm_at "ms"
  rename St _ _ _ _ _ _ _ => S2
  exact q _ _ _ S2.F.keep
theorem hexL_get : ∀ (os : List Nat) (j : Nat) (hj : j < os.length), (hexL os)[2 * j]? = some (Builtin.Bytes.hexDigit (os[j] / 16)) ∧ (hexL os)[2 * j + 1]? = some (Builtin.Bytes.hexDigit (os[j] % 16))
  | c :: r, 0, _ => ⟨rfl, rfl⟩
  | c :: r, j + 1, hj => by
    have := hexL_get r j (by simpa using hj)
    have e : 2 * (j + 1) = 2 * j + 2 := by omega
    rw [e]
    exact this
theorem By_getD {l : List Nat} {j c : Nat} (h : l[j]? = some c) (hc : c < 256) : ((By l).getD j 0).toNat = c := by
  have : (By l)[j]? = some c.toUInt8 := by simp [By, h]
  rw [List.getD_eq_getElem?_getD, this]
  simp; omega
theorem c_unhex (r : Room A 5) (G : Gl w h) (os : List Nat) (tb : Tok) (hl : ∀ c ∈ os, c < 256) (hne : os ≠ []) (hz : os.length ≤ 300) (q : ∀ tv h' t', h.StaysIn h' → QV (.bytes (By os).toArray tv) (mk z h' t')) : wpAny (model Prg w) A (call (.ref 248) [.str (S (hexL os)) tb]) QV E (mk z h t) := by
  refine enter (n := 4) (binds := [(Str.ofString "hexstr", .str (S (hexL os)) tb)]) [Str.ofString "hexstr", Str.ofString "argbuf", Str.ofString "arglen", Str.ofString "out", Str.ofString "i", Str.ofString "top", Str.ofString "bot"] [Str.ofString "_ascii_buffer", Str.ofString "len", Str.ofString "Error_binascii", Str.ofString "_hex_value", Str.ofString "bytes"] rfl r G (by kernel_rfl) (BindsTo.of_eq rfl) (by tm_at "m_sc") ⟨rfl, trivial⟩ ?_
  intro A' L h' t' env he r' hfr C S
  have hin : interactive env = false := by rw [he]; with_unfolding_all rfl
  clear he hfr
  dsimp only [initL] at S
  tm_at "ms"
  have hL := hexL_len os
  refine ⟨S.G.X, c_abuffer (r'.le (by omega)) S.G _ _ (fun x hx => (hexL_ok os hl x hx).1) (hexL_ne hne) (by omega) fun tv h2 t2 k2 => ?_⟩
  have S2 := S.stays k2
  clear S
  have hlen : (By (hexL os)).length ≤ 100000 := by rw [By_len]; omega
  tm_at "ms"
  refine br_f (by rw [By_len, hL]; simp) ?_
  tm_at "ms"
  rename St _ _ _ _ _ _ _ => S3
  rw [By_len, hL] at S3
  refine s_while (fun n vs N => ∃ j its c o tl ti u1 u2, n = os.length - j ∧ j ≤ os.length ∧ IntsAre its ((os.take j).map (fun (c : Nat) => (c : Int))) ∧ N = [(o, listOf its.toArray c)] ∧ vs = [some (.str (Mine.S (hexL os)) tb), some (.bytes (By (hexL os)).toArray tv), some (.int (2 * os.length : Nat) tl), some (.ref o), some (.int (2 * j : Nat) ti), u1, u2]) os.length S3 ⟨0, [], _, _, _, _, _, _, rfl, Nat.zero_le _, .nil, rfl, rfl⟩ ?_
  clear S3 S2
  rintro n vs N h4 t4 ⟨j, its, c, o, tl, ti, u1, u2, rfl, hj, hi, rfl, rfl⟩ S4
  tm_at "ms"
  refine br_d ?_ ?_
  · intro hlt
    have hj' : j < os.length := by omega
    obtain ⟨g1, g2⟩ := hexL_get os j hj'
    have hc := hl os[j] (List.getElem_mem hj')
    have d1 := hd_ok (os[j] / 16) (by omega)
    have d2 := hd_ok (os[j] % 16) (by omega)
    tm_at "ms"
    refine t_bytes (2 * j) rfl (by rw [By_len]; omega) hlen ?_ (by tm_at "m_hs") (by tm_at "m_hs")
    rw [By_getD g1 (by omega)]
    tm_at "ms"
    refine ⟨S4.G.X, c_hexv (r'.le (by omega)) S4.G (os[j] / 16) (by omega) _ rfl _ fun tv5 h5 t5 k5 => ?_⟩
    have S5 := S4.stays k5
    tm_at "ms"
    refine t_bytes (2 * j + 1) (by omega) (by rw [By_len]; omega) hlen ?_ (by tm_at "m_hs") (by tm_at "m_hs")
    rw [By_getD g2 (by omega)]
    tm_at "ms"
    rename St _ _ _ _ _ _ _ => S6
    refine ⟨S6.G.X, c_hexv (r'.le (by omega)) S6.G (os[j] % 16) (by omega) _ rfl _ fun tv7 h7 t7 k7 => ?_⟩
    have S7 := S6.stays k7
    clear S6 S5 S4
    tm_at "mo"
    rename St _ _ _ _ _ _ _ => S8
    refine v_append S8 (by tm_at "m_upd") (by have := IntsAre.length hi; simp at this; rw [sizeLine_eq]; omega) ?_
    intro h9 S9
    refine ⟨rfl, ?_⟩
    tm_at "ms"
    rename St _ _ _ _ _ _ _ => S10
    have ev : ((os[j] / 16 : Nat) : Int) * 2 ^ Int.toNat 4 + ((os[j] % 16 : Nat) : Int) = ((os[j] : Nat) : Int) := by
      have : (2 : Int) ^ Int.toNat 4 = 16 := by decide
      rw [this]; omega
    have ei : ((2 * j : Nat) : Int) + 2 = ((2 * (j + 1) : Nat) : Int) := by omega
    rw [ev, ei] at S10
    refine WTurned.mk' (os.length - (j + 1)) (by omega) S10 ⟨j + 1, _, _, _, _, _, _, _, rfl, hj', ?_, rfl, rfl⟩
    rw [List.take_succ_eq_append_getElem hj', List.map_append]
    exact ints_snoc hi _ _
  · intro hge
    have hjj : j = os.length := by omega
    subst hjj
    tm_at "ms"
    refine v_bytesL S4 (isList_of S4 (.head _)) hi (fun n hn => ?_) (by simp; omega) r'.hd fun h5 t5 tk5 S5 => ?_
    · obtain ⟨c, hc, rfl⟩ := List.mem_map.mp hn
      have := hl c (by simpa using hc)
      omega
    · tm_at "ms"
      have e : (((os.take os.length).map (fun (c : Nat) => (c : Int))).map Int.toNat) = os := by
        rw [List.take_length, List.map_map]
        conv => rhs; rw [← List.map_id os]
        exact List.map_congr_left fun c _ => by simp
      have := q t5 h5 tk5 S5.F.keep
      rw [← e] at this
      exact this
end
end
section
open PySem PySem.W PyProof.Rows PySem.Calls
theorem lit_1 : Str.ofString "10000000" = S [49, 48, 48, 48, 48, 48, 48, 48] := by decide +kernel
theorem lit_L : Str.ofString "L" = S [76] := by decide +kernel
section
variable {w : World} {A : Around} {E : Value → Shared → Prop} {z : Shared} {h : Heap} {t : Nat} {QV : Value → Shared → Prop}
theorem v_hexi (m v : Nat) (hv : v < 2 ^ (8 * m)) (hm : m ≤ 1000) {a : Int} {ta : Tok} (ha : a = ((128 * 2 ^ (8 * m) + v : Nat) : Int)) (k : QV (.str (S (48 :: 120 :: 56 :: 48 :: hexL (octs m v))) t) (mk z h (t + 1))) :
    wpAny (model Prg w) A (call (.builtin "hex") [.int a ta]) QV E (mk z h t) := by
  subst ha
  refine P.hex_of_int (s := mk z h t) (by rw [hex_text m v hv]; exact k) ?_
  rw [hex_text m v hv, S_len, sizeLine_eq]
  simp [hexL_len, octs_len]; omega
theorem v_rstripL {l : List Nat} {ta tb : Tok} (hl : ∀ x ∈ l, x ≠ 76) (hz : l.length ≤ 100000) (k : ∀ t' tk, QV (.str (S l) t') (mk z h tk)) : wpAny (model Prg w) A (call (.builtin "str.rstrip") [.str (S l) ta, .str (Str.ofString "L") tb]) QV E (mk z h t) := by
  rw [lit_L]
  exact SC.rstripChars (s := mk z h t) (by rw [rstrip_id l 76 hl]; exact k) (by rw [S_len, sizeLine_eq]; omega)
theorem sl4 (l : List Nat) : sl (48 :: 120 :: 56 :: 48 :: l) 4 none = l := by
  unfold sl; simp
theorem c_uba (r : Room A 7) (G : Gl w h) (m : Nat) (P : List Nat) (tb ts : Tok) (hb : Bits P) (hP : P.length = 8 * m) (h1 : 1 ≤ m) (hm : m ≤ 70) (sz : Int) (hs : sz = ((8 * m : Nat) : Int)) (q : ∀ tv h' t', h.StaysIn h' → QV (.bytes (By (octs m (dval 2 P))).toArray tv) (mk z h' t')) :
    wpAny (model Prg w) A (call (.ref 404) [.int sz ts, .str (S P) tb]) QV E (mk z h t) := by
  subst hs
  refine enter (n := 6) (binds := [(Str.ofString "size", .int ((8 * m : Nat) : Int) ts), (Str.ofString "bits", .str (S P) tb)]) [Str.ofString "size", Str.ofString "bits", Str.ofString "rest"] [Str.ofString "unhexlify", Str.ofString "hex", Str.ofString "int"] rfl r G (by kernel_rfl) (BindsTo.of_eq rfl) (by tm_at "m_sc") ⟨rfl, rfl, trivial⟩ ?_
  intro A' L h' t' env he r' hfr C S
  clear he hfr
  dsimp only [initL] at S
  have hlt := dval_lt hb
  rw [hP] at hlt
  have hz : (Str.ofString "10000000").length + (Mine.S P).length ≤ sizeLine := by rw [lit_1, S_len, S_len, sizeLine_eq]; simp; omega
  tm_at "mo"
  rw [lit_1, S_app]
  refine v_intS2 (cs := [49, 48, 48, 48, 48, 48, 48, 48] ++ P) (fun c hc => ?_) rfl (by simp; omega) ?_
  · rcases List.mem_append.mp hc with hc | hc
    · have h01 : ∀ c ∈ [49, 48, 48, 48, 48, 48, 48, 48], c = 48 ∨ c = 49 := by decide
      exact h01 c hc
    · exact hb c hc
  tm_at "ms"
  refine v_hexi m (dval 2 P) hlt (by omega) (by rw [dval_1, hP]) ?_
  tm_at "ms"
  have hL := hexL_len (octs m (dval 2 P))
  rw [octs_len] at hL
  refine t_slice (some (4, _)) none rfl rfl rfl (by simp [sizeLine_eq]; omega) (by tm_at "m_asm") ?_ (by tm_at "m_hs")
  intro h3 t3 tk3 S3
  clear S
  have hok := hexL_ok _ (octs_lt m (dval 2 P))
  tm_at "ms"
  refine (show ∀ {l : List Nat}, l = hexL (octs m (dval 2 P)) → wpAny (model Prg w) A' (call (.builtin "str.rstrip") [.str (Mine.S l) t3, .str (Str.ofString "L") tk3]) _ _ _ from fun e => ?_) (sl4 (hexL (octs m (dval 2 P))))
  subst e
  refine v_rstripL (fun x hx => ?_) (by omega) fun t4 tk4 => ?_
  · obtain ⟨d, hd, _⟩ := (hok x hx).2
    intro e
    have := (hok x hx).2
    subst e
    obtain ⟨d, hd, hd2⟩ := this
    have : d = 21 := Option.some.inj (hd.symm.trans rfl)
    omega
  tm_at "ms"
  refine ⟨S3.G.X, c_unhex (r'.le (by omega)) S3.G _ _ (octs_lt m _) (by intro e; have := octs_len m (dval 2 P); rw [e] at this; simp at this; omega) (by rw [octs_len]; omega) fun tv h5 t5 k5 => ?_⟩
  exact q _ _ _ fun b o e => k5 _ _ (S3.F.keep _ _ e)
end
end
section
open PySem PySem.W PyProof.Rows PySem.Calls
section
variable {w : World} {A : Around} {E : Value → Shared → Prop} {z : Shared} {h h₀ : Heap} {t : Nat} {L : Addr} {env : Env} {s : Shared}
  {ns gs : List Str} {vs vs' : List (Option Value)} {N N' : List (Addr × Obj)} {QV : Value → Shared → Prop} {Q : Flow → Shared → Prop} {rest : List Stmt}
/-- a for over range(a, b) or range(a, b, c) -/
def RForL (w : World) (A : Around) (z : Shared) (h₀ : Heap) (L : Addr) (env : Env) (ns : List Str) (j : Nat) (body rest : List Stmt) (Q : Flow → Shared → Prop) (l : List Value) (s₁ : Shared) : Prop :=
  ∃ (a b c : Int) (n : Nat) (ta tb : Tok) (h : Heap) (t : Nat) (vs : List (Option Value)) (N : List (Addr × Obj)) (Inv : Nat → List (Option Value) → List (Addr × Obj) → Prop),
    ((l = [.int a ta, .int b tb] ∧ c = 1) ∨ ∃ tc, l = [.int a ta, .int b tb, .int c tc]) ∧ s₁ = mk z h t ∧ 0 < c ∧ c < 100 ∧ -1000000 < a ∧ a < 1000000 ∧ -1000000 < b ∧ b < 1000000 ∧ Builtin.Range.rangeSize a b c = n ∧ St w h₀ L ns vs N h ∧ Inv 0 vs N ∧
    (∀ i vs N h t IO tk, i < n → Inv i vs N → St w h₀ L ns (vs.set j (some (.int (a + (i : Nat) * c) tk))) (IO :: N) h → wpAny (model Prg w) A (execs body env) (Turned w z h₀ L ns IO (Inv (i + 1))) NoE (mk z h t)) ∧
    (∀ vs N h t, Inv n vs N → St w h₀ L ns vs N h → wpAny (model Prg w) A (execs rest env) Q NoE (mk z h t))
theorem s_for_rangeL {x : Str} {px p rp pos : Pos} {e : Expr} {es : List Expr} {body : List Stmt} {j : Nat} (r : A.handled = none) (C : Fn env L ns gs) (S : St w h₀ L ns vs N h) (hx : Str.ofString "range" ∈ gs) (g : BI w "range" (.type "range")) (hj : Idx ns j x)
    (k : wpAny (model Prg w) A (spliced (backTo rp (starEach (e :: es) env))) (RForL w A z h₀ L env ns j body rest Q) NoE (mk z h t))
    (he : starEach (e :: es) env = (false, eval e env) :: starEach es env) (hp : (backTo rp (starEach es env)).any (·.1) = false) :
    wpAny (model Prg w) A (execs (.For (.Name x px) (.Call (.Name (Str.ofString "range") p) (e :: es) [] rp) body [] pos :: rest) env) Q NoE (mk z h t) := by
  refine s_cons (wpAny_For ?_ fsi_call)
  refine x_callT C S hx g (wpAny_mono k (fun v s₁ q => ?_) fun _ _ x => x) he hp
  obtain ⟨a, b, c, n, ta, tb, h, t, vs, N, Inv, hv, rfl, hc0, hc1, ha0, ha1, hb0, hb1, hn, S, h0, step, done⟩ := q
  have hnn : (n : Int) < 2 ^ 61 := by
    rw [← hn]; unfold Builtin.Range.rangeSize
    rw [if_pos hc0]
    split
    · have := Int.ediv_le_self (b := c) (show 0 ≤ b - a - 1 by omega); omega
    · decide
  have hsm : Builtin.Range.small a b c = true := by
    unfold Builtin.Range.small
    rw [hn]
    have hnc : (n : Int) * c < 2 ^ 61 := by
      by_cases hab : a < b
      · have e1 : (n : Int) = (b - a - 1) / c + 1 := by rw [← hn]; unfold Builtin.Range.rangeSize; rw [if_pos hc0, if_pos hab]
        have e2 := Int.ediv_mul_le (b - a - 1) (show c ≠ 0 by omega)
        rw [e1, Int.add_mul, Int.one_mul]; omega
      · have e1 : (n : Int) = 0 := by rw [← hn]; unfold Builtin.Range.rangeSize; rw [if_pos hc0, if_neg hab]
        rw [e1]; omega
    have hnc0 : 0 ≤ (n : Int) * c := Int.mul_nonneg (by omega) (by omega)
    simp only [Builtin.Range.rangeFitsLong, Bool.and_eq_true, Bool.or_eq_true, decide_eq_true_eq, beq_iff_eq, if_pos hc0]
    omega
  have cont : ∀ v t', wpAny (model Prg w) A (pyIter (.ref h.objs.size)) (fun it s₁ => codeAny (model Prg w) A (.forLoop (.Name x px) it body [] env)
      (fun r s' => match r with | .ok f => thenDo w A env rest Q NoE f s' | .error e => cameBackBy (model Prg w) A env NoE e s') s₁) NoE (mk z (h.push { cls := .type "range", data := .fields #[.int a ta, .int b tb, .int c v] }) t') := by
    intro v t'
    have S₁ := S.push { cls := .type "range", data := .fields #[.int a ta, .int b tb, .int c v] }
    refine wpAny_pyIter_range (s := mk z (h.push { cls := .type "range", data := .fields #[.int a ta, .int b tb, .int c v] }) t') (a := a) (b := b) (c := c) (t := ta) (u := tb) (v := v) ((S₁.W _ (.head _)).1) hsm ?_
    rw [hn]
    have S₂ := S₁.push { cls := .type "range_iterator", data := .fields #[rawInt a, rawInt n, rawInt c] }
    have S₃ := S₂.tail.tail
    refine loop_walks C.locals (Walks.range r _ a c n) (fun i h q => ⟨_, q⟩) [] (fun b hb => .inl (List.mem_singleton.mp hb)) Inv (fun _ _ _ _ _ hp => nomatch hp) (fun _ => rfl) S₃ (size_new S₁) (size_neL S₁) (fun p hp => size_neN S₁ p (.tail _ hp))
      (by have := (S₂.W _ (.head _)).1; rw [show a + ((0 : Nat) : Int) * c = a by simp, show (n : Int) - ((0 : Nat) : Int) = n by omega]; exact this) h0 ?_ ?_
    · intro i v vs N h t o hi hP hJ S
      obtain ⟨tk, rfl⟩ := hP
      rw [PySem.assign_Name]
      refine wpAny_bind (wpAny_standAt (wpAny_bindName ?_))
      refine x_store C S (put_set _ hj.get S.len C.nodup) fun h' t' S' => ?_
      exact step i vs N h' t' _ tk hi hJ S'
    · intro vs N h t hJ S
      exact done vs N h t hJ S
  rcases hv with ⟨rfl, rfl⟩ | ⟨tc, rfl⟩
  · exact call_range_2 (s := mk z h t) (cont _ _)
  · exact call_range_3 (s := mk z h t) (by omega) (cont _ _) (.inl (PyProof.noPylong_of_log2 (by
      have : c.natAbs < 2 ^ 7 := by omega
      have := (Nat.log2_lt (by omega)).mpr this
      omega)))
end
end
local macro_rules | `(tactic| tm_at "m_forL") => `(tactic| ((with_reducible refine' s_for_rangeL ?r ?C ?S ?m (bi_range _) ?j ?_ ?e ?f); (case r => exact Room.hd (by with_reducible assumption)); (case C => tm_at "m_asm"); (case S => tm_at "m_asm"); (case m => tm_at "m_mem"); (case j => tm_at "m_idx"); (case e => with_unfolding_all rfl); (case f => with_unfolding_all rfl)))
section
open PySem PySem.W PyProof.Rows PySem.Calls
/-- a text with zeros behind, to whole octets -/
def padL (bt : List Nat) : List Nat := bt ++ List.replicate (8 * ((bt.length + 7) / 8) - bt.length) 48
theorem padL_len (bt : List Nat) : (padL bt).length = 8 * ((bt.length + 7) / 8) := by simp [padL]; omega
theorem padL_bits {bt : List Nat} (h : Bits bt) : Bits (padL bt) := fun c hc => by
  rcases List.mem_append.mp hc with hc | hc
  · exact h c hc
  · exact .inl (List.eq_of_mem_replicate hc)
theorem lit_one : Str.ofString "1" = S [49] := by decide +kernel

section
variable {w : World} {A : Around} {E : Value → Shared → Prop} {z : Shared} {h : Heap} {t : Nat} {QV : Value → Shared → Prop}
theorem c_octets (r : Room A 5) (G : Gl w h) (bt : List Nat) (tb : Tok) (hb : Bits bt) (hz : bt.length ≤ 1000) (q : ∀ tv h' t', h.StaysIn h' → QV (.bytes (By (octs ((bt.length + 7) / 8) (dval 2 (padL bt)))).toArray tv) (mk z h' t')) :
    wpAny (model Prg w) A (call (.ref 575) [.str (S bt) tb]) QV E (mk z h t) := by
  refine enter (n := 4) (binds := [(Str.ofString "text", .str (S bt) tb)]) [Str.ofString "text", Str.ofString "out", Str.ofString "k", Str.ofString "octet", Str.ofString "q"] [Str.ofString "range", Str.ofString "len", Str.ofString "bytes"] rfl r G (by kernel_rfl) (BindsTo.of_eq rfl) (by tm_at "m_sc") ⟨rfl, trivial⟩ ?_
  intro A' L h' t' env he r' hfr C S
  have hin : interactive env = false := by rw [he]; with_unfolding_all rfl
  clear he hfr
  dsimp only [initL] at S
  have hlen : bt.length ≤ 2 ^ 60 := by omega
  have hm : Builtin.Range.rangeSize 0 (bt.length : Int) 8 = (((bt.length + 7) / 8 : Nat) : Int) := by
    unfold Builtin.Range.rangeSize
    rw [if_pos (by decide)]
    split <;> omega
  have hPl := padL_len bt
  have hPb := padL_bits hb
  have hPa : octs ((bt.length + 7) / 8) (dval 2 (padL bt)) = (List.range ((bt.length + 7) / 8)).map (octAt (padL bt)) := octs_at _ hPb hPl
  rw [hPa] at q
  have hget : ∀ i (hi : i < bt.length), (padL bt)[i]? = some bt[i] := fun i hi => by unfold padL; rw [List.getElem?_append_left hi]; simp [hi]
  have hget0 : ∀ i, bt.length ≤ i → i < (padL bt).length → (padL bt)[i]? = some 48 := fun i hi hi2 => by
    unfold padL at hi2 ⊢
    rw [List.getElem?_append_right hi, List.getElem?_replicate, if_pos (by simp at hi2; omega)]
  generalize hmm : (bt.length + 7) / 8 = m at *
  generalize hP : padL bt = P at *
  tm_at "ms"
  tm_at "m_forL"
  tm_at "ms"
  rename St _ _ _ _ _ _ _ => S2
  refine ⟨0, bt.length, 8, m, _, _, _, _, _, _, fun i vs N => ∃ its c o u1 u2 u3, IntsAre its ((List.range i).map fun j => ((octAt P j : Nat) : Int)) ∧ N = [(o, listOf its.toArray c)] ∧ vs = [some (.str (Mine.S bt) tb), some (.ref o), u1, u2, u3],
    .inr ⟨_, rfl⟩, rfl, by omega, by omega, by omega, by omega, by omega, by omega, hm, S2, ⟨[], _, _, _, _, _, .nil, rfl, rfl⟩, ?_, ?_⟩
  · rintro i vs N h3 t3 ⟨I, oI⟩ tk hi ⟨its, c, o, u1, u2, u3, hints, rfl, rfl⟩ S3
    tm_at "m_vs"
    tm_at "ms"
    tm_at "m_forL"
    tm_at "ms"
    rename St _ _ _ _ _ _ _ => S4
    refine ⟨0 + (i : Nat) * 8, 0 + (i : Nat) * 8 + 8, 1, 8, _, _, _, _, _, _, fun j vs N => ∃ t1 u, N = [(I, oI), (o, listOf its.toArray c)] ∧ vs = [some (.str (Mine.S bt) tb), some (.ref o), some (.int (0 + (i : Nat) * 8) tk), some (.int (dval 2 ((P.drop (8 * i)).take j) : Nat) t1), u],
      .inl ⟨rfl, rfl⟩, rfl, by omega, by omega, by omega, by omega, by omega, by omega, ?_, S4, ⟨_, _, rfl, rfl⟩, ?_, ?_⟩
    · rw [rangeSize_one, if_pos (by omega)]; omega
    · rintro j vs N h5 t5 ⟨J, oJ⟩ tk5 hj ⟨t1, u, rfl, rfl⟩ S5
      tm_at "m_vs"
      tm_at "ms"
      rename St _ _ _ _ _ _ _ => S6
      clear S4
      rw [show (0 : Int) + (i : Nat) * 8 + (j : Nat) * 1 = ((8 * i + j : Nat) : Int) by omega] at S6 ⊢
      have hx : ∃ c, P[8 * i + j]? = some c ∧ (c = 48 ∨ c = 49) := by
        have hlt : 8 * i + j < P.length := by omega
        exact ⟨P[8 * i + j], by simp [hlt], hPb _ (List.getElem_mem hlt)⟩
      have hstep : ∀ c, P[8 * i + j]? = some c → dval 2 ((P.drop (8 * i)).take (j + 1)) = 2 * dval 2 ((P.drop (8 * i)).take j) + dg c := by
        intro c hc
        have : (P.drop (8 * i))[j]? = some c := by rw [List.getElem?_drop]; exact hc
        rw [List.take_add_one, this, dval_app]
        show _ * 2 ^ 1 + dval 2 [c] = _
        have : dval 2 [c] = dg c := by simp [dval]
        rw [this]; omega
      by_cases hq : 8 * i + j < bt.length
      · refine br_dt (by omega) ?_
        tm_at "ms"
        refine t_item (8 * i + j) rfl rfl hq (by omega) ?_ (by tm_at "m_hs") (by tm_at "m_hs")
        tm_at "ms"
        rcases hb _ (List.getElem_mem hq) with h48 | h49
        · have e48 := hstep 48 (by rw [hget _ hq, h48])
          rw [h48]
          refine br_f (by decide +kernel) ?_
          tm_at "ms"
          rename St _ _ _ _ _ _ _ => S7
          rw [show 2 * ((dval 2 ((P.drop (8 * i)).take j) : Nat) : Int) = ((dval 2 ((P.drop (8 * i)).take (j + 1)) : Nat) : Int) by rw [e48]; show _ = ((2 * _ + 0 : Nat) : Int); omega] at S7
          exact Turned.mk' S7 ⟨_, _, rfl, rfl⟩
        · have e49 := hstep 49 (by rw [hget _ hq, h49])
          rw [h49]
          refine br_t (by decide +kernel) ?_
          tm_at "ms"
          rename St _ _ _ _ _ _ _ => S7
          rw [show 2 * ((dval 2 ((P.drop (8 * i)).take j) : Nat) : Int) + 1 = ((dval 2 ((P.drop (8 * i)).take (j + 1)) : Nat) : Int) by rw [e49]; show _ = ((2 * _ + 1 : Nat) : Int); omega] at S7
          exact Turned.mk' S7 ⟨_, _, rfl, rfl⟩
      · refine br_df (by omega) ?_
        tm_at "ms"
        have e48 := hstep 48 (hget0 _ (by omega) (by omega))
        rw [show 2 * ((dval 2 ((P.drop (8 * i)).take j) : Nat) : Int) = ((dval 2 ((P.drop (8 * i)).take (j + 1)) : Nat) : Int) by rw [e48]; show _ = ((2 * _ + 0 : Nat) : Int); omega] at S6
        exact Turned.mk' S6 ⟨_, _, rfl, rfl⟩
    · rintro vs N h5 t5 ⟨t1, u, rfl, rfl⟩ S5
      tm_at "ms"
      refine v_append S5 (.next .here) (by have := IntsAre.length hints; simp at this; rw [sizeLine_eq]; omega) ?_
      intro h9 S9
      refine ⟨rfl, ?_⟩
      tm_at "ms"
      refine Turned.mk' S9 ⟨_, _, _, _, _, _, ?_, rfl, rfl⟩
      rw [List.range_succ, List.map_append]
      exact ints_snoc hints _ _
  · rintro vs N h5 t5 ⟨its, c, o, u1, u2, u3, hints, rfl, rfl⟩ S5
    tm_at "ms"
    refine v_bytesL S5 (isList_of S5 (.head _)) hints (fun n hn => ?_) (by simp; omega) r'.hd fun h6 t6 tk6 S6 => ?_
    · obtain ⟨j, hj, rfl⟩ := List.mem_map.mp hn
      have hbj : Bits ((P.drop (8 * j)).take 8) := fun c hc => hPb c (List.mem_of_mem_drop (List.mem_of_mem_take hc))
      have := dval_lt hbj
      have h8 : ((P.drop (8 * j)).take 8).length ≤ 8 := by simp; omega
      have : 2 ^ ((P.drop (8 * j)).take 8).length ≤ 2 ^ 8 := Nat.pow_le_pow_right (by decide) h8
      unfold octAt
      omega
    · tm_at "ms"
      have := q t6 h6 tk6 S6.F.keep
      have e : (((List.range m).map fun j => ((octAt P j : Nat) : Int)).map Int.toNat) = (List.range m).map (octAt P) := by
        rw [List.map_map]
        exact List.map_congr_left fun c _ => by simp
      rw [← e] at this
      exact this
end
end
section
open PySem PySem.Sre
def RC : Array Nat := #[14, 4, 0, 2, 4294967295, 17, 0, 24, 11, 0, 1, 13, 6, 16, 60, 16, 62, 0, 1, 17, 1, 17, 2, 13, 8, 22, 97, 122, 22, 65, 90, 0, 17, 3, 17, 4, 24, 9, 1, 4294967295, 13, 4, 8, 10, 0, 1, 17, 5, 17, 6, 24, 9, 0, 4294967295, 13, 4, 8, 12, 0, 1, 17, 7, 1]
abbrev rst (T : Array Nat) (n start lastStart pc pos handed : Nat) (marks : Array (Option Nat)) (lm li : Int) (fr : List Sre.Frame) (wt : Nat) (ans : Option Bool) (sn : Sre.Seen) : M :=
  { code := RC, text := T, lim := n, start, lastStart, pc, pos, handed, marks, lastmark := lm, lastindex := li, frames := fr, weight := wt, answer := ans, seen := sn }
section
variable {T : Array Nat} {n p ls : Nat} {s : Sre.Seen}
theorem rx_start (h : p + 2 ≤ n) (hT : n = T.size) : ∃ sn ls, forSearch RC T 4 p n false = rst T n p ls 5 p p (Array.replicate 8 none) (-1) (-1) [{ wait := .nextStart, pc := 5, pos := p, outermost := true }] 1 none sn := by
  refine ⟨({} : Sre.Seen).add 14, max p (n - 1), ?_⟩
  have e1 : (decide (p > n) || decide (n - p < 2)) = false := by simp; omega
  show (if (decide (p > n) || decide (n - p < 2)) = true then _ else _) = _
  rw [e1]
  rfl
theorem rx_1 {fr : List Sre.Frame} {m2 m3 m4 m5 m6 m7 m1 m0 : Option Nat} : M.step (rst T n p ls 5 p p #[m0, m1, m2, m3, m4, m5, m6, m7] (-1) (-1) fr 1 none s) = rst T n p ls 7 p p #[some p, m1, m2, m3, m4, m5, m6, m7] 0 (-1) fr 1 none (s.add 17) := rfl
end
theorem exec_rep (m : M) {k : Nat} {s' : Sre.Seen} (hop : ops[m.word 0]? = some .REPEAT_ONE) (h : ¬ ((m.word 2 : Nat) : Int) > (m.lim : Int) - m.pos)
    (hr : Sre.run m.code m.text (m.pc + 4) (min (m.word 3) ((m.lim : Int) - m.pos).toNat) m.pos 0 ((m.seen.add (m.word 0)).add (m.word 4)) = .ok (k, s')) (hk : ¬ k < m.word 2) :
    m.exec = M.afterRun { m with seen := s', pos := m.pos + k } .giveBack k (M.keep { m with seen := s', pos := m.pos + k } m.inner.isSome) := by
  have e : m.exec = (if ((m.word 2 : Nat) : Int) > (m.lim : Int) - m.pos then M.say { m with seen := m.seen.add (m.word 0) } false else
    match Sre.run m.code m.text (m.pc + 4) (min (m.word 3) ((m.lim : Int) - m.pos).toNat) m.pos 0 ((m.seen.add (m.word 0)).add (m.word 4)) with
    | .error why => M.stick { m with seen := m.seen.add (m.word 0) } why
    | .ok (n, seen) => if n < m.word 2 then M.say { m with seen := seen } false else M.afterRun { m with seen := seen, pos := m.pos + n } .giveBack n (M.keep { m with seen := seen, pos := m.pos + n } m.inner.isSome)) := by
    unfold M.exec
    simp only [hop]
    rfl
  rw [e, if_neg h, hr]
  simp only [if_neg hk]
theorem exec_in (m : M) {s' : Sre.Seen} (hop : ops[m.word 0]? = some .IN) (h : ¬ m.pos ≥ m.lim) (hr : accepts m.code m.pc (m.text.getD m.pos 0) (m.seen.add (m.word 0)) = .ok (true, s')) :
    m.exec = { m with seen := s', pc := m.pc + itemWidth m.code m.pc, pos := m.pos + 1 } := by
  have e : m.exec = (if m.pos ≥ m.lim then M.say { m with seen := m.seen.add (m.word 0) } false else
    match accepts m.code m.pc (m.text.getD m.pos 0) (m.seen.add (m.word 0)) with
    | .error why => M.stick { m with seen := m.seen.add (m.word 0) } why
    | .ok (false, seen) => M.say { m with seen := seen } false
    | .ok (true, seen) => { m with seen := seen, pc := m.pc + itemWidth m.code m.pc, pos := m.pos + 1 }) := by
    unfold M.exec
    simp only [hop]
    rfl
  rw [e, if_neg h, hr]
theorem step_exec (m : M) (h1 : m.outcome = none) (h2 : m.answer = none) (h3 : m.pc < m.code.size) : m.step = m.exec := by
  unfold M.step
  rw [h1, h2]
  simp [h3]
section
variable {T : Array Nat} {n p ls : Nat} {s : Sre.Seen}
theorem rx_2 {fr : List Sre.Frame} {mk : Array (Option Nat)} {k : Nat} {s' : Sre.Seen} (h : p < n) (hr : Sre.run RC T 11 1 p 0 ((s.add 24).add 13) = .ok (k, s')) :
    M.step (rst T n p ls 7 p p mk 0 (-1) fr 1 none s) = rst T n p ls 19 (p + k) (p + k) mk 0 (-1) ({ wait := .giveBack, pc := 7, pos := p + k, outermost := true, count := k, kept := { lastmark := 0, lastindex := -1 } } :: fr) 2 none s' := by
  rw [step_exec _ rfl rfl (by show 7 < 63; decide), exec_rep _ rfl (by show ¬ (0 : Int) > (n : Int) - p; omega) (s' := s') (k := k) ?_ (by show ¬ k < 0; omega)]
  · rfl
  · have e : min 1 ((n : Int) - p).toNat = 1 := by omega
    show Sre.run RC T 11 (min 1 ((n : Int) - p).toNat) p 0 ((s.add 24).add 13) = _
    rw [e]; exact hr
theorem runFor_s (k : Nat) (m : M) (h : m.outcome = none) : M.runFor (k + 1) m = M.runFor k m.step := by
  show (if m.outcome.isSome = true then m else M.runFor k m.step) = _
  rw [h]; rfl
theorem rx_run {k1 kd p1 p2 e : Nat} (hp : p + 2 ≤ n) (hT : n = T.size) (e1 : p1 = p + k1) (e2 : p2 = p1 + 1) (ee : e = p2 + kd) (hd : 1 ≤ kd) (he : e ≤ n)
    (h1 : ∀ s, ∃ s', Sre.run RC T 11 1 p 0 s = .ok (k1, s')) (h2 : ∀ s, ∃ s', accepts RC 23 (T.getD p1 0) s = .ok (true, s'))
    (h3 : ∀ s, ∃ s', Sre.run RC T 40 (n - p2) p2 0 s = .ok (kd, s')) (h4 : ∀ s, ∃ s', Sre.run RC T 54 (n - e) e 0 s = .ok (0, s')) (hn : n < 4294967295) :
    ∃ m, M.runFor 18 (forSearch RC T 4 p n false) = m ∧ m.outcome = some .matched ∧ m.start = p ∧ m.handed = e ∧ m.lastmark = 7 ∧ m.marks = #[some p, some p1, some p1, some p2, some p2, some e, some e, some e] := by
  obtain ⟨sn, ls, e0⟩ := rx_start (p := p) hp hT
  rw [e0]
  rw [runFor_s _ _ rfl, show (Array.replicate 8 none : Array (Option Nat)) = #[none, none, none, none, none, none, none, none] from rfl, rx_1]
  obtain ⟨s2, q2⟩ := h1 (((sn.add 17).add 24).add 13)
  rw [runFor_s _ _ rfl, rx_2 (by omega) q2, ← e1]
  rw [runFor_s _ _ rfl]
  rw [show ∀ fr s, M.step (rst T n p ls 19 p1 p1 #[some p, none, none, none, none, none, none, none] 0 (-1) fr 2 none s) = rst T n p ls 21 p1 p1 #[some p, some p1, none, none, none, none, none, none] 1 1 fr 2 none (s.add 17) from fun _ _ => by kernel_rfl]
  rw [runFor_s _ _ rfl]
  rw [show ∀ fr s, M.step (rst T n p ls 21 p1 p1 #[some p, some p1, none, none, none, none, none, none] 1 1 fr 2 none s) = rst T n p ls 23 p1 p1 #[some p, some p1, some p1, none, none, none, none, none] 2 1 fr 2 none (s.add 17) from fun _ _ => by kernel_rfl]
  rw [runFor_s _ _ rfl]
  obtain ⟨s5, q5⟩ := h2 (((s2.add 17).add 17).add 13)
  rw [show ∀ fr, M.step (rst T n p ls 23 p1 p1 #[some p, some p1, some p1, none, none, none, none, none] 2 1 fr 2 none ((s2.add 17).add 17)) = rst T n p ls 32 p2 p1 #[some p, some p1, some p1, none, none, none, none, none] 2 1 fr 2 none s5 from fun fr => by
    rw [step_exec _ rfl rfl (by show 23 < 63; decide), exec_in _ rfl (by show ¬ p1 ≥ n; omega) q5, e2]; rfl]
  rw [runFor_s _ _ rfl]
  rw [show ∀ fr s, M.step (rst T n p ls 32 p2 p1 #[some p, some p1, some p1, none, none, none, none, none] 2 1 fr 2 none s) = rst T n p ls 34 p2 p1 #[some p, some p1, some p1, some p2, none, none, none, none] 3 2 fr 2 none (s.add 17) from fun _ _ => by kernel_rfl]
  rw [runFor_s _ _ rfl]
  rw [show ∀ fr s, M.step (rst T n p ls 34 p2 p1 #[some p, some p1, some p1, some p2, none, none, none, none] 3 2 fr 2 none s) = rst T n p ls 36 p2 p1 #[some p, some p1, some p1, some p2, some p2, none, none, none] 4 2 fr 2 none (s.add 17) from fun _ _ => by kernel_rfl]
  rw [runFor_s _ _ rfl]
  obtain ⟨s8, q8⟩ := h3 ((((s5.add 17).add 17).add 24).add 13)
  rw [show ∀ fr, M.step (rst T n p ls 36 p2 p1 #[some p, some p1, some p1, some p2, some p2, none, none, none] 4 2 fr 2 none ((s5.add 17).add 17)) = rst T n p ls 46 e e #[some p, some p1, some p1, some p2, some p2, none, none, none] 4 2 ({ wait := .giveBack, pc := 36, pos := e, outermost := true, count := kd, kept := { lastmark := 4, lastindex := 2 } } :: fr) 3 none s8 from fun fr => by
    rw [step_exec _ rfl rfl (by show 36 < 63; decide), exec_rep _ rfl (by show ¬ (1 : Int) > (n : Int) - p2; omega) (s' := s8) (k := kd) ?_ (by show ¬ kd < 1; omega)]
    · rw [ee]; rfl
    · have em : min 4294967295 ((n : Int) - p2).toNat = n - p2 := by omega
      show Sre.run RC T 40 (min 4294967295 ((n : Int) - p2).toNat) p2 0 ((((s5.add 17).add 17).add 24).add 13) = _
      rw [em]; exact q8]
  rw [runFor_s _ _ rfl]
  rw [show ∀ fr s, M.step (rst T n p ls 46 e e #[some p, some p1, some p1, some p2, some p2, none, none, none] 4 2 fr 3 none s) = rst T n p ls 48 e e #[some p, some p1, some p1, some p2, some p2, some e, none, none] 5 3 fr 3 none (s.add 17) from fun _ _ => by kernel_rfl]
  rw [runFor_s _ _ rfl]
  rw [show ∀ fr s, M.step (rst T n p ls 48 e e #[some p, some p1, some p1, some p2, some p2, some e, none, none] 5 3 fr 3 none s) = rst T n p ls 50 e e #[some p, some p1, some p1, some p2, some p2, some e, some e, none] 6 3 fr 3 none (s.add 17) from fun _ _ => by kernel_rfl]
  rw [runFor_s _ _ rfl]
  obtain ⟨s11, q11⟩ := h4 ((((s8.add 17).add 17).add 24).add 13)
  rw [show ∀ fr, M.step (rst T n p ls 50 e e #[some p, some p1, some p1, some p2, some p2, some e, some e, none] 6 3 fr 3 none ((s8.add 17).add 17)) = rst T n p ls 60 e e #[some p, some p1, some p1, some p2, some p2, some e, some e, none] 6 3 ({ wait := .giveBack, pc := 50, pos := e, outermost := true, count := (0 : Nat), kept := { lastmark := 6, lastindex := 3 } } :: fr) 4 none s11 from fun fr => by
    rw [step_exec _ rfl rfl (by show 50 < 63; decide), exec_rep _ rfl (by show ¬ (0 : Int) > (n : Int) - e; omega) (s' := s11) (k := 0) ?_ (by show ¬ 0 < 0; omega)]
    · rfl
    · have em : min 4294967295 ((n : Int) - e).toNat = n - e := by omega
      show Sre.run RC T 54 (min 4294967295 ((n : Int) - e).toNat) e 0 ((((s8.add 17).add 17).add 24).add 13) = _
      rw [em]; exact q11]
  rw [runFor_s _ _ rfl]
  rw [show ∀ fr s, M.step (rst T n p ls 60 e e #[some p, some p1, some p1, some p2, some p2, some e, some e, none] 6 3 fr 4 none s) = rst T n p ls 62 e e #[some p, some p1, some p1, some p2, some p2, some e, some e, some e] 7 4 fr 4 none (s.add 17) from fun _ _ => by kernel_rfl]
  generalize hmk : #[some p, some p1, some p1, some p2, some p2, some e, some e, some e] = mk
  rw [runFor_s _ _ rfl]
  rw [show ∀ fr s, M.step (rst T n p ls 62 e e mk 7 4 fr 4 none s) = rst T n p ls 62 e e mk 7 4 fr 4 (some true) (s.add 1) from fun _ _ => by kernel_rfl]
  rw [runFor_s _ _ rfl]
  rw [show ∀ fr s, M.step (rst T n p ls 62 e e mk 7 4 ({ wait := .giveBack, pc := 50, pos := e, outermost := true, count := (0 : Nat), kept := { lastmark := 6, lastindex := 3 } } :: fr) 4 (some true) s) = rst T n p ls 50 e e mk 7 4 fr 3 (some true) s from fun _ _ => by kernel_rfl]
  rw [runFor_s _ _ rfl]
  rw [show ∀ fr s, M.step (rst T n p ls 50 e e mk 7 4 ({ wait := .giveBack, pc := 36, pos := e, outermost := true, count := kd, kept := { lastmark := 4, lastindex := 2 } } :: fr) 3 (some true) s) = rst T n p ls 36 e e mk 7 4 fr 2 (some true) s from fun _ _ => by kernel_rfl]
  rw [runFor_s _ _ rfl]
  rw [show ∀ fr s, M.step (rst T n p ls 36 e e mk 7 4 ({ wait := .giveBack, pc := 7, pos := p1, outermost := true, count := k1, kept := { lastmark := 0, lastindex := -1 } } :: fr) 2 (some true) s) = rst T n p ls 7 p1 e mk 7 4 fr 1 (some true) s from fun _ _ => by kernel_rfl]
  rw [runFor_s _ _ rfl]
  rw [show ∀ s, M.step (rst T n p ls 7 p1 e mk 7 4 [{ wait := .nextStart, pc := 5, pos := p, outermost := true }] 1 (some true) s) = rst T n p ls 5 p e mk 7 4 [] 0 (some true) s from fun _ => by kernel_rfl]
  rw [runFor_s _ _ rfl]
  rw [show ∀ s, M.step (rst T n p ls 5 p e mk 7 4 [] 0 (some true) s) = { rst T n p ls 5 p e mk 7 4 [] 0 (some true) s with outcome := some .matched } from fun _ => by kernel_rfl]
  exact ⟨_, rfl, rfl, rfl, rfl, rfl, rfl⟩
end
end
section
open PySem PySem.Sre PySem.W PyProof.Rows PySem.Calls
theorem runFor_out : ∀ (k : Nat) (m : M), m.outcome.isSome = true → M.runFor k m = m
  | 0, _, _ => rfl
  | k + 1, m, h => by
    show (if m.outcome.isSome = true then m else M.runFor k m.step) = _
    rw [if_pos h]
theorem runFor_add : ∀ (a b : Nat) (m : M), M.runFor (a + b) m = M.runFor b (M.runFor a m)
  | 0, b, m => by rw [Nat.zero_add]; rfl
  | a + 1, b, m => by
    by_cases h : m.outcome.isSome = true
    · rw [runFor_out _ _ h, runFor_out _ _ h, runFor_out _ _ h]
    · rw [show a + 1 + b = (a + b) + 1 by omega]
      show (if m.outcome.isSome = true then m else M.runFor (a + b) m.step) = M.runFor b (if m.outcome.isSome = true then m else M.runFor a m.step)
      rw [if_neg h, if_neg h, runFor_add a b]
section
variable {w : World} {A : Around} {E : Value → Shared → Prop} {s : Shared}
theorem wp_drive : ∀ (turns K : Nat) (m : M) {Q : M → Shared → Prop}, (M.runFor K m).outcome.isSome = true → K ≤ 4 * turns → 0 < turns → Q (M.runFor K m) s → wpAny (model Prg w) A (Builtin.Re.reDrive turns m) Q E s
  | t + 1, K, m, Q, ho, hk, _, q => by
    show wpAny _ _ (if (M.runFor 4 m).outcome.isSome = true then pure (M.runFor 4 m) else do rule "sre.turn"; Builtin.Re.reDrive t (M.runFor 4 m)) _ _ _
    by_cases h4 : (M.runFor 4 m).outcome.isSome = true
    · rw [if_pos h4]
      have e : M.runFor K m = M.runFor 4 m := by
        by_cases hK : K ≤ 4
        · have : M.runFor 4 m = M.runFor (4 - K) (M.runFor K m) := by rw [← runFor_add]; congr 1; omega
          rw [this, runFor_out _ _ ho]
        · have : M.runFor K m = M.runFor (K - 4) (M.runFor 4 m) := by rw [← runFor_add]; congr 1; omega
          rw [this, runFor_out _ _ h4]
      rw [e] at q
      exact wpAny_pure q
    · rw [if_neg h4]
      have hK : 4 < K := by
        apply Nat.lt_of_not_le
        intro hK
        have : M.runFor 4 m = M.runFor (4 - K) (M.runFor K m) := by rw [← runFor_add]; congr 1; omega
        rw [this, runFor_out _ _ ho] at h4
        exact h4 ho
      have e : M.runFor K m = M.runFor (K - 4) (M.runFor 4 m) := by rw [← runFor_add]; congr 1; omega
      rw [e] at ho q
      exact wpAny_bind (wpAny_rule (wp_drive t (K - 4) _ ho (by omega) (by omega) q))
theorem wp_rules {Q : PUnit → Shared → Prop} (f : Nat → Bool) (g : Nat → String) : ∀ (l : List Nat), Q ⟨⟩ s → wpAny (model Prg w) A (forIn l PUnit.unit fun i _ => do
      if f i = true then rule (g i)
      pure (ForInStep.yield PUnit.unit)) Q E s
  | [], q => wpAny_pure q
  | i :: l, q => by
    rw [List.forIn_cons]
    refine wpAny_bind ?_
    cases f i with
    | true => exact wpAny_bind (wpAny_rule (wpAny_pure (wp_rules f g l q)))
    | false => exact wpAny_pure (wp_rules f g l q)
theorem wp_toEnd {K : Nat} {m0 m : M} {Q : Option M → Shared → Prop} (hm : M.runFor K m0 = m) (hK : K ≤ 1000) (ho : m.outcome = some .matched) (q : Q (some m) s) : wpAny (model Prg w) A (Builtin.Re.reRunToEnd m0) Q E s := by
  unfold Builtin.Re.reRunToEnd
  refine wpAny_bind (wp_drive (2 ^ 64) K m0 (by rw [hm, ho]; rfl) (Nat.le_trans hK (by decide)) (by decide) ?_)
  rw [hm]
  refine wpAny_bind (wp_rules (fun i => m.seen.has i) (fun i => names.getD i "") _ ?_)
  rw [ho]
  exact wpAny_pure q
theorem wp_toEndF {K : Nat} {m0 m : M} {Q : Option M → Shared → Prop} (hm : M.runFor K m0 = m) (hK : K ≤ 1000) (ho : m.outcome = some .failed) (q : Q none s) : wpAny (model Prg w) A (Builtin.Re.reRunToEnd m0) Q E s := by
  unfold Builtin.Re.reRunToEnd
  refine wpAny_bind (wp_drive (2 ^ 64) K m0 (by rw [hm, ho]; rfl) (Nat.le_trans hK (by decide)) (by decide) ?_)
  rw [hm]
  refine wpAny_bind (wp_rules (fun i => m.seen.has i) (fun i => names.getD i "") _ ?_)
  rw [ho]
  exact wpAny_pure q
end
/-- at the text's end nothing is found -/
theorem rx_end {T : Array Nat} {n : Nat} : ∃ m, M.runFor 1 (forSearch RC T 4 n n false) = m ∧ m.outcome = some .failed := by
  refine ⟨_, rfl, ?_⟩
  have e : (decide (n > n) || decide (n - n < 2)) = true := by simp
  have : forSearch RC T 4 n n false = M.say { code := RC, text := T, lim := n, start := n, pc := 5, pos := n, handed := n, marks := Array.replicate 8 none, seen := ({} : Sre.Seen).add 14 } false := by
    show (if (decide (n > n) || decide (n - n < 2)) = true then _ else _) = _
    rw [if_pos e]; rfl
  rw [this]
  rfl
end
section
open PySem PySem.Sre PySem.W PyProof.Rows PySem.Calls
/-- a letter that begins a group -/
def Head (c : Nat) : Prop := c = 60 ∨ c = 62 ∨ ∃ k : Kd, c = k.code
theorem acc11_o (c : Nat) (h : c = 60 ∨ c = 62) (s : Sre.Seen) : ∃ s', accepts RC 11 c s = .ok (true, s') := by
  rcases h with rfl | rfl
  · exact ⟨s.add 16, by kernel_rfl⟩
  · exact ⟨(s.add 16).add 16, by kernel_rfl⟩
theorem acc11_k (k : Kd) (s : Sre.Seen) : ∃ s', accepts RC 11 k.code s = .ok (false, s') := by
  cases k <;> exact ⟨((s.add 16).add 16).add 0, by kernel_rfl⟩
theorem acc23 (k : Kd) (s : Sre.Seen) : ∃ s', accepts RC 23 k.code s = .ok (true, s') := by
  cases k
  case P => exact ⟨(s.add 22).add 22, by kernel_rfl⟩
  all_goals exact ⟨s.add 22, by kernel_rfl⟩
theorem acc40_d (c : Nat) (h : 48 ≤ c ∧ c ≤ 57) (s : Sre.Seen) : ∃ s', accepts RC 40 c s = .ok (true, s') := by
  have : c = 48 ∨ c = 49 ∨ c = 50 ∨ c = 51 ∨ c = 52 ∨ c = 53 ∨ c = 54 ∨ c = 55 ∨ c = 56 ∨ c = 57 := by omega
  rcases this with rfl | rfl | rfl | rfl | rfl | rfl | rfl | rfl | rfl | rfl <;> exact ⟨(s.add 8).add 65, by kernel_rfl⟩
theorem acc40_h {c : Nat} (h : Head c) (s : Sre.Seen) : ∃ s', accepts RC 40 c s = .ok (false, s') := by
  rcases h with rfl | rfl | ⟨k, rfl⟩
  · exact ⟨((s.add 8).add 65).add 0, by kernel_rfl⟩
  · exact ⟨((s.add 8).add 65).add 0, by kernel_rfl⟩
  · cases k <;> exact ⟨((s.add 8).add 65).add 0, by kernel_rfl⟩
theorem acc54_h {c : Nat} (h : Head c) (s : Sre.Seen) : ∃ s', accepts RC 54 c s = .ok (false, s') := by
  rcases h with rfl | rfl | ⟨k, rfl⟩
  · exact ⟨((s.add 8).add 67).add 0, by kernel_rfl⟩
  · exact ⟨((s.add 8).add 67).add 0, by kernel_rfl⟩
  · cases k <;> exact ⟨((s.add 8).add 67).add 0, by kernel_rfl⟩
theorem run_s {i n p f : Nat} {T : Array Nat} {s s' : Sre.Seen} (h : accepts RC i (T.getD p 0) s = .ok (true, s')) : Sre.run RC T i (n + 1) p f s = Sre.run RC T i n (p + 1) (f + 1) s' := by
  show (accepts RC i (T.getD p 0) s >>= fun x => if x.1 = true then Sre.run RC T i n (p + 1) (f + 1) x.2 else pure (f, x.2)) = _
  rw [h]; rfl
theorem run_f {i n p f : Nat} {T : Array Nat} {s s' : Sre.Seen} (h : accepts RC i (T.getD p 0) s = .ok (false, s')) : Sre.run RC T i (n + 1) p f s = .ok (f, s') := by
  show (accepts RC i (T.getD p 0) s >>= fun x => if x.1 = true then Sre.run RC T i n (p + 1) (f + 1) x.2 else pure (f, x.2)) = _
  rw [h]; rfl
theorem run_digs {T : Array Nat} : ∀ (ds : List Nat) (p f cnt : Nat) (s : Sre.Seen), (∀ d ∈ ds, 48 ≤ d ∧ d ≤ 57) → (∀ i (h : i < ds.length), T.getD (p + i) 0 = ds[i]) → ds.length ≤ cnt → (cnt = ds.length ∨ Head (T.getD (p + ds.length) 0)) →
    ∃ s', Sre.run RC T 40 cnt p f s = .ok (f + ds.length, s')
  | [], p, f, cnt, s, _, _, _, hc => by
    cases cnt with
    | zero => exact ⟨s, rfl⟩
    | succ c =>
      rcases hc with h | h
      · cases h
      · obtain ⟨s', e⟩ := acc40_h h s
        exact ⟨s', run_f e⟩
  | d :: ds, p, f, cnt, s, hd, hT, hle, hc => by
    obtain ⟨c, rfl⟩ : ∃ c, cnt = c + 1 := ⟨cnt - 1, by simp at hle; omega⟩
    have h0 := hT 0 (by simp)
    simp only [Nat.add_zero, List.getElem_cons_zero] at h0
    obtain ⟨s1, e1⟩ := acc40_d d (hd d (.head _)) s
    obtain ⟨s', e2⟩ := run_digs ds (p + 1) (f + 1) c s1 (fun x hx => hd x (.tail _ hx)) (fun i hi => by
      have := hT (i + 1) (by simp; omega)
      rw [show p + 1 + i = p + (i + 1) by omega, this]; rfl) (by simp at hle; omega) (hc.imp (fun e => by simp at e; omega) fun e => by
      rw [show p + 1 + ds.length = p + (d :: ds).length by simp; omega]; exact e)
    refine ⟨s', ?_⟩
    rw [run_s (by rw [h0]; exact e1), e2, List.length_cons, show f + 1 + ds.length = f + (ds.length + 1) by omega]

/-- a group of a format -/
structure Grp where
  o : List Nat
  k : Kd
  ds : List Nat
structure Grp.Ok (g : Grp) : Prop where
  o : g.o = [] ∨ g.o = [60] ∨ g.o = [62]
  ne : g.ds ≠ []
  ln : g.ds.length ≤ 3
  dg : ∀ d ∈ g.ds, 48 ≤ d ∧ d ≤ 57
def Grp.text (g : Grp) : List Nat := g.o ++ g.k.code :: g.ds
theorem Grp.len (g : Grp) : g.text.length = g.o.length + 1 + g.ds.length := by simp [Grp.text]; omega
theorem Grp.head {g : Grp} (h : g.Ok) : ∃ c r, g.text = c :: r ∧ Head c := by
  unfold Grp.text
  rcases h.o with e | e | e <;> rw [e]
  · exact ⟨_, _, rfl, .inr (.inr ⟨g.k, rfl⟩)⟩
  · exact ⟨_, _, rfl, .inl rfl⟩
  · exact ⟨_, _, rfl, .inr (.inl rfl)⟩
theorem getD_at (pre l post : List Nat) (i : Nat) (h : i < l.length) : ((pre ++ l ++ post).toArray).getD (pre.length + i) 0 = l[i] := by
  have h1 : pre.length + i < (pre ++ l).length := by simp; omega
  simp [Array.getD_eq_getD_getElem?, List.getElem?_append_left, List.getElem?_append_right, h]
theorem rx_group {pre post : List Nat} {g : Grp} (h : g.Ok) (hp : post = [] ∨ ∃ c r, post = c :: r ∧ Head c) (hz : (pre ++ g.text ++ post).length < 100000) :
    ∃ m, M.runFor 18 (forSearch RC (pre ++ g.text ++ post).toArray 4 pre.length (pre ++ g.text ++ post).length false) = m ∧ m.outcome = some .matched ∧ m.start = pre.length ∧ m.handed = pre.length + g.text.length ∧ m.lastmark = 7 ∧
      m.marks = #[some pre.length, some (pre.length + g.o.length), some (pre.length + g.o.length), some (pre.length + g.o.length + 1), some (pre.length + g.o.length + 1), some (pre.length + g.text.length), some (pre.length + g.text.length), some (pre.length + g.text.length)] := by
  have hlen := g.len
  have hdl : 1 ≤ g.ds.length := List.length_pos_iff.mpr h.ne
  have htot : (pre ++ g.text ++ post).length = pre.length + g.text.length + post.length := by simp; omega
  have at_ : ∀ i (hi : i < g.text.length), ((pre ++ g.text ++ post).toArray).getD (pre.length + i) 0 = g.text[i] := fun i hi => getD_at pre g.text post i hi
  have atk : ((pre ++ g.text ++ post).toArray).getD (pre.length + g.o.length) 0 = g.k.code := by
    rw [at_ _ (by omega)]
    simp [Grp.text]
  have post_at : post ≠ [] → Head (((pre ++ g.text ++ post).toArray).getD (pre.length + g.text.length) 0) := by
    intro hne
    rcases hp with e | ⟨c, r, rfl, hc⟩
    · exact absurd e hne
    · have : ((pre ++ g.text ++ c :: r).toArray).getD (pre.length + g.text.length) 0 = c := by
        have h1 : ¬ pre.length + g.text.length < (pre ++ g.text).length := by simp
        simp [Array.getD_eq_getD_getElem?]
      rw [this]; exact hc
  refine rx_run (k1 := g.o.length) (kd := g.ds.length) (p1 := pre.length + g.o.length) (p2 := pre.length + g.o.length + 1) (e := pre.length + g.text.length) (by omega) (by simp) rfl rfl (by omega) hdl (by omega) ?_ ?_ ?_ ?_ (by omega)
  · intro s
    rcases h.o with e | e | e
    · rw [e] at atk ⊢
      obtain ⟨s', q⟩ := acc11_k g.k s
      exact ⟨s', run_f (n := 0) (by rw [show pre.length = pre.length + ([] : List Nat).length by simp, atk]; exact q)⟩
    · have a0 := at_ 0 (by omega)
      have : g.text[0]'(by omega) = 60 := by simp [Grp.text, e]
      rw [this, Nat.add_zero] at a0
      rw [e]
      obtain ⟨s', q⟩ := acc11_o 60 (.inl rfl) s
      exact ⟨s', by rw [run_s (n := 0) (by rw [a0]; exact q)]; rfl⟩
    · have a0 := at_ 0 (by omega)
      have : g.text[0]'(by omega) = 62 := by simp [Grp.text, e]
      rw [this, Nat.add_zero] at a0
      rw [e]
      obtain ⟨s', q⟩ := acc11_o 62 (.inr rfl) s
      exact ⟨s', by rw [run_s (n := 0) (by rw [a0]; exact q)]; rfl⟩
  · intro s
    rw [atk]
    exact acc23 g.k s
  · intro s
    have hT : ∀ i (hi : i < g.ds.length), ((pre ++ g.text ++ post).toArray).getD (pre.length + g.o.length + 1 + i) 0 = g.ds[i] := by
      intro i hi
      have hi' : g.o.length + 1 + i < g.text.length := by omega
      have h3 : g.text[g.o.length + 1 + i] = g.ds[i] := by
        have : g.text[g.o.length + 1 + i]? = some g.ds[i] := by
          unfold Grp.text
          rw [List.getElem?_append_right (by omega), show g.o.length + 1 + i - g.o.length = i + 1 by omega]
          simp [hi]
        rw [List.getElem?_eq_getElem hi'] at this
        exact Option.some.inj this
      rw [show pre.length + g.o.length + 1 + i = pre.length + (g.o.length + 1 + i) by omega, at_ _ hi', h3]
    have hC : (pre ++ g.text ++ post).length - (pre.length + g.o.length + 1) = g.ds.length ∨ Head (((pre ++ g.text ++ post).toArray).getD (pre.length + g.o.length + 1 + g.ds.length) 0) := by
      by_cases hne : post = []
      · left
        have : post.length = 0 := by rw [hne]; rfl
        omega
      · right; rw [show pre.length + g.o.length + 1 + g.ds.length = pre.length + g.text.length by omega]; exact post_at hne
    obtain ⟨s', q⟩ := run_digs (T := (pre ++ g.text ++ post).toArray) g.ds (pre.length + g.o.length + 1) 0 ((pre ++ g.text ++ post).length - (pre.length + g.o.length + 1)) s h.dg hT (by omega) hC
    exact ⟨s', by rw [q, Nat.zero_add]⟩
  · intro s
    rw [htot]
    by_cases hne : post = []
    · refine ⟨s, ?_⟩
      rw [hne, List.length_nil, Nat.add_zero, Nat.sub_self]; rfl
    · have : 0 < post.length := List.length_pos_iff.mpr hne
      obtain ⟨k, hk⟩ : ∃ k, pre.length + g.text.length + post.length - (pre.length + g.text.length) = k + 1 := ⟨post.length - 1, by omega⟩
      obtain ⟨s', q⟩ := acc54_h (post_at hne) s
      exact ⟨s', by rw [hk]; exact run_f q⟩
end
section
open PySem PySem.Sre PySem.W PyProof.Rows PySem.Calls Builtin Builtin.Re
inductive All2 {α β : Type} (R : α → β → Prop) : List α → List β → Prop
  | nil : All2 R [] []
  | cons {a : α} {b : β} {as : List α} {bs : List β} : R a b → All2 R as bs → All2 R (a :: as) (b :: bs)
theorem All2.snoc {α β : Type} {R : α → β → Prop} {as : List α} {bs : List β} (h : All2 R as bs) {a : α} {b : β} (r : R a b) : All2 R (as ++ [a]) (bs ++ [b]) := by
  induction h with
  | nil => exact .cons r .nil
  | cons r' _ ih => exact .cons r' ih
/-- the tuple of a found group -/
def GT (p : Addr × Obj) (g : Grp) : Prop := ∃ t1 t2 t3 t4, p.2 = tupOf [.str (S g.o) t1, .str (S [g.k.code]) t2, .str (S g.ds) t3, .str (S []) t4]
structure Found (h h' : Heap) (M : List (Addr × Obj)) (gs : List Grp) : Prop where
  stays : h.StaysIn h'
  all : ∀ p ∈ M, h'.get? p.1 = some p.2 ∧ h.get? p.1 = none
  nd : (M.map (·.1)).Nodup
  each : All2 GT M gs
def joinG (gs : List Grp) : List Nat := (gs.map Grp.text).flatten
theorem joinG_app (a b : List Grp) : joinG (a ++ b) = joinG a ++ joinG b := by simp [joinG]
theorem joinG_cons (g : Grp) (b : List Grp) : joinG (g :: b) = g.text ++ joinG b := by simp [joinG]

theorem rn_eq (v : Value) : reNamed "re.Pattern.findall" "findall" ["string", "pos", "endpos"] 1 [v] [] = pure [some v, none, none] := by kernel_rfl
theorem ex_at (pre l post : List Nat) (a b : Nat) (ha : a = pre.length) (hb : b = pre.length + l.length) : (⟨((pre ++ l ++ post).toArray).extract a b⟩ : PySem.Str) = S l := by
  subst ha hb
  simp [S]
section
variable {w : World} {A : Around} {E : Value → Shared → Prop} {z : Shared} {h : Heap} {t : Nat}
theorem wp_mgroup {T : ReTarget} {m : M} {g b e : Nat} {dflt : Sem Value} {l : List Nat} {Q : Value → Shared → Prop} (hk : T.kind = 0) (hl : ¬ ((2 * (g - 1) : Nat) : Int) ≥ m.lastmark) (h1 : m.marks.getD (2 * (g - 1)) none = some b) (h2 : m.marks.getD (2 * (g - 1) + 1) none = some e) (hle : ¬ e < b)
    (hx : (⟨T.text.extract b e⟩ : PySem.Str) = S l) (hz : l.length ≤ 100000) (q : Q (.str (S l) t) (mk z h (t + 1))) : wpAny (model Prg w) A (reMachineGroup T m g dflt) Q E (mk z h t) := by
  unfold reMachineGroup
  rw [if_neg hl, h1, h2]
  dsimp only
  rw [if_neg hle]
  unfold reSlice
  rw [hk]
  simp only [beq_self_eq_true, if_true]
  rw [hx]
  exact wpAny_mkStr q (by rw [S_len, sizeLine_eq]; omega)

/-- one found group's four texts -/
theorem wp_four {T : ReTarget} {m : M} {pre post : List Nat} {g : Grp} {dflt : Sem Value} {Q : List Value → Shared → Prop} (hk : T.kind = 0) (hT : T.text = (pre ++ g.text ++ post).toArray) (hlm : m.lastmark = 7) (hz : g.text.length ≤ 1000)
    (hm : m.marks = #[some pre.length, some (pre.length + g.o.length), some (pre.length + g.o.length), some (pre.length + g.o.length + 1), some (pre.length + g.o.length + 1), some (pre.length + g.text.length), some (pre.length + g.text.length), some (pre.length + g.text.length)])
    (q : ∀ t1 t2 t3 t4 t', Q [.str (S g.o) t1, .str (S [g.k.code]) t2, .str (S g.ds) t3, .str (S []) t4] (mk z h t')) :
    wpAny (model Prg w) A (List.mapM (fun i => reMachineGroup T m (i + 1) dflt) (List.range 4)) Q E (mk z h t) := by
  have hlen := g.len
  have e : List.mapM (fun i => reMachineGroup T m (i + 1) dflt) (List.range 4) = (do
      let a ← reMachineGroup T m 1 dflt
      let b ← reMachineGroup T m 2 dflt
      let c ← reMachineGroup T m 3 dflt
      let d ← reMachineGroup T m 4 dflt
      pure [a, b, c, d]) := by kernel_rfl
  rw [e]
  have x1 : T.text = (pre ++ g.o ++ (g.k.code :: g.ds ++ post)).toArray := by rw [hT]; simp [Grp.text]
  have x2 : T.text = ((pre ++ g.o) ++ [g.k.code] ++ (g.ds ++ post)).toArray := by rw [hT]; simp [Grp.text]
  have x3 : T.text = ((pre ++ g.o ++ [g.k.code]) ++ g.ds ++ post).toArray := by rw [hT]; simp [Grp.text]
  have x4 : T.text = ((pre ++ g.text) ++ [] ++ post).toArray := by rw [hT]; simp
  refine wpAny_bind (wp_mgroup (l := g.o) hk (by rw [hlm]; decide) (by rw [hm]; rfl) (by rw [hm]; rfl) (by omega) (by rw [x1]; exact ex_at _ _ _ _ _ rfl rfl) (by omega) ?_)
  refine wpAny_bind (wp_mgroup (l := [g.k.code]) hk (by rw [hlm]; decide) (by rw [hm]; rfl) (by rw [hm]; rfl) (by omega) (by rw [x2]; exact ex_at _ _ _ _ _ (by simp) (by simp <;> omega)) (by simp) ?_)
  refine wpAny_bind (wp_mgroup (l := g.ds) hk (by rw [hlm]; decide) (by rw [hm]; rfl) (by rw [hm]; rfl) (by omega) (by rw [x3]; exact ex_at _ _ _ _ _ (by simp <;> omega) (by simp <;> omega)) (by omega) ?_)
  refine wpAny_bind (wp_mgroup (l := []) hk (by rw [hlm]; decide) (by rw [hm]; rfl) (by rw [hm]; rfl) (by omega) (by rw [x4]; exact ex_at _ _ _ _ _ (by simp) (by simp)) (by simp) ?_)
  exact wpAny_pure (q _ _ _ _ _)
theorem All2.len {α β : Type} {R : α → β → Prop} {as : List α} {bs : List β} (h : All2 R as bs) : as.length = bs.length := by
  induction h with
  | nil => rfl
  | cons _ _ ih => simp [ih]
theorem join_ge : ∀ gs : List Grp, gs.length ≤ (joinG gs).length
  | [] => by simp
  | g :: gs => by
    have := join_ge gs
    have := g.len
    rw [joinG_cons, List.length_append, List.length_cons]; omega
theorem head_join {gs : List Grp} (h : ∀ g ∈ gs, g.Ok) : joinG gs = [] ∨ ∃ c r, joinG gs = c :: r ∧ Head c := by
  cases gs with
  | nil => exact .inl rfl
  | cons g gs =>
    obtain ⟨c, r, e, hc⟩ := Grp.head (h g (.head _))
    exact .inr ⟨c, r ++ joinG gs, by rw [joinG_cons, e]; rfl, hc⟩
theorem Found.push {h h' : Heap} {M : List (Addr × Obj)} {gs : List Grp} (F : Found h h' M gs) {g : Grp} {o : Obj} (ho : o.isFreed = false) (r : GT (h'.objs.size, o) g) : Found h (h'.push o) (M ++ [(h'.objs.size, o)]) (gs ++ [g]) := by
  have k : h'.StaysIn (h'.push o) := fun b x e => Heap.get?_push_of_some _ e
  refine ⟨fun b x e => k _ _ (F.stays _ _ e), fun p hp => ?_, ?_, F.each.snoc r⟩
  · rcases List.mem_append.mp hp with hp | hp
    · exact ⟨k _ _ (F.all p hp).1, (F.all p hp).2⟩
    · rw [List.mem_singleton.mp hp]
      refine ⟨Heap.get?_push_size _ ho, ?_⟩
      cases q : h.get? h'.objs.size with
      | none => rfl
      | some x => exact absurd (Heap.lt_size (F.stays _ _ q)) (Nat.lt_irrefl _)
  · rw [List.map_append, List.nodup_append]
    refine ⟨F.nd, by simp, fun a ha b hb => ?_⟩
    obtain ⟨p, hp, rfl⟩ := List.mem_map.mp ha
    simp only [List.map_cons, List.map_nil, List.mem_singleton] at hb
    have := Heap.lt_size (F.all p hp).1
    intro e
    rw [e, hb] at this
    exact Nat.lt_irrefl _ this
theorem k64 (w : World) : (KK w).lookup 64 = some { cls := .type "re.Pattern", data := .fields #[.str (Str.ofString "([<>]?)([a-zA-Z])(\\d+)(\\s*)") 399, .int 32 465, .int 4 0, .none, .none, .ref 63, .int 0 0] } := by kernel_rfl
theorem k63 (w : World) : ∃ items, (KK w).lookup 63 = some { cls := .type "tuple", data := .seq items } ∧ (items.map reRawOf).map (·.toNat) = RC := ⟨_, by rfl, by kernel_rfl⟩
theorem wp_target (X : (KK w).In h) {x : PySem.Str} {tx : Tok} (hx : x.cps.size ≤ 100000) {Q : ReTarget → Shared → Prop} (q : Q { pattern := .ref 64, string := .str x tx, code := RC, text := x.cps, kind := 0, groups := 4, pos := 0, lim := x.cps.size } (mk z h t)) :
    wpAny (model Prg w) A (reTarget "re.Pattern.findall" "findall" ⟨[.ref 64, .str x tx], []⟩) Q E (mk z h t) := by
  obtain ⟨items, hi, hc⟩ := k63 w
  unfold reTarget
  simp only [rn_eq]
  show wpAny _ _ (fieldsOf (.ref 64) >>= fun fs => _) _ _ _
  refine wpAny_bind (wpAny_fieldsOf (X _ _ (k64 w)) rfl ?_)
  have e1 : reTextOf (.str x tx) = pure (x.cps, 0) := rfl
  refine wpAny_bind (wpAny_of_eq e1 ?_)
  rw [if_neg (fun e => Bool.noConfusion e), if_neg (fun e => Bool.noConfusion e)]
  have e2 : reNoCollectionInside (.str x tx) (x.cps, 0).2 = pure () := rfl
  refine wpAny_bind (wpAny_of_eq e2 ?_)
  refine wpAny_bind ?_
  unfold reRawItems
  refine wpAny_bind (wpAny_seqItems (X _ _ hi) rfl (wpAny_pure (wpAny_pure ?_)))
  have el : Min.min (2 ^ 63 - 1 : Int).toNat x.cps.size = x.cps.size := by omega
  have ep : Min.min (Int.toNat 0) x.cps.size = 0 := by simp
  show Q { pattern := .ref 64, string := .str x tx, code := (items.map reRawOf).map (·.toNat), text := x.cps, kind := 0, groups := 4, pos := Min.min (Int.toNat 0) x.cps.size, lim := Min.min (2 ^ 63 - 1 : Int).toNat x.cps.size } _
  rw [hc, el, ep]
  exact q
set_option maxHeartbeats 2000000 in
theorem wp_findall {gs : List Grp} (hok : ∀ g ∈ gs, g.Ok) (hz : gs.length ≤ 10) (X : (KK w).In h) {tx : Tok} {QV : Value → Shared → Prop}
    (q : ∀ M h' t', Found h h' M gs → QV (.ref h'.objs.size) (mk z (h'.push (listOf (M.map fun p => Value.ref p.1).toArray 0)) t')) :
    wpAny (model Prg w) A («re.Pattern.findall» ⟨[.ref 64, .str (S (joinG gs)) tx], []⟩) (fun fin s' => ∃ v, fin = .done (.ret v) ∧ QV v s') E (mk z h t) := by
  have hlen : ∀ gs : List Grp, (∀ g ∈ gs, g.Ok) → (joinG gs).length ≤ 5 * gs.length := by
    intro gs
    induction gs with
    | nil => intro _; simp [joinG]
    | cons g gs ih =>
      intro h
      have h1 := h g (.head _)
      have h2 := ih fun g hg => h g (.tail _ hg)
      have h3 := g.len
      have h4 : g.o.length ≤ 1 := by rcases h1.o with e | e | e <;> rw [e] <;> simp
      have h5 := h1.ln
      rw [joinG_cons, List.length_append, List.length_cons]; omega
  have hL := hlen gs hok
  unfold «re.Pattern.findall»
  simp only []
  have hsz : (S (joinG gs)).cps.size ≤ 100000 := by simp [S]; omega
  refine wpAny_bind (wp_target X hsz ?_)
  generalize hT : ({ pattern := .ref 64, string := .str (S (joinG gs)) tx, code := RC, text := (S (joinG gs)).cps, kind := 0, groups := 4, pos := 0, lim := (S (joinG gs)).cps.size } : ReTarget) = T
  have hk : T.kind = 0 := by rw [← hT]
  have hg : T.groups = 4 := by rw [← hT]
  have hx : T.text = (joinG gs).toArray := by rw [← hT]; rfl
  have hl : T.lim = (joinG gs).length := by rw [← hT]; simp [S]
  have hcd : T.code = RC := by rw [← hT]
  have hp : T.pos = 0 := by rw [← hT]
  refine wpAny_bind (wpAny_forIn_list _ (fun rest b s' => (∃ done todo M h' t' , gs = done ++ todo ∧ todo.length < rest.length ∧ Found h h' M done ∧ s' = mk z h' t' ∧ b = ((M.map fun p => Value.ref p.1).toArray, (joinG done).length, false, false)) ∨
    (∃ M h' t' x y, Found h h' M gs ∧ s' = mk z h' t' ∧ b = ((M.map fun p => Value.ref p.1).toArray, x, y, true))) _ ?_ ?_ _ _ (.inl ⟨[], gs, [], h, t, rfl, ?_, ⟨fun _ _ e => e, fun _ hp => (nomatch hp), List.nodup_nil, .nil⟩, rfl, ?_⟩))
  · rintro i rest b s' (⟨done, todo, M, h', t', rfl, hlt, F, rfl, rfl⟩ | ⟨M, h', t', x, y, F, rfl, rfl⟩)
    · simp only [Bool.not_false, if_true]
      have hok1 : ∀ g ∈ done, g.Ok := fun g hg => hok g (List.mem_append_left _ hg)
      have hok2 : ∀ g ∈ todo, g.Ok := fun g hg => hok g (List.mem_append_right _ hg)
      cases todo with
      | nil =>
        rw [List.append_nil] at hx hl
        rw [if_neg (by rw [hl]; omega)]
        obtain ⟨m, hm, ho⟩ := rx_end (T := T.text) (n := (joinG done).length)
        unfold reNextFound
        rw [hcd, hg, hl]
        refine wpAny_bind (wp_toEndF hm (by decide) ho ?_)
        exact wpAny_pure (.inr ⟨M, h', t', _, _, by rw [List.append_nil]; exact F, rfl, rfl⟩)
      | cons g todo =>
        have hgok := hok2 g (.head _)
        have ht : joinG (done ++ g :: todo) = joinG done ++ g.text ++ joinG todo := by rw [joinG_app, joinG_cons, List.append_assoc]
        rw [ht] at hx hl hL
        have hdl : (joinG done).length ≤ (joinG done ++ g.text ++ joinG todo).length := by simp
        rw [if_neg (by rw [hl]; omega)]
        obtain ⟨m, hm, ho, hs, hh, hlm, hmk⟩ := rx_group (pre := joinG done) (post := joinG todo) hgok (head_join fun g' hg' => hok2 g' (.tail _ hg')) (by omega)
        unfold reNextFound
        rw [hcd, hg, hl, hx]
        refine wpAny_bind (wp_toEnd hm (by decide) ho ?_)
        show wpAny _ _ (List.mapM (fun i => reMachineGroup T m (i + 1) (reSlice (joinG done ++ g.text ++ joinG todo).toArray T.kind 0 0)) (List.range 4) >>= _) _ _ _
        have hgl : g.text.length ≤ 1000 := by
          have : (joinG done ++ g.text ++ joinG todo).length = (joinG done).length + g.text.length + (joinG todo).length := by simp; omega
          omega
        refine wpAny_bind (wp_four hk hx hlm hgl hmk fun t1 t2 t3 t4 t5 => ?_)
        refine wpAny_bind (wpAny_newTuple (s := mk z h' t5) ?_ (by rw [sizeLine_eq]; simp))
        refine wpAny_pure (.inl ⟨done ++ [g], todo, _, _, t5, by simp, by simp at hlt; omega, F.push (o := tupOf [.str (S g.o) t1, .str (S [g.k.code]) t2, .str (S g.ds) t3, .str (S []) t4]) rfl ⟨t1, t2, t3, t4, rfl⟩, rfl, ?_⟩)
        have hne : (m.handed == m.start) = false := by
          rw [hh, hs]
          have := g.len
          exact beq_false_of_ne (by omega)
        have hj : (joinG (done ++ [g])).length = (joinG done).length + g.text.length := by rw [joinG_app]; simp [joinG]
        rw [hne, hh, hj, List.map_append, List.push_toArray]
        rfl
    · simp only [Bool.not_true, Bool.false_eq_true, if_false]
      exact wpAny_pure (.inr ⟨M, h', t', x, y, F, rfl, rfl⟩)
  · rintro b s' (⟨done, todo, M, h', t', rfl, hlt, F, rfl, rfl⟩ | ⟨M, h', t', x, y, F, rfl, rfl⟩)
    · simp at hlt
    · simp only [Bool.not_true, Bool.false_eq_true, if_false]
      refine wpAny_bind (wpAny_newList (s := mk z h' t') ?_ ?_)
      · exact wpAny_pure ⟨_, rfl, q M h' t' F⟩
      · have := F.each.len
        rw [sizeLine_eq]; simp; omega
  · have := join_ge gs
    unfold reMostMatches
    rw [hx]; simp; omega
  · rw [hp]; rfl
end
end
section
open PySem PySem.W PyProof.Rows PySem.Calls
theorem re_attrs : PlainAttrs "re.Pattern" :=
  ⟨⟨"object.__getattribute__", by rw [typeLookup_type, builtinLookup_eq_fast]; kernel_rfl, by decide +kernel⟩, by rw [typeLookup_type, builtinLookup_eq_fast]; kernel_rfl⟩
theorem re_slot : Slot "re.Pattern" "findall" "re.Pattern.findall" :=
  .of (owner := "re.Pattern") (n := "findall") (by rw [typeLookup_type, builtinLookup_eq_fast]; kernel_rfl) (by decide +kernel) (by decide +kernel) (by decide +kernel)
    (by first | exact .inl (by decide +kernel) | exact .inr (by decide +kernel)) (by rw [isSubtype_type]; kernel_rfl)
theorem re_type : typeOf (.builtin "re.Pattern.findall") = pure (.type "method_descriptor") := by show builtinType _ = _; rw [builtinType_eq_fast]; kernel_rfl
theorem re_entry : entryFor table "re.Pattern.findall" = some Builtin.«re.Pattern.findall» := entryFor_of_tree (by kernel_rfl)
theorem re_args (a b : Value) : argsOk "re.Pattern.findall" ⟨[a, b], []⟩ := by unfold argsOk; kernel_rfl
theorem gv_re (w : World) : GV w "_twin_re_1" (.ref 64) := ⟨by kernel_rfl⟩
section
variable {w : World} {A : Around} {E : Value → Shared → Prop} {z : Shared} {h h₀ : Heap} {t : Nat} {L : Addr}
  {ns : List Str} {vs : List (Option Value)} {N : List (Addr × Obj)} {QV : Value → Shared → Prop} {QP : Value × List Value → Shared → Prop} {pl : Sem Bool}
theorem m_findall (S : St w h₀ L ns vs N h) (k : QP (.builtin "re.Pattern.findall", [.ref 64]) (mk z h t)) : wpAny (model Prg w) A (getMethod (.ref 64) "findall" pl) QP E (mk z h t) :=
  getMethod_builtin (s := mk z h t) ⟨_, S.G.X _ _ (k64 w), rfl⟩ re_attrs re_slot re_type (fun a e => by cases e; exact ⟨_, S.G.X _ _ (k64 w), rfl⟩) k
theorem All2.nodup_snoc {M : List (Addr × Obj)} {l : Addr} {h h' : Heap} {gs : List Grp} (F : Found h h' M gs) (hl : l = h'.objs.size) : (l :: M.map (·.1)).Nodup :=
  List.nodup_cons.mpr ⟨fun q => by
    obtain ⟨p, hp, e⟩ := List.mem_map.mp q
    have := Heap.lt_size (F.all p hp).1
    rw [e, hl] at this
    exact Nat.lt_irrefl _ this, F.nd⟩
theorem v_findall {gs : List Grp} (hok : ∀ g ∈ gs, g.Ok) (hz : gs.length ≤ 10) (S : St w h₀ L ns vs N h) {tx : Tok}
    (q : ∀ M l h' t', All2 GT M gs → St w h₀ L ns vs ((l, listOf (M.map fun p => Value.ref p.1).toArray 0) :: (M ++ N)) h' → QV (.ref l) (mk z h' t')) :
    wpAny (model Prg w) A (call (.builtin "re.Pattern.findall") [.ref 64, .str (Mine.S (joinG gs)) tx]) QV E (mk z h t) := by
  refine wpAny_call_entry re_slot (s := mk z h t) ⟨_, S.G.X _ _ (k64 w), rfl⟩ re_entry ?_ (re_args _ _)
  refine wp_findall hok hz S.G.X fun M h' t' F => ?_
  have S1 := S.adds F.stays M F.all F.nd
  exact q M _ _ t' F.each (S1.push _)
end
end
section
open PySem PySem.W PyProof.Rows PySem.Calls
section
variable {w : World} {A : Around} {E : Value → Shared → Prop} {z : Shared} {h h₀ : Heap} {t : Nat} {L : Addr} {env : Env} {s : Shared}
  {ns gs : List Str} {vs vs' : List (Option Value)} {N N' : List (Addr × Obj)} {QV : Value → Shared → Prop} {Q : Flow → Shared → Prop} {rest : List Stmt}

/-- a base for an inner frame: all but the ledger's objects; and the way back -/
theorem St.ground (S : St w h₀ L ns vs N h) : ∃ g, Gl w g ∧ g.StaysIn h ∧ g.objs.size = h.objs.size ∧ (∀ p ∈ N, h.get? p.1 = some p.2 ∧ g.get? p.1 = none) ∧ h₀.StaysIn g ∧ (∃ o, g.get? L = some o) ∧
    ∀ {C : Addr} {nsC : List Str} {vsC : List (Option Value)} {N' : List (Addr × Obj)} {h' : Heap}, St w g C nsC vsC N' h' → St w h₀ L ns vs N' h' := by
  have hn : ∀ b o, h₀.get? b = some o → b ∉ N.map (·.1) := fun b o e q => by
    obtain ⟨p, hp, rfl⟩ := List.mem_map.mp q
    rw [(S.W p hp).2.2] at e; cases e
  have hL : L ∉ N.map (·.1) := fun q => by
    obtain ⟨p, hp, e⟩ := List.mem_map.mp q
    exact (S.W p hp).2.1 e
  have k0 : h₀.StaysIn (hideAll h (N.map (·.1))) := fun b o e => hideAll_get _ (S.F.keep _ _ e) (hn b o e)
  have hLo : ∀ o, h.get? L = some o → (hideAll h (N.map (·.1))).get? L = some o := fun o e => hideAll_get _ e hL
  obtain ⟨oL, hLe⟩ : ∃ o, h.get? L = some o := by obtain ⟨oL, _, _, e, _⟩ := S.F.ns; exact ⟨oL, e⟩
  refine ⟨hideAll h (N.map (·.1)), S.G₀.keeps k0, fun b o e => of_hideAll _ e, hideAll_size _ _, fun p hp => ⟨(S.W p hp).1, hideAll_none _ (List.mem_map_of_mem hp)⟩, k0, ⟨oL, hLo _ hLe⟩, fun {C nsC vsC N' h'} S' => ?_⟩
  refine ⟨⟨S.F.ns.at' fun o e => S'.F.keep _ _ (hLo o e), fun b o e => S'.F.keep _ _ (k0 _ _ e), S.F.above⟩, fun p hp => ⟨(S'.W p hp).1, fun e => ?_, ?_⟩, S.G₀, S'.nd, S.len⟩
  · have := (S'.W p hp).2.2
    rw [show p.1 = L from e, hLo _ hLe] at this; cases this
  · cases q : h₀.get? p.1 with
    | none => rfl
    | some o => have := (S'.W p hp).2.2; rw [k0 _ _ q] at this; cases this
theorem St.but (S : St w h₀ L ns vs N h) {h' : Heap} {C : Addr} (hb : Heap.SameBut C h h') (hL : C ≠ L) (hN : ∀ p ∈ N, p.1 ≠ C) (h0 : h₀.get? C = none) : St w h₀ L ns vs N h' := by
  have k : ∀ b o, b ≠ C → h.get? b = some o → h'.get? b = some o := fun b o hne e => (hb.2 b hne).trans e
  exact ⟨⟨S.F.ns.at' fun o e => k _ _ hL.symm e, fun b o e => k b o (fun q => by rw [q, h0] at e; cases e) (S.F.keep b o e), S.F.above⟩, fun p hp => ⟨k _ _ (hN p hp) (S.W p hp).1, (S.W p hp).2⟩, S.G₀, S.nd, S.len⟩

/-- the scope of a comprehension under the names of its surroundings -/
structure ScC (scope : Scope) (env : Env) (nsC gsC : List Str) : Prop where
  kind : scope.kind = .function
  nodup : nsC.Nodup
  loc : ∀ x ∈ nsC, (relabel scope env).names.lookup x = some .local
  glo : ∀ x ∈ gsC, (relabel scope env).names.lookup x = some .globalImplicit
  dbg : ∀ x ∈ nsC, (x == ("__debug__" : Str)) = false
  dbg' : ∀ x ∈ gsC, (x == ("__debug__" : Str)) = false
  cell : ∀ x ∈ scope.names, x.2 ≠ .cell
  names : ∀ y ∈ scope.names, y.2 = .local → scope.names.lookup y.1 = some .local

/-- one turn's leavings: the list is longer by a value, or (with a test) not -/
def CTurned (w : World) (z : Shared) (g : Heap) (C : Addr) (nsC : List Str) (IO : Addr × Obj) (D : Addr) (c : Nat) (its : List Value) (Inv : List Value → List (Addr × Obj) → Prop) (y : Value) (s : Shared) : Prop :=
  ∃ vsC N h t, s = mk z h t ∧ St w g C nsC vsC (IO :: (D, listOf its.toArray c) :: N) h ∧ Inv (its ++ [y]) N
def CSkipped (w : World) (z : Shared) (g : Heap) (C : Addr) (nsC : List Str) (IO : Addr × Obj) (D : Addr) (c : Nat) (its : List Value) (Inv : List Value → List (Addr × Obj) → Prop) (s : Shared) : Prop :=
  ∃ vsC N h t, s = mk z h t ∧ St w g C nsC vsC (IO :: (D, listOf its.toArray c) :: N) h ∧ Inv its N

theorem comp_loop {elt iter : Expr} {x : Str} {px : Pos} {ifs : List Expr} {scope : Scope} {pos : Pos} {I D C : Addr} {fp : List Addr} {n : Nat} {P : Nat → Value → Prop} {Stt : Nat → Heap → Prop} {cenv : Env} {g : Heap} {nsC gsC : List Str} {j : Nat} {vsC : List (Option Value)} {R : Result → Shared → Prop}
    (Cf : Fn cenv C nsC gsC) (W : Walks Prg w A I fp [I] n P Stt) (hn : n ≤ 1000000) (hI : ∀ i h, Stt i h → ∃ o, h.get? I = some o)
    (old : List (Addr × Obj)) (hfp : ∀ b ∈ fp, b = I ∨ (∃ o, g.get? b = some o) ∨ ∃ o, (b, o) ∈ old)
    (Inv : Nat → List Value → List (Addr × Obj) → Prop) (hold : ∀ i its N, Inv i its N → ∀ p ∈ old, p ∈ N) (hlen : ∀ i its N, Inv i its N → its.length ≤ i)
    (hj : Idx nsC j x) (hgo : ∀ v, letOwnedTupleGo (.Name x px) (.ref I) v = pure ())
    (S : St w g C nsC vsC ((D, listOf ([] : List Value).toArray 0) :: N) h) (hnew : g.get? I = none) (hIC : I ≠ C) (hID : I ≠ D) (hIN : ∀ p ∈ N, p.1 ≠ I) (st : Stt 0 h) (h0 : Inv 0 [] N)
    (step : ∀ i v its N h t (vsC : List (Option Value)) o c, i < n → P i v → Inv i its N → St w g C nsC (vsC.set j (some v)) ((I, o) :: (D, listOf its.toArray c) :: N) h →
      wpAny (model Prg w) A (forIn ifs true fun c r => if r = true then do let ok ← isTrue c cenv (eval c cenv); pure (ForInStep.yield ok) else pure (ForInStep.yield r))
        (fun ok s₁ => if ok = true then wpAny (model Prg w) A (eval elt cenv) (CTurned w z g C nsC (I, o) D c its (Inv (i + 1))) NoE s₁ else CSkipped w z g C nsC (I, o) D c its (Inv (i + 1)) s₁) NoE (mk z h t))
    (done : ∀ its N h t c vsC, Inv n its N → St w g C nsC vsC ((D, listOf its.toArray c) :: N) h → R (.ok .next) (mk z h t)) :
    codeAny (model Prg w) A (.compLoop (.ListComp elt [⟨.Name x px, iter, ifs, 0⟩] scope pos) 0 (.ref I) (.ref D) cenv) R (mk z h t) := by
  obtain rfl := Cf.locals
  refine codeAny_compLoop_tests
    (fun k s' => ∃ i its c vsC N h t, s' = mk z h t ∧ Stt i h ∧ St w g cenv.locals nsC vsC ((D, listOf its.toArray c) :: N) h ∧ (∀ p ∈ N, p.1 ≠ I) ∧ Inv i its N ∧ i ≤ n ∧ k = n + 1 - i) ?_ (n + 1)
    ⟨0, [], 0, vsC, N, h, t, rfl, st, S, hIN, h0, Nat.zero_le _, rfl⟩ hgo
  rintro k s' ⟨i, its, c, vsC, N, h, t, rfl, st, S, hIN, hJ, hi, rfl⟩
  have next : ∀ h₁ : Heap, (∀ b o, b ∉ [I] → h.get? b = some o → h₁.get? b = some o) → St w g cenv.locals nsC vsC ((D, listOf its.toArray c) :: N) h₁ := fun h₁ hk =>
    ⟨⟨S.F.ns.at' fun o e => hk _ o (by simpa using hIC.symm) e, fun b o e => hk b o (by intro q; rw [List.mem_singleton.mp q, hnew] at e; cases e) (S.F.keep b o e), S.F.above⟩,
     fun p hp => ⟨hk _ _ (by
      rcases List.mem_cons.mp hp with rfl | hp
      · simpa using hID.symm
      · simpa using hIN p hp) (S.W p hp).1, (S.W p hp).2⟩, S.G₀, S.nd, S.len⟩
  by_cases hlt : i < n
  · refine W.item i _ _ _ hlt st fun v h₁ tk₁ hP st₁ hk₁ => ?_
    have S₁ := next h₁ hk₁
    obtain ⟨o, ho⟩ := hI _ _ st₁
    have hIN' : ∀ p ∈ ((D, listOf its.toArray c) :: N), p.1 ≠ I := fun p hp => by
      rcases List.mem_cons.mp hp with rfl | hp
      · exact hID.symm
      · exact hIN p hp
    have S₂ : St w g cenv.locals nsC vsC ((I, o) :: (D, listOf its.toArray c) :: N) h₁ := ⟨S₁.F, fun p hp => by
      rcases List.mem_cons.mp hp with rfl | hp
      · exact ⟨ho, hIC, hnew⟩
      · exact S₁.W p hp, S₁.G₀, List.nodup_cons.mpr ⟨fun q => by
        obtain ⟨p, hp, e⟩ := List.mem_map.mp q
        exact hIN' p hp e, S.nd⟩, S₁.len⟩
    have back : ∀ {its' : List Value} {c' : Nat} {vs' : List (Option Value)} {N' : List (Addr × Obj)} {h' : Heap} {t' : Nat}, St w g cenv.locals nsC vs' ((I, o) :: (D, listOf its'.toArray c') :: N') h' → Inv (i + 1) its' N' →
        ∃ m, m < n + 1 - i ∧ ∃ i its c vsC N h t, mk z h' t' = mk z h t ∧ Stt i h ∧ St w g cenv.locals nsC vsC ((D, listOf its.toArray c) :: N) h ∧ (∀ p ∈ N, p.1 ≠ I) ∧ Inv i its N ∧ i ≤ n ∧ m = n + 1 - i := by
      intro its' c' vs' N' h' t' S' J'
      refine ⟨n + 1 - (i + 1), by omega, i + 1, its', c', vs', N', h', t', rfl, ?_, S'.tail, ?_, J', hlt, rfl⟩
      · refine W.frame _ _ _ st₁ fun b hb o' e => ?_
        rcases hfp b hb with rfl | ⟨o₀, q⟩ | ⟨o₀, q⟩
        · rw [ho] at e; cases e
          exact (S'.W _ (.head _)).1
        · have e1 := S₁.F.keep b o₀ q
          rw [e] at e1; cases e1
          exact S'.F.keep b _ q
        · have e1 := (S₁.W _ (.tail _ (hold i its N hJ _ q))).1
          rw [show h₁.get? b = some o' from e] at e1; cases e1
          exact (S'.W _ (.tail _ (.tail _ (hold (i + 1) its' N' J' _ q)))).1
      · intro p hp q
        exact (List.nodup_cons.mp S'.nd).1 (List.mem_map.mpr ⟨p, .tail _ hp, q⟩)
    show wpAny (model Prg w) A (assign (.Name x px) cenv v) _ _ _
    refine PyProof.Rows.assign_Name ?_
    refine x_store Cf S₂ (put_set _ hj.get S₂.len Cf.nodup) fun h₂ t₂ S₃ => ?_
    refine no_raise (wpAny_mono (step i v its N h₂ t₂ vsC o c hlt hP hJ S₃) (fun ok s₄ q => ?_) fun _ _ e => e)
    cases ok with
    | false =>
      obtain ⟨vs', N', h', t', rfl, S', J'⟩ := (show CSkipped w z g cenv.locals nsC (I, o) D c its (Inv (i + 1)) s₄ from q)
      simp only [Bool.false_eq_true, if_false]
      exact back S' J'
    | true =>
      simp only [if_true] at q ⊢
      refine no_raise (wpAny_mono q (fun y s₅ q => ?_) fun _ _ e => e)
      obtain ⟨vs', N', h', t', rfl, S', J'⟩ := q
      have hl := hlen _ _ _ J'
      simp only [List.length_append, List.length_singleton] at hl
      refine v_append S' (.next .here) (by rw [sizeLine_eq]; omega) fun h₆ S₆ => ?_
      exact back S₆ J'
  · have hin : i = n := by omega
    subst hin
    refine W.done _ _ _ st fun h₁ tk₁ hk₁ => ?_
    exact done its N h₁ tk₁ c vsC hJ (next h₁ hk₁)
/-- a comprehension's loop over an iterator just made -/
def CompW (w : World) (A : Around) (z : Shared) (h₀ : Heap) (L : Addr) (env : Env) (ns : List Str) (nsC gsC : List Str) (j : Nat) (scope : Scope) (cl : List (Str × Addr)) (ifs : List Expr) (elt : Expr) (QV : Value → Shared → Prop) (it : Value) (s₂ : Shared) : Prop :=
  ∃ (I : Addr) (fp : List Addr) (n : Nat) (P : Nat → Value → Prop) (Stt : Nat → Heap → Prop) (h : Heap) (t : Nat) (vs : List (Option Value)) (N old : List (Addr × Obj)) (Inv : Nat → List Value → List (Addr × Obj) → Prop),
    it = .ref I ∧ s₂ = mk z h t ∧ Walks Prg w A I fp [I] n P Stt ∧ n ≤ 1000000 ∧ (∀ i h, Stt i h → ∃ o, h.get? I = some o) ∧ Stt 0 h ∧ St w h₀ L ns vs N h ∧ h₀.get? I = none ∧ I ≠ L ∧ (∀ p ∈ N, p.1 ≠ I) ∧
    (∀ b ∈ fp, b = I ∨ (∃ o, h₀.get? b = some o) ∨ ∃ o, (b, o) ∈ old) ∧ (∀ i its N, Inv i its N → ∀ p ∈ old, p ∈ N) ∧ (∀ i its N, Inv i its N → its.length ≤ i) ∧ Inv 0 [] N ∧
    (∀ g C cenv D (vsC : List (Option Value)) i v its N h t o c, cenv = compEnvC scope cl C env → Fn cenv C nsC gsC → i < n → P i v → Inv i its N → vsC.length = nsC.length → h₀.StaysIn g → St w g C nsC (vsC.set j (some v)) ((I, o) :: (D, listOf its.toArray c) :: N) h →
      wpAny (model Prg w) A (forIn ifs true fun c r => if r = true then do let ok ← isTrue c cenv (eval c cenv); pure (ForInStep.yield ok) else pure (ForInStep.yield r))
        (fun ok s₁ => if ok = true then wpAny (model Prg w) A (eval elt cenv) (CTurned w z g C nsC (I, o) D c its (Inv (i + 1))) NoE s₁ else CSkipped w z g C nsC (I, o) D c its (Inv (i + 1)) s₁) NoE (mk z h t)) ∧
    (∀ its N h t D c, Inv n its N → St w h₀ L ns vs ((D, listOf its.toArray c) :: N) h → QV (.ref D) (mk z h t))
theorem e_listcomp {elt iter : Expr} {x : Str} {px : Pos} {ifs : List Expr} {scope : Scope} {pos : Pos} {cl : List (Str × Addr)} (nsC gsC : List Str) {j : Nat} (Cf : Fn env L ns gs) (Sc : ScC scope env nsC gsC) (hcl : closureFor scope env = pure cl) (hj : Idx nsC j x)
    (hs : ∀ x, foldedSetIterable iter env x = pure x) (hgo : ∀ I v, letOwnedTupleGo (.Name x px) (.ref I) v = pure ())
    (k : wpAny (model Prg w) A (eval iter env) (fun xv s₁ => wpAny (model Prg w) A (pyIter xv) (CompW w A z h₀ L env ns nsC gsC j scope cl ifs elt QV) NoE s₁) NoE (mk z h t)) :
    wpAny (model Prg w) A (eval (.ListComp elt [⟨.Name x px, iter, ifs, 0⟩] scope pos) env) QV NoE (mk z h t) := by
  rw [eval_ListComp]
  refine wpAny_comprehension_free (use := none) rfl hs hcl Sc.kind Sc.names (wpAny_mono k (fun xv s₁ k1 => wpAny_mono k1 (fun it s₂ q => ?_) fun _ _ e => e) fun _ _ e => e)
  obtain ⟨I, fp, n, P, Stt, h, t, vs, N, old, Inv, rfl, rfl, W, hn, hI, st, S, hI0, hIL, hIN, hfp, hold, hlen, h0, step, done⟩ := q
  obtain ⟨oI, hoI⟩ := hI _ _ st
  have S' : St w h₀ L ns vs ((I, oI) :: N) h := ⟨S.F, fun p hp => by
    rcases List.mem_cons.mp hp with rfl | hp
    · exact ⟨hoI, hIL, hI0⟩
    · exact S.W p hp, S.G₀, List.nodup_cons.mpr ⟨fun q => by
      obtain ⟨p, hp, e⟩ := List.mem_map.mp q
      exact hIN p hp e, S.nd⟩, S.len⟩
  obtain ⟨g, Gg, gst, gsz, gN, g0, ⟨oL, gL⟩, back⟩ := S'.ground
  refine wpAny_newObj_type (s := mk z h t) (wpAny_newFunctionEnv Sc.cell (by intro y hy; simp at hy) (fun h₁ hns₁ hsb₁ => ?_) Sc.kind) (by show ([] : List Value).toArray.size ≤ sizeLine; rw [sizeLine_eq]; simp)
  dsimp only at hns₁ hsb₁ ⊢
  have hC : (h.push (listOf ([] : List Value).toArray 0)).objs.size = h.objs.size + 1 := Heap.size_push ..
  have hlt : ∀ {b o}, h.get? b = some o → b ≠ h.objs.size + 1 ∧ b ≠ h.objs.size := fun e => ⟨Nat.ne_of_lt (Nat.lt_succ_of_lt (Heap.lt_size e)), Nat.ne_of_lt (Heap.lt_size e)⟩
  have old' : ∀ b o, h.get? b = some o → h₁.get? b = some o := fun b o e => by
    refine hsb₁.extBut b o ?_ (Heap.get?_push_of_some _ (Heap.get?_push_of_some _ e))
    show b ≠ (h.push (listOf ([] : List Value).toArray 0)).objs.size
    rw [hC]; exact (hlt e).1
  have gnone : ∀ a, h.objs.size ≤ a → g.get? a = none := fun a ha => Heap.get?_none_of_le (by rw [gsz]; exact ha)
  have hDn : h₁.get? h.objs.size = some (listOf ([] : List Value).toArray 0) := by
    refine hsb₁.extBut _ _ ?_ (Heap.get?_push_of_some _ (Heap.get?_push_size _ rfl))
    show h.objs.size ≠ (h.push (listOf ([] : List Value).toArray 0)).objs.size
    rw [hC]; omega
  have Fc : Fn (compEnvC scope cl (h.push (listOf ([] : List Value).toArray 0)).objs.size env) (h.push (listOf ([] : List Value).toArray 0)).objs.size nsC gsC :=
    ⟨Sc.kind, Sc.nodup, Sc.loc, Sc.glo, Sc.dbg, Sc.dbg', rfl, Cf.globals, Cf.builtins, rfl⟩
  have Si : St w g (h.push (listOf ([] : List Value).toArray 0)).objs.size nsC (initL [] nsC) ((h.objs.size, listOf ([] : List Value).toArray 0) :: N) h₁ := by
    refine ⟨⟨by rw [initL_nil]; exact hns₁, fun b o e => old' b o (gst b o e), by rw [gsz, hC]; omega⟩, fun p hp => ?_, Gg, List.nodup_cons.mpr ⟨fun q => ?_, S.nd⟩, initL_len _ _⟩
    · rcases List.mem_cons.mp hp with rfl | hp
      · exact ⟨hDn, by rw [hC]; show h.objs.size ≠ _; omega, gnone _ (Nat.le_refl _)⟩
      · have := gN p (.tail _ hp)
        exact ⟨old' _ _ this.1, by rw [hC]; exact (hlt this.1).1, this.2⟩
    · obtain ⟨p, hp, e⟩ := List.mem_map.mp q
      exact (hlt (S.W p hp).1).2 e
  have st₁ : Stt 0 h₁ := W.frame _ _ _ st fun b _ o e => old' b o e
  have loop : ∀ t', codeAny (model Prg w) A (.compLoop (.ListComp elt [⟨.Name x px, iter, ifs, 0⟩] scope pos) 0 (.ref I) (.ref h.objs.size) (compEnvC scope cl (h.push (listOf ([] : List Value).toArray 0)).objs.size env))
      (compPost (model Prg w) A NoE none QV (.ref h.objs.size) (h.push (listOf ([] : List Value).toArray 0)).objs.size) (mk z h₁ t') := by
    intro t'
    refine comp_loop Fc W hn hI old (fun b hb => ?_) Inv hold hlen hj (hgo I) Si (gN _ (.head _)).2 (by rw [hC]; exact (hlt hoI).1) (hlt hoI).2 hIN st₁ h0 ?_ ?_
    · rcases hfp b hb with e | ⟨o, e⟩ | e
      · exact .inl e
      · exact .inr (.inl ⟨o, g0 _ _ e⟩)
      · exact .inr (.inr e)
    · intro i v its N h' t vsC o c hi hP hJ S₂
      exact step g _ _ _ _ i v its N h' t o c rfl Fc hi hP hJ (by have := S₂.len; simpa using this) g0 S₂
    · intro its N h' t c vsC hJ S₂
      have S₃ := back S₂
      refine ⟨_, S₂.F.ns, fun h'' hb => done its N h'' t _ c hJ (S₃.but hb ?_ ?_ ?_)⟩
      · intro e
        have := (hlt (gst _ _ gL)).1
        rw [hC] at e; exact this e.symm
      · intro p hp e
        exact (S₂.W p hp).2.1 e
      · cases q : h₀.get? (h.push (listOf ([] : List Value).toArray 0)).objs.size with
        | none => rfl
        | some o => have := (hlt (gst _ _ (g0 _ _ q))).1; rw [hC] at this; exact absurd rfl this
  exact codeAny_compStart_list (loop _) (W.self 0 _ _ _ st₁ (loop _))
end
end
section
open PySem PySem.W PyProof.Rows PySem.Calls
section
variable {w : World} {A : Around} {E : Value → Shared → Prop} {z : Shared} {h h₀ : Heap} {t : Nat} {L : Addr} {env : Env} {s : Shared}
  {ns gs : List Str} {vs vs' : List (Option Value)} {N N' : List (Addr × Obj)} {QV : Value → Shared → Prop} {Q : Flow → Shared → Prop} {rest : List Stmt}

/-- an iterator just made over a source of n values -/
def Iter0 (w : World) (A : Around) (z : Shared) (h₀ : Heap) (L : Addr) (ns : List Str) (vs : List (Option Value)) (N old : List (Addr × Obj)) (n : Nat) (P : Nat → Value → Prop) (it : Value) (s₂ : Shared) : Prop :=
  ∃ (I : Addr) (fp : List Addr) (Stt : Nat → Heap → Prop) (h : Heap) (t : Nat), it = .ref I ∧ s₂ = mk z h t ∧ Walks Prg w A I fp [I] n P Stt ∧ (∀ i h, Stt i h → ∃ o, h.get? I = some o) ∧ Stt 0 h ∧ St w h₀ L ns vs N h ∧
    h₀.get? I = none ∧ I ≠ L ∧ (∀ p ∈ N, p.1 ≠ I) ∧ (∀ b ∈ fp, b = I ∨ (∃ o, h₀.get? b = some o) ∨ ∃ o, (b, o) ∈ old)
theorem it_list {l : Addr} {its : List Value} {c : Nat} (r : A.handled = none) (S : St w h₀ L ns vs N h) (hm : (l, listOf its.toArray c) ∈ N) :
    wpAny (model Prg w) A (pyIter (.ref l)) (Iter0 w A z h₀ L ns vs N [(l, listOf its.toArray c)] its.length (fun i v => its[i]? = some v)) NoE (mk z h t) := by
  have hl := isList_of S hm
  refine wpAny_pyIter_list (s := mk z h t) hl ?_
  have S₂ := S.push { cls := .type "list_iterator", data := .fields #[.ref l, .int 0 0] }
  have hne : l ≠ h.objs.size := Nat.ne_of_lt (Heap.lt_size (S.W _ hm).1)
  have W := Walks.list (prog := Prg) (w := w) r h.objs.size l hne its.toArray
  simp only [List.size_toArray, List.getElem?_toArray] at W
  exact ⟨h.objs.size, _, _, _, t, rfl, rfl, W, fun i h q => by obtain ⟨⟨o, ho, _⟩, _⟩ := q; exact ⟨o, ho⟩, ⟨⟨_, (S₂.W _ (.head _)).1, rfl, rfl⟩, isList_of S₂ (.tail _ hm)⟩, S₂.tail, size_new S, size_neL S, size_neN S, fun b hb => by
    rcases List.mem_cons.mp hb with rfl | hb
    · exact .inl rfl
    · rw [List.mem_singleton.mp hb]; exact .inr (.inr ⟨_, .head _⟩)⟩
theorem it_tup {l : Addr} {its : List Value} (r : A.handled = none) (S : St w h₀ L ns vs N h) (hm : (l, tupOf its) ∈ N) :
    wpAny (model Prg w) A (pyIter (.ref l)) (Iter0 w A z h₀ L ns vs N [(l, tupOf its)] its.length (fun i v => its[i]? = some v)) NoE (mk z h t) := by
  have hl : h.IsTuple l its.toArray := ⟨_, (S.W _ hm).1, rfl, _, rfl⟩
  refine wpAny_pyIter_tuple (s := mk z h t) hl ?_
  have S₂ := S.push { cls := .type "tuple_iterator", data := .fields #[.ref l, .int 0 0] }
  have hne : l ≠ h.objs.size := Nat.ne_of_lt (Heap.lt_size (S.W _ hm).1)
  have W := Walks.tuple (prog := Prg) (w := w) r h.objs.size l hne its.toArray
  simp only [List.size_toArray, List.getElem?_toArray] at W
  exact ⟨h.objs.size, _, _, _, t, rfl, rfl, W, fun i h q => by obtain ⟨⟨o, ho, _⟩, _⟩ := q; exact ⟨o, ho⟩, ⟨⟨_, (S₂.W _ (.head _)).1, rfl, rfl⟩, ⟨_, (S₂.W _ (.tail _ hm)).1, rfl, _, rfl⟩⟩, S₂.tail, size_new S, size_neL S, size_neN S, fun b hb => by
    rcases List.mem_cons.mp hb with rfl | hb
    · exact .inl rfl
    · rw [List.mem_singleton.mp hb]; exact .inr (.inr ⟨_, .head _⟩)⟩
theorem it_bytes {b : Array UInt8} {tb : Tok} (r : A.handled = none) (S : St w h₀ L ns vs N h) :
    wpAny (model Prg w) A (pyIter (.bytes b tb)) (Iter0 w A z h₀ L ns vs N [] b.size (fun i v => ∃ c u, b[i]? = some c ∧ v = .int (c.toNat : Int) u)) NoE (mk z h t) := by
  refine KBw.pyIter_bytes (s := mk z h t) ?_
  have S₂ := S.push { cls := .type "bytes_iterator", data := .fields #[.bytes b tb, .int 0 0] }
  exact ⟨h.objs.size, _, _, _, t, rfl, rfl, KBw.walks r h.objs.size b tb, fun i h q => by obtain ⟨o, ho, _⟩ := q; exact ⟨o, ho⟩, ⟨_, (S₂.W _ (.head _)).1, rfl, rfl⟩, S₂.tail, size_new S, size_neL S, size_neN S, fun b hb => .inl (List.mem_singleton.mp hb)⟩
/-- a range just made by its one argument -/
theorem it_range {n : Nat} {tn t1 t2 : Tok} (r : A.handled = none) (S : St w h₀ L ns vs N h) (hn : n < 2 ^ 60) :
    wpAny (model Prg w) A (pyIter (.ref h.objs.size)) (Iter0 w A z h₀ L ns vs N [] n (fun i v => ∃ t, v = .int i t)) NoE (mk z (h.push { cls := .type "range", data := .fields #[.int 0 t1, .int n tn, .int 1 t2] }) t) := by
  have S₁ := S.push { cls := .type "range", data := .fields #[.int 0 t1, .int n tn, .int 1 t2] }
  refine wpAny_pyIter_range (s := mk z (h.push { cls := .type "range", data := .fields #[.int 0 t1, .int n tn, .int 1 t2] }) t) (a := 0) (b := n) (c := 1) (t := t1) (u := tn) (v := t2) ((S₁.W _ (.head _)).1) (small_one (by decide) (by decide) (by omega) (by omega)) ?_
  rw [range_size]
  have S₂ := S₁.push { cls := .type "range_iterator", data := .fields #[rawInt 0, rawInt n, rawInt 1] }
  have W := Walks.range (prog := Prg) (w := w) r (h.push { cls := .type "range", data := .fields #[.int 0 t1, .int n tn, .int 1 t2] }).objs.size 0 1 n
  simp only [Int.zero_add, Int.mul_one] at W
  exact ⟨_, _, _, _, t, rfl, rfl, W, fun i h q => ⟨_, q⟩, by have := (S₂.W _ (.head _)).1; rw [show ((0 : Nat) : Int) = 0 from rfl, Int.sub_zero]; exact this, S₂.tail.tail, size_new S₁, size_neL S₁, fun p hp => size_neN S₁ p (.tail _ hp), fun b hb => .inl (List.mem_singleton.mp hb)⟩

/-- a for over any source -/
def ForK (w : World) (A : Around) (z : Shared) (h₀ : Heap) (L : Addr) (env : Env) (ns : List Str) (target : Expr) (body rest : List Stmt) (Q : Flow → Shared → Prop) (xv : Value) (s₁ : Shared) : Prop :=
  ∃ (n : Nat) (P : Nat → Value → Prop) (old : List (Addr × Obj)) (vs : List (Option Value)) (N : List (Addr × Obj)) (Inv : Nat → List (Option Value) → List (Addr × Obj) → Prop),
    wpAny (model Prg w) A (pyIter xv) (Iter0 w A z h₀ L ns vs N old n P) NoE s₁ ∧ Inv 0 vs N ∧ (∀ i vs N, Inv i vs N → ∀ p ∈ old, p ∈ N) ∧
    (∀ i v vs N h t o I, i < n → P i v → Inv i vs N → St w h₀ L ns vs ((I, o) :: N) h → wpAny (model Prg w) A (assign target env v) (fun _ s₁ => wpAny (model Prg w) A (execs body env) (Turned w z h₀ L ns (I, o) (Inv (i + 1))) NoE s₁) NoE (mk z h t)) ∧
    (∀ vs N h t, Inv n vs N → St w h₀ L ns vs N h → wpAny (model Prg w) A (execs rest env) Q NoE (mk z h t))
theorem s_forK {target iter : Expr} {body : List Stmt} {pos : Pos} (C : Fn env L ns gs) (k : wpAny (model Prg w) A (eval iter env) (ForK w A z h₀ L env ns target body rest Q) NoE s)
    (hs : ∀ x, foldedSetIterable iter env x = pure x) (hgo : ∀ I v, letOwnedTupleGo target (.ref I) v = pure ()) : wpAny (model Prg w) A (execs (.For target iter body [] pos :: rest) env) Q NoE s := by
  refine s_cons (wpAny_For (wpAny_mono k (fun xv s₁ q => ?_) fun _ _ x => x) hs)
  obtain ⟨n, P, old, vs, N, Inv, hit, h0, hold, step, done⟩ := q
  refine wpAny_mono hit (fun it s₂ q => ?_) fun _ _ x => x
  obtain ⟨I, fp, Stt, h, t, rfl, rfl, W, hI, st, S, hI0, hIL, hIN, hfp⟩ := q
  refine loop_walks C.locals W hI old hfp Inv hold (hgo I) S hI0 hIL hIN st h0 (fun i v vs N h t o hi hP hJ S => step i v vs N h t o I hi hP hJ S) ?_
  intro vs N h t hJ S
  exact done vs N h t hJ S
/-- the target of a for, one name -/
theorem a_name {x : Str} {px : Pos} {j : Nat} {v : Value} {QU : Unit → Shared → Prop} (C : Fn env L ns gs) (S : St w h₀ L ns vs N h) (hj : Idx ns j x) (k : ∀ h' t', St w h₀ L ns (vs.set j (some v)) N h' → QU () (mk z h' t')) :
    wpAny (model Prg w) A (assign (.Name x px) env v) QU E (mk z h t) := PyProof.Rows.assign_Name (x_store C S (put_set _ hj.get S.len C.nodup) k)

/-- a comprehension over any source -/
def CompK (w : World) (A : Around) (z : Shared) (h₀ : Heap) (L : Addr) (env : Env) (ns : List Str) (nsC gsC : List Str) (j : Nat) (scope : Scope) (cl : List (Str × Addr)) (ifs : List Expr) (elt : Expr) (QV : Value → Shared → Prop) (xv : Value) (s₁ : Shared) : Prop :=
  ∃ (n : Nat) (P : Nat → Value → Prop) (old : List (Addr × Obj)) (vs : List (Option Value)) (N : List (Addr × Obj)) (Inv : Nat → List Value → List (Addr × Obj) → Prop),
    wpAny (model Prg w) A (pyIter xv) (Iter0 w A z h₀ L ns vs N old n P) NoE s₁ ∧ n ≤ 1000000 ∧ Inv 0 [] N ∧ (∀ i its N, Inv i its N → ∀ p ∈ old, p ∈ N) ∧ (∀ i its N, Inv i its N → its.length ≤ i) ∧
    (∀ g C cenv D (vsC : List (Option Value)) i v its N h t o c I, cenv = compEnvC scope cl C env → Fn cenv C nsC gsC → i < n → P i v → Inv i its N → vsC.length = nsC.length → h₀.StaysIn g → St w g C nsC (vsC.set j (some v)) ((I, o) :: (D, listOf its.toArray c) :: N) h →
      wpAny (model Prg w) A (forIn ifs true fun c r => if r = true then do let ok ← isTrue c cenv (eval c cenv); pure (ForInStep.yield ok) else pure (ForInStep.yield r))
        (fun ok s₁ => if ok = true then wpAny (model Prg w) A (eval elt cenv) (CTurned w z g C nsC (I, o) D c its (Inv (i + 1))) NoE s₁ else CSkipped w z g C nsC (I, o) D c its (Inv (i + 1)) s₁) NoE (mk z h t)) ∧
    (∀ its N h t D c, Inv n its N → St w h₀ L ns vs ((D, listOf its.toArray c) :: N) h → QV (.ref D) (mk z h t))
theorem e_comp {elt iter : Expr} {x : Str} {px : Pos} {ifs : List Expr} {scope : Scope} {pos : Pos} {cl : List (Str × Addr)} (nsC gsC : List Str) {j : Nat} (Cf : Fn env L ns gs) (Sc : ScC scope env nsC gsC) (hcl : closureFor scope env = pure cl) (hj : Idx nsC j x)
    (hs : ∀ x, foldedSetIterable iter env x = pure x) (hgo : ∀ I v, letOwnedTupleGo (.Name x px) (.ref I) v = pure ())
    (k : wpAny (model Prg w) A (eval iter env) (CompK w A z h₀ L env ns nsC gsC j scope cl ifs elt QV) NoE (mk z h t)) :
    wpAny (model Prg w) A (eval (.ListComp elt [⟨.Name x px, iter, ifs, 0⟩] scope pos) env) QV NoE (mk z h t) := by
  refine e_listcomp (h₀ := h₀) (ns := ns) nsC gsC Cf Sc hcl hj hs hgo (wpAny_mono k (fun xv s₁ q => ?_) fun _ _ x => x)
  obtain ⟨n, P, old, vs, N, Inv, hit, hn, h0, hold, hlen, step, done⟩ := q
  refine wpAny_mono hit (fun it s₂ q => ?_) fun _ _ x => x
  obtain ⟨I, fp, Stt, h, t, rfl, rfl, W, hI, st, S, hI0, hIL, hIN, hfp⟩ := q
  exact ⟨I, fp, n, P, Stt, h, t, vs, N, old, Inv, rfl, rfl, W, hn, hI, st, S, hI0, hIL, hIN, hfp, hold, hlen, h0, fun g C cenv D vsC i v its N h t o c e1 e2 e3 e4 e5 e6 e7 e8 => step g C cenv D vsC i v its N h t o c I e1 e2 e3 e4 e5 e6 e7 e8, done⟩
/-- no test -/
theorem f_nil {cenv : Env} {QB : Bool → Shared → Prop} (k : QB true s) : wpAny (model Prg w) A (forIn ([] : List Expr) true fun c r => if r = true then do let ok ← isTrue c cenv (eval c cenv); pure (ForInStep.yield ok) else pure (ForInStep.yield r)) QB E s := wpAny_tests_nil k
theorem f_one {cenv : Env} {c : Expr} {QB : Bool → Shared → Prop} (k : wpAny (model Prg w) A (isTrue c cenv (eval c cenv)) QB E s) : wpAny (model Prg w) A (forIn [c] true fun c r => if r = true then do let ok ← isTrue c cenv (eval c cenv); pure (ForInStep.yield ok) else pure (ForInStep.yield r)) QB E s := wpAny_tests_one k
end
end
section
open PySem PySem.W PyProof.Rows PySem.Calls PySem.Builtin PySem.Builtin.Str
theorem strs_map (l : List (List Nat × Tok)) : StrsAre (l.map fun p => Value.str (S p.1) p.2) (l.map fun p => S p.1) := by
  induction l with
  | nil => exact .nil
  | cons p l ih => exact .cons _ _ ih
theorem glue_fold : ∀ (ls : List (List Nat)) (acc : Array Nat), ls.foldl (fun acc (p : List Nat) => acc ++ (#[] : Array Nat) ++ p.toArray) acc = acc ++ ls.flatten.toArray
  | [], acc => by simp
  | l :: ls, acc => by rw [List.foldl_cons, glue_fold ls]; simp
theorem join_S (ls : List (List Nat)) : Txt.join (S []) (ls.map S) = S ls.flatten := by
  cases ls with
  | nil => rfl
  | cons l ls =>
    unfold Txt.join glued
    simp only [List.map_cons, List.drop_succ_cons, List.drop_zero, List.headD_cons, List.foldl_map]
    show (⟨ls.foldl (fun acc (p : List Nat) => acc ++ (#[] : Array Nat) ++ p.toArray) l.toArray⟩ : PySem.Str) = _
    rw [glue_fold]
    simp [S]
section
variable {w : World} {A : Around} {E : Value → Shared → Prop} {z : Shared} {h h₀ : Heap} {t : Nat} {L : Addr} {env : Env} {s : Shared}
  {ns gs : List Str} {vs vs' : List (Option Value)} {N N' : List (Addr × Obj)} {QV : Value → Shared → Prop} {QB : Bool → Shared → Prop} {QP : Value × List Value → Shared → Prop} {pl : Sem Bool} {value slice : Expr} {p : Pos}
theorem m_join {x : PySem.Str} {ta : Tok} (k : QP (.builtin "str.join", [.str x ta]) s) : wpAny (model Prg w) A (getMethod (.str x ta) "join" pl) QP E s := by
  with_reducible exact getMethod_builtin (typeIs_str _ _ _) F.plainAttrs_str F.slot_str_join F.type_str_join (fun _ e => nomatch e) k
theorem sum_le (ls : List (List Nat)) : ((ls.map S).map (·.length)).sum = ls.flatten.length := by
  induction ls with
  | nil => rfl
  | cons l ls ih => simp only [List.map_cons, List.sum_cons, List.flatten_cons, List.length_append, S_len]; rw [ih]
theorem v_joinL {l : Addr} {ls : List (List Nat)} {its : List Value} {tx : Tok} (hl : h.IsList l its.toArray) (hi : StrsAre its (ls.map S)) (hz : ls.flatten.length + ls.length ≤ 100000) (k : ∀ t' tk, QV (.str (S ls.flatten) t') (mk z h tk)) :
    wpAny (model Prg w) A (call (.builtin "str.join") [.str (Str.ofString "") tx, .ref l]) QV E (mk z h t) := by
  rw [lit_nil]
  exact join_listW (s := mk z h t) hl hi (by rw [S_len]; simp) (by rw [sum_le, List.length_map]; omega) (by rw [join_S]; exact k)
theorem v_joinT {l : Addr} {ls : List (List Nat)} {its : List Value} {tx : Tok} (hl : IsTup h l its.toArray) (hi : StrsAre its (ls.map S)) (hz : ls.flatten.length + ls.length ≤ 100000) (k : ∀ t' tk, QV (.str (S ls.flatten) t') (mk z h tk)) :
    wpAny (model Prg w) A (call (.builtin "str.join") [.str (Str.ofString "") tx, .ref l]) QV E (mk z h t) := by
  rw [lit_nil]
  exact join_tupleW (s := mk z h t) hl hi (by rw [S_len]; simp) (by rw [sum_le, List.length_map]; omega) (by rw [join_S]; exact k)
/-- the last sign -/
theorem t_last {l : List Nat} {c : Nat} {tx ti : Tok} (hl : l ≠ []) (hc : l.getLast? = some c) (hz : l.length < 2 ^ 62) (k : QV (.str (S [c]) t) (mk z h (t + 1)))
    (hs : ∀ o i, subscripted slice false o i = operate [o, i] (getItem o i)) (ht : ∀ x t r, letTemporaryGo value (.str x t) r = pure ()) :
    wpAny (model Prg w) A (subscriptTail value slice (.str (S l) tx) (.int (-1) ti)) QV E (mk z h t) := by
  have hpos : 0 < l.length := List.length_pos_iff.mpr hl
  refine PyProof.Rows.item_str (s := mk z h t) (by decide) (by rw [S_len]; omega) (by omega) (fun _ => ?_) (hs _ _) (ht _ _)
  have : Txt.item (S l) (-1) = S [c] := by
    unfold Txt.item Txt.charAt
    have e : seqIndex? (-1 : Int) (S l).length = some (l.length - 1) := by rw [S_len]; unfold seqIndex?; simp; omega
    rw [e]
    rw [List.getLast?_eq_getElem?] at hc
    simp [S, hc]
  rw [this]; exact k
/-- all but the last sign -/
theorem t_init {l : List Nat} {tx tb : Tok} {up : Option Expr} (hl : l ≠ []) (hz : l.length ≤ sizeLine) (S₀ : St w h₀ L ns vs N h)
    (k : ∀ h' t' tk, St w h₀ L ns vs N h' → QV (.str (S l.dropLast) t') (mk z h' tk))
    (ht : ∀ x t r, letTemporaryGo value (.str x t) r = pure ()) :
    wpAny (model Prg w) A (subscriptTail value (.Slice none up none p) (.str (S l) tx) (.ref (mk z h t).heap.objs.size)) QV E { mk z h t with heap := (mk z h t).heap.push (slObj .none (.int (-1) tb) .none) } := by
  have hpos : 0 < l.length := List.length_pos_iff.mpr hl
  have S₁ := S₀.push (slObj .none (.int (-1) tb) .none)
  refine tail_of_ItemOn (ops := [.ref h.objs.size, .str (S l) tx]) ⟨"str", _, F.slot_str_getitem.lookup, typeIs_str _ _ _, ?_⟩ (by with_unfolding_all rfl) (ht _ _)
  refine wpAny_getItem_str_slice (l := none) (u := some (-1, tb)) (st := none) ⟨_, (S₁.W _ (.head _)).1, rfl, rfl⟩ rfl ?_
  have e0 : slicePicked (S l) none (some (-1, tb)) none = sliceRange (0 : Nat) (l.length - 1 : Nat) 1 := by
    unfold slicePicked
    show strSliceIndices none (some (-1)) 1 _ = _
    rw [S_len]
    unfold strSliceIndices
    simp only [show (1 : Int) > 0 by decide, if_true]
    congr 1
    rw [if_pos (by decide)]
    omega
  refine made_post (y := l.dropLast) ?_ (by simp; omega) (fun q => ?_) fun t' tk => k _ t' tk S₁.tail
  · rw [e0, S_cps, picked_fwd _ _ _ (by omega), List.drop_zero, List.dropLast_eq_take]
  · have := (Bool.and_eq_true_iff.mp q).2
    rw [beq_iff_eq, e0, range_fwd, S_len] at this
    simp at this; omega
theorem c_str {l : List Nat} {tx : Tok} (hz : l.length ≤ 100000) (k : ∀ tk, QB (decide (l ≠ [])) (mk z h tk)) : wpAny (model Prg w) A (truthy (.str (S l) tx)) QB E (mk z h t) := by
  refine P.truthy_str (s := mk z h t) (by rw [S_len]; omega) ?_
  rw [S_len]
  have : ((l.length : Int) != 0) = decide (l ≠ []) := by
    cases l with
    | nil => rfl
    | cons a l => simp; omega
  rw [this]; exact k _
end
end
local macro_rules | `(tactic| tm_at "m") => `(tactic| ((with_reducible refine g_getmeth ?_); with_reducible refine m_join ?_))
section
open PySem PySem.W PyProof.Rows PySem.Calls
theorem relabel_look {env : Env} {k : NameKind} (hk : k ≠ .free) (hk2 : k ≠ .cell) : ∀ {names : List (Str × NameKind)} {x : Str}, names.lookup x = some k →
    (names.map fun (n, k) => if (k == NameKind.free && env.scope.kind == .function && env.kindOf n == some .cell) then (n, NameKind.cell) else (n, k)).lookup x = some k
  | [], _, h => by simp at h
  | (n, u) :: r, x, h => by
    have ih := @relabel_look env k hk hk2 r x
    show List.lookup x ((if (u == NameKind.free && env.scope.kind == .function && env.kindOf n == some .cell) = true then (n, NameKind.cell) else (n, u)) :: _) = _
    cases hx : x == n with
    | true =>
      simp only [List.lookup_cons, hx] at h
      cases h
      have : (k == NameKind.free) = false := by simpa using hk
      simp [this, List.lookup_cons, hx]
    | false =>
      simp only [List.lookup_cons, hx] at h
      split <;> simp only [List.lookup_cons, hx] <;> exact ih h
theorem ScC.of {scope : Scope} {env : Env} {ns gs : List Str} (hk : scope.kind = .function) (hns : scope.names.filterMap locOf = ns) (hgs : scope.names.filterMap gloOf = gs)
    (nd : nodupN ((Str.ofString "__debug__" :: scope.names.map (·.1)).map key) = true) (hc : scope.names.all notCell = true) : ScC scope env ns gs := by
  have ndl := nodup_of nd
  have nd1 := (List.nodup_cons.mp ndl)
  have sub : ns.Sublist (scope.names.map (·.1)) := by
    rw [← hns]
    generalize scope.names = l
    induction l with
    | nil => exact .slnil
    | cons p r ih =>
      obtain ⟨x, k⟩ := p
      cases k <;> simp only [List.filterMap_cons, locOf, List.map_cons] <;> first | exact ih.cons_cons _ | exact ih.cons _
  have l1 : ∀ x ∈ ns, (x, NameKind.local) ∈ scope.names := by
    intro x hx
    rw [← hns] at hx
    obtain ⟨⟨y, k⟩, hm, e⟩ := List.mem_filterMap.mp hx
    cases k <;> simp [locOf] at e
    subst e; exact hm
  have g1 : ∀ x ∈ gs, (x, NameKind.globalImplicit) ∈ scope.names := by
    intro x hx
    rw [← hgs] at hx
    obtain ⟨⟨y, k⟩, hm, e⟩ := List.mem_filterMap.mp hx
    cases k <;> simp [gloOf] at e
    subst e; exact hm
  have db : ∀ x, x ∈ scope.names.map (·.1) → (x == ("__debug__" : Str)) = false := by
    intro x hx
    have : x ≠ Str.ofString "__debug__" := fun e => nd1.1 (e ▸ hx)
    simpa using this
  refine ⟨hk, sub.nodup nd1.2, fun x hx => relabel_look (by decide) (by decide) (lookup_of_mem nd1.2 (l1 x hx)), fun x hx => relabel_look (by decide) (by decide) (lookup_of_mem nd1.2 (g1 x hx)), fun x hx => db x (List.mem_map.mpr ⟨_, l1 x hx, rfl⟩), fun x hx => db x (List.mem_map.mpr ⟨_, g1 x hx, rfl⟩), ?_, ?_⟩
  · intro p hp e
    have := List.all_eq_true.mp hc p hp
    unfold notCell at this
    rw [e] at this
    cases this
  · intro p hp e
    obtain ⟨x, k⟩ := p
    cases e
    exact lookup_of_mem nd1.2 hp
end
local macro_rules | `(tactic| tm_at "m_scC") => `(tactic| exact ScC.of rfl rfl rfl (by kernel_rfl) rfl)
section
open PySem PySem.W PyProof.Rows PySem.Calls
theorem All2.get {α β : Type} {R : α → β → Prop} {as : List α} {bs : List β} (h : All2 R as bs) : ∀ {i : Nat} {a : α}, as[i]? = some a → ∃ b, bs[i]? = some b ∧ R a b := by
  induction h with
  | nil => intro i a e; simp at e
  | @cons a b as bs r _ ih =>
    intro i x e
    cases i with
    | zero => simp at e; subst e; exact ⟨b, rfl, r⟩
    | succ i => simp at e; obtain ⟨y, e1, r1⟩ := ih e; exact ⟨y, by simpa using e1, r1⟩
theorem All2.get' {α β : Type} {R : α → β → Prop} {as : List α} {bs : List β} (h : All2 R as bs) : ∀ {i : Nat} {b : β}, bs[i]? = some b → ∃ a, as[i]? = some a ∧ R a b := by
  induction h with
  | nil => intro i a e; simp at e
  | @cons a b as bs r _ ih =>
    intro i x e
    cases i with
    | zero => simp at e; subst e; exact ⟨a, rfl, r⟩
    | succ i => simp at e; obtain ⟨y, e1, r1⟩ := ih e; exact ⟨y, by simpa using e1, r1⟩
theorem All2.mono {α β : Type} {R R' : α → β → Prop} {as : List α} {bs : List β} (h : All2 R as bs) (k : ∀ a b, R a b → R' a b) : All2 R' as bs := by
  induction h with
  | nil => exact .nil
  | cons r _ ih => exact .cons (k _ _ r) ih
section
variable {w : World} {A : Around} {E : Value → Shared → Prop} {env : Env} {s : Shared} {QV : Value → Shared → Prop}
theorem e_or {e₁ e₂ : Expr} {rest : List Expr} {pos : Pos}
    (h : wpAny (model Prg w) A (eval e₁ env) (fun v s₁ => wpAny (model Prg w) A (truthy v) (Br (fun s₂ => QV v s₂) (fun s₂ => wpAny (model Prg w) A (eval (.BoolOp .Or (e₂ :: rest) pos) env) QV E s₂)) E s₁) E s) :
    wpAny (model Prg w) A (eval (.BoolOp .Or (e₁ :: e₂ :: rest) pos) env) QV E s :=
  BoolOp_or (wpAny_mono h (fun _ _ q => wpAny_mono q (fun _ _ q => br_ite q) fun _ _ e => e) fun _ _ e => e)
theorem e_bool1 {e : Expr} {op : BoolOp} {pos : Pos} (h : wpAny (model Prg w) A (eval e env) QV E s) : wpAny (model Prg w) A (eval (.BoolOp op [e] pos) env) QV E s := BoolOp_one h
end

/-- a group as the law writes it: its order's letters, its kind, its size -/
structure Sp where
  o : List Nat
  k : Kd
  sz : Nat
def digN (n : Nat) : List Nat := (toString (n : Int)).toList.map Char.toNat
def Sp.grp (s : Sp) : Grp := ⟨s.o, s.k, digN s.sz⟩
structure Sp.Ok (s : Sp) : Prop where
  o : s.o = [] ∨ s.o = [60] ∨ s.o = [62]
  lo : 1 ≤ s.sz
  hi : s.sz ≤ 64
def digOk : Nat → Bool
  | 0 => true
  | n + 1 => (!(digN n).isEmpty && (digN n).length ≤ 3 && (digN n).all fun d => 48 ≤ d && d ≤ 57) && digOk n
theorem digOk_at : ∀ m, digOk m = true → ∀ n, n < m → (digN n ≠ [] ∧ (digN n).length ≤ 3 ∧ ∀ d ∈ digN n, 48 ≤ d ∧ d ≤ 57)
  | 0, _, n, h => absurd h (Nat.not_lt_zero _)
  | m + 1, e, n, h => by
    simp only [digOk, Bool.and_eq_true, Bool.not_eq_true', decide_eq_true_eq, List.all_eq_true, List.isEmpty_eq_false_iff] at e
    rcases Nat.lt_succ_iff_lt_or_eq.mp h with h | rfl
    · exact digOk_at m e.2 n h
    · exact ⟨e.1.1.1, e.1.1.2, e.1.2⟩
theorem Sp.Ok.grp {s : Sp} (h : s.Ok) : s.grp.Ok := by
  have := digOk_at 65 (by decide +kernel) s.sz (by have := h.hi; omega)
  exact ⟨h.o, this.1, this.2.1, this.2.2⟩
theorem digN_S (n : Nat) : S (digN n) = Str.ofString (toString (n : Int)) := by
  unfold digN
  rw [← ofList_S]
  congr 1
  simp
/-- what a group's object tells -/
structure Gi where
  k : Kd
  sz : Nat
  lt : Bool
  ix : Nat
def ltOf (lt : Bool) (o : List Nat) : Bool := if o = [60] then true else if o = [62] then false else lt
def giL : Bool → Nat → List Sp → List Gi
  | _, _, [] => []
  | lt, i, s :: r => ⟨s.k, s.sz, ltOf lt s.o, i⟩ :: giL (ltOf lt s.o) (if s.k.pad then i else i + 1) r
def Gi.At (h : Heap) (x : Addr) (g : Gi) : Prop :=
  ∃ dx es nm te, Ob h x g.k.cls dx es es.length ∧ InfE g.k g.sz nm (.str (ordS g.lt) te) es ∧ (g.k.pad = false → ∃ t, nm = .int g.ix t)
theorem Gi.At.keeps {h h' : Heap} {x : Addr} {g : Gi} (a : g.At h x) (k : h.StaysIn h') : g.At h' x := by
  obtain ⟨dx, es, nm, te, o, i, n⟩ := a
  exact ⟨dx, es, nm, te, o.keeps k, i, n⟩
end
local macro_rules | `(tactic| tm_at "m_e") => `(tactic| ((with_reducible refine' x_glob ?C ?S ?m (gv_re _) ?_); (case C => tm_at "m_asm"); (case S => tm_at "m_asm"); (case m => tm_at "m_mem")))
section
open PySem PySem.W PyProof.Rows PySem.Calls
section
variable {w : World} {A : Around} {E : Value → Shared → Prop} {env : Env} {s : Shared} {Q : Flow → Shared → Prop} {rest : List Stmt}
/-- an if whose branches both come to J -/
theorem s_ifJ {test : Expr} {body orelse : List Stmt} {pos : Pos} (J : Shared → Prop)
    (k : wpAny (model Prg w) A (isTrue test env (eval test env)) (Br (fun s => wpAny (model Prg w) A (execs body env) (fun f s' => f = .next ∧ J s') E s) (fun s => wpAny (model Prg w) A (execs orelse env) (fun f s' => f = .next ∧ J s') E s)) E s)
    (k2 : ∀ s', J s' → wpAny (model Prg w) A (execs rest env) Q E s') : wpAny (model Prg w) A (execs (.If test body orelse pos :: rest) env) Q E s :=
  s_if (wpAny_mono k (fun b s₂ q => br_join J q k2) fun _ _ e => e)
end
theorem St.perm {w : World} {h h₀ : Heap} {L : Addr} {ns : List Str} {vs : List (Option Value)} {N N' : List (Addr × Obj)} (S : St w h₀ L ns vs N h) (p : N'.Perm N) : St w h₀ L ns vs N' h :=
  S.sub (fun q hq => p.mem_iff.mp hq) ((p.map _).nodup_iff.mpr S.nd)
theorem perm4 {a b c d : Addr × Obj} {R : List (Addr × Obj)} : (c :: d :: a :: b :: R).Perm (a :: b :: c :: d :: R) := (List.perm_append_comm (l₁ := [c, d]) (l₂ := [a, b])).append_right R
inductive InfM : List (Addr × Obj) → List Addr → List Gi → Prop
  | nil : InfM [] [] []
  | snoc {M : List (Addr × Obj)} {xs : List Addr} {gs : List Gi} {g : Gi} {x dx : Addr} {es : List DictEntry} {nm : Value} {te : Tok} : InfM M xs gs → InfE g.k g.sz nm (.str (ordS g.lt) te) es → (g.k.pad = false → ∃ t, nm = .int g.ix t) →
      InfM ((x, instObj g.k.cls dx) :: (dx, dicO es) :: M) (xs ++ [x]) (gs ++ [g])
theorem InfM.len {M : List (Addr × Obj)} {xs : List Addr} {gs : List Gi} (i : InfM M xs gs) : xs.length = gs.length := by
  induction i with
  | nil => rfl
  | snoc _ _ _ ih => simp [ih]
theorem InfM.at {h : Heap} {M : List (Addr × Obj)} {xs : List Addr} {gs : List Gi} (i : InfM M xs gs) (hM : ∀ p ∈ M, h.get? p.1 = some p.2) : All2 (Gi.At h) xs gs := by
  induction i with
  | nil => exact .nil
  | snoc i e n ih => exact (ih fun p hp => hM p (.tail _ (.tail _ hp))).snoc ⟨_, _, _, _, ⟨hM _ (.head _), hM _ (.tail _ (.head _))⟩, e, n⟩
theorem lit_gt : Str.ofString ">" = ordS false := by decide +kernel
theorem lit_utf : True := trivial
theorem joinG_last {gs : List Grp} (hok : ∀ g ∈ gs, g.Ok) (hne : gs ≠ []) : ∃ c, (joinG gs).getLast? = some c ∧ 48 ≤ c ∧ c ≤ 57 := by
  rcases List.eq_nil_or_concat gs with e | ⟨r, g, rfl⟩
  · exact absurd e hne
  · have h := hok g (by simp)
    rcases List.eq_nil_or_concat g.ds with e | ⟨d, x, e⟩
    · exact absurd e h.ne
    · refine ⟨x, ?_, h.dg x (by rw [e]; simp)⟩
      rw [List.concat_eq_append, joinG_app, joinG_cons]
      unfold Grp.text
      rw [e, List.concat_eq_append]
      have : joinG ([] : List Grp) = [] := rfl
      rw [this, List.append_nil, ← List.cons_append, ← List.append_assoc, ← List.append_assoc]
      exact List.getLast?_concat
theorem contains_no (c : Nat) (h : 48 ≤ c ∧ c ≤ 57) : Txt.contains (Str.ofString "><") (S [c]) = false := by
  obtain ⟨a, b⟩ := h
  have : ∀ c, c < 58 → 48 ≤ c → Txt.contains (Str.ofString "><") (S [c]) = false := by decide +kernel
  exact this c (by omega) a
section
variable {w : World} {A : Around} {E : Value → Shared → Prop} {z : Shared} {h : Heap} {t : Nat} {QV : Value → Shared → Prop}
set_option maxHeartbeats 4000000 in
theorem c_parse (r : Room A 10) (G : Gl w h) (sps : List Sp) (hok : ∀ s ∈ sps, s.Ok) (hne : sps ≠ []) (hz : sps.length ≤ 10) (mark : Bool) (tf te tr : Tok)
    (q : ∀ a l M xs c tb h' t', h.StaysIn h' → InfM M xs (giL false 0 sps) → (∀ p ∈ (l, listOf (xs.map Value.ref).toArray c) :: M, h'.get? p.1 = some p.2 ∧ h.get? p.1 = none) → (((l, listOf (xs.map Value.ref).toArray c) :: M).map (·.1)).Nodup → IsTup h' a #[.ref l, .str (ordS mark) tb] → QV (.ref a) (mk z h' t')) :
    wpAny (model Prg w) A (call (.ref 390) [.str (S (joinG (sps.map Sp.grp) ++ if mark then [60] else [])) tf, .none, .str (Str.ofString "utf-8") te, .str (Str.ofString "strict") tr]) QV E (mk z h t) := by
  refine enter (n := 9) (binds := [(Str.ofString "fmt", .str (S (joinG (sps.map Sp.grp) ++ if mark then [60] else [])) tf), (Str.ofString "names", .none), (Str.ofString "text_encoding", .str (Str.ofString "utf-8") te), (Str.ofString "text_errors", .str (Str.ofString "strict") tr)]) [Str.ofString "fmt", Str.ofString "names", Str.ofString "text_encoding", Str.ofString "text_errors", Str.ofString "byte_order", Str.ofString "parsed_infos", Str.ofString "info", Str.ofString "infos", Str.ofString "endianness", Str.ofString "i", Str.ofString "parsed_info", Str.ofString "type_", Str.ofString "size", Str.ofString "name"] [Str.ofString "_twin_re_1", Str.ofString "Error_bitstruct", Str.ofString "int", Str.ofString "_SignedInteger", Str.ofString "_UnsignedInteger", Str.ofString "_Float", Str.ofString "_Boolean", Str.ofString "_Text", Str.ofString "_Raw", Str.ofString "_ZeroPadding", Str.ofString "_OnePadding"] rfl r G (by kernel_rfl) (BindsTo.of_eq rfl) (by tm_at "m_sc") ⟨rfl, rfl, rfl, rfl, trivial⟩ ?_
  intro A' L h' t' env he r' hfr C S
  dsimp only [initL] at S
  have hin : interactive env = false := by rw [he]; with_unfolding_all rfl
  clear he hfr
  -- the groups
  have hgok : ∀ g ∈ sps.map Sp.grp, g.Ok := fun g hg => by
    obtain ⟨s, hs, rfl⟩ := List.mem_map.mp hg
    exact (hok s hs).grp
  generalize hgs : sps.map Sp.grp = gs at *
  have hgl : gs.length ≤ 10 := by rw [← hgs]; simpa using hz
  have hJl : (joinG gs).length ≤ 1000 := by
    have : ∀ l : List Grp, (∀ g ∈ l, g.Ok) → (joinG l).length ≤ 5 * l.length := by
      intro l
      induction l with
      | nil => intro _; simp [joinG]
      | cons g l ih =>
        intro hl
        have h1 := ih fun g hg => hl g (.tail _ hg)
        have h2 := hl g (.head _)
        have h3 := h2.ln
        have h4 : g.o.length ≤ 1 := by rcases h2.o with e | e | e <;> rw [e] <;> simp
        rw [joinG_cons, List.length_append, Grp.len, List.length_cons]
        omega
    have := this gs hgok
    omega
  have hJn : joinG gs ≠ [] := by
    cases gs with
    | nil => simp at hgs; exact absurd hgs hne
    | cons g r => rw [joinG_cons]; obtain ⟨c, r', e, _⟩ := Grp.head (hgok g (.head _)); rw [e]; simp
  obtain ⟨c, hc, hc2⟩ := joinG_last hgok (by rintro rfl; exact hJn rfl)
  refine s_ifJ (fun s => ∃ h2 t2 tf tb, s = mk z h2 t2 ∧ St w h L [Str.ofString "fmt", Str.ofString "names", Str.ofString "text_encoding", Str.ofString "text_errors", Str.ofString "byte_order", Str.ofString "parsed_infos", Str.ofString "info", Str.ofString "infos", Str.ofString "endianness", Str.ofString "i", Str.ofString "parsed_info", Str.ofString "type_", Str.ofString "size", Str.ofString "name"]
    [some (.str (Mine.S (joinG gs)) tf), some .none, some (.str (Str.ofString "utf-8") te), some (.str (Str.ofString "strict") tr), some (.str (Mine.S (if mark then [60] else [])) tb), none, none, none, none, none, none, none, none, none] [] h2) ?_ ?_
  · tm_at "ms"
    refine c_str (by split <;> simp <;> omega) fun tk => ?_
    refine br_dt (by simp [hJn]) ?_
    tm_at "ms"
    cases mark with
    | true =>
      simp only [if_true]
      refine t_last (c := 60) (by simp) (by simp) (by simp; omega) ?_ (by tm_at "m_hs") (by tm_at "m_hs")
      tm_at "ms"
      refine br_t (by decide +kernel) ?_
      tm_at "ms"
      simp only [if_true] at S
      tm_at "ms"
      refine t_last (c := 60) (by simp) (by simp) (by simp; omega) ?_ (by tm_at "m_hs") (by tm_at "m_hs")
      tm_at "ms"
      refine t_init (by simp) (by rw [sizeLine_eq]; simp; omega) (by tm_at "m_asm") ?_ (by tm_at "m_hs")
      intro h3 t3 tk3 S3
      tm_at "ms"
      rename St _ _ _ _ _ _ _ => S4
      rw [List.dropLast_concat] at S4
      exact ⟨rfl, _, _, _, _, rfl, S4⟩
    | false =>
      simp only [Bool.false_eq_true, if_false, List.append_nil] at S ⊢
      refine t_last (c := c) hJn hc (by omega) ?_ (by tm_at "m_hs") (by tm_at "m_hs")
      tm_at "ms"
      refine br_f (contains_no c hc2) ?_
      tm_at "ms"
      rename St _ _ _ _ _ _ _ => S4
      exact ⟨rfl, _, _, _, _, rfl, S4⟩
  rintro _ ⟨h2, t2, tf, tb, rfl, S2⟩
  clear S hc hc2
  tm_at "ms"
  refine m_findall (by tm_at "m_asm") ?_
  tm_at "ms"
  refine v_findall hgok hgl (by tm_at "m_asm") ?_
  intro M l h3 t3 hM S3
  clear S2
  tm_at "ms"
  rename St _ _ _ _ _ _ _ => S4
  refine e_comp (h₀ := h) [Str.ofString ".0", Str.ofString "info"] [] (by tm_at "m_asm") (by tm_at "m_scC") rfl (by tm_at "m_idx") (by tm_at "m_hs") (by tm_at "m_hs") ?_
  tm_at "ms"
  refine ⟨_, _, _, _, _, fun i its N => ∃ lt : List (List Nat × Tok), its = (lt.map fun p => Value.str (Mine.S p.1) p.2) ∧ lt.map (·.1) = (gs.take i).map Grp.text ∧ N = (l, listOf (M.map fun p => Value.ref p.1).toArray 0) :: (M ++ []), it_list r'.hd S4 (.head _), ?_, ⟨[], rfl, rfl, rfl⟩, ?_, ?_, ?_, ?_⟩
  · simp; have := hM.len; omega
  · rintro i its N ⟨lt, rfl, hlt, rfl⟩ p hp
    rw [List.mem_singleton.mp hp]
    exact .head _
  · rintro i its N ⟨lt, rfl, hlt, rfl⟩
    have := congrArg List.length hlt
    simp at this ⊢
    omega
  · rintro g C2 cenv D vsC i v its N h5 t5 o cc I ec Cc hi hv ⟨lt, rfl, hlt, rfl⟩ hvl hg S5
    obtain ⟨u0, u1, rfl⟩ : ∃ a b, vsC = [a, b] := by
      rcases vsC with _ | ⟨a, _ | ⟨b, _ | ⟨c, r⟩⟩⟩ <;> simp at hvl
      exact ⟨a, b, rfl⟩
    simp only [List.set_cons_succ, List.set_cons_zero] at S5
    obtain ⟨p, hp, rfl⟩ : ∃ p, M[i]? = some p ∧ v = .ref p.1 := by
      rw [List.getElem?_map] at hv
      cases e : M[i]? with
      | none => rw [e] at hv; cases hv
      | some p => rw [e] at hv; cases hv; exact ⟨p, rfl, rfl⟩
    obtain ⟨gr, hgr, t1, t2, t3, t4, hp2⟩ := hM.get hp
    have hpm : p ∈ M := List.mem_of_getElem? hp
    have hpt : IsTup h5 p.1 [Value.str (Mine.S gr.o) t1, .str (Mine.S [gr.k.code]) t2, .str (Mine.S gr.ds) t3, .str (Mine.S []) t4].toArray := ⟨_, (S5.W p (by simp [hpm])).1, by rw [hp2], _, by rw [hp2]⟩
    have hgo := hgok gr (List.mem_of_getElem? hgr)
    clear hM S3 S4
    refine f_nil ?_
    rw [if_pos rfl]
    tm_at "ms"
    refine v_joinT (ls := [gr.o, [gr.k.code], gr.ds, []]) hpt (strs_map [(gr.o, t1), ([gr.k.code], t2), (gr.ds, t3), ([], t4)]) ?_ fun t6 tk6 => ?_
    · have h3 := hgo.ln
      have h4 : gr.o.length ≤ 1 := by rcases hgo.o with e | e | e <;> rw [e] <;> simp
      simp; omega
    · refine ⟨_, _, _, _, rfl, S5, lt ++ [(gr.text, t6)], ?_, ?_, rfl⟩
      · simp [Grp.text]
      · rw [List.take_add_one, hgr, List.map_append, hlt]; simp
  · rintro its N h5 t5 D cc ⟨lt, rfl, hlt, rfl⟩ S5
    tm_at "ms"
    have hl2 : gs.take (M.map fun p => Value.ref p.1).length = gs := List.take_of_length_le (by have := hM.len; simp; omega)
    rw [hl2] at hlt
    have hfl : (gs.map Grp.text).flatten = joinG gs := rfl
    refine v_joinL (ls := gs.map Grp.text) (isList_of S5 (.head _)) ?_ ?_ fun t6 tk6 => ?_
    · rw [← hlt, List.map_map]; exact strs_map lt
    · rw [hfl, List.length_map]; omega
    rw [hfl]
    have S6 := S5.tail
    clear S5 S4 S3
    tm_at "ms"
    refine br_f (by simp) ?_
    tm_at "ms"
    rename St _ _ _ _ _ _ _ => S7
    refine s_forK (z := z) (h₀ := h) (ns := [Str.ofString "fmt", Str.ofString "names", Str.ofString "text_encoding", Str.ofString "text_errors", Str.ofString "byte_order", Str.ofString "parsed_infos", Str.ofString "info", Str.ofString "infos", Str.ofString "endianness", Str.ofString "i", Str.ofString "parsed_info", Str.ofString "type_", Str.ofString "size", Str.ofString "name"]) (by tm_at "m_asm") ?_ (by tm_at "m_hs") (by tm_at "m_hs")
    tm_at "ms"
    rename St _ _ _ _ _ _ _ => S8
    clear S6
    refine ⟨_, _, _, _, _, fun i vs N => ∃ lt ix xs done M2 c o te' ti u0 u1 u2 u3 u4, giL false 0 sps = done ++ giL lt ix (sps.drop i) ∧ done.length = i ∧ InfM M2 xs done ∧
      N = (o, listOf (xs.map Value.ref).toArray c) :: (M2 ++ ((l, listOf (M.map fun p => Value.ref p.1).toArray 0) :: (M ++ []))) ∧
      vs = [some (.str (Mine.S (joinG gs)) tf), some .none, some (.str (Str.ofString "utf-8") te), some (.str (Str.ofString "strict") tr), some (.str (Mine.S (if mark then [60] else [])) tb), some (.ref l), u0, some (.ref o), some (.str (ordS lt) te'), some (.int (ix : Nat) ti), u1, u2, u3, u4],
      it_list r'.hd S8 (.tail _ (.head _)), ⟨false, 0, [], [], [], _, _, _, _, _, _, _, _, _, rfl, rfl, .nil, rfl, by rw [lit_gt]; rfl⟩, ?_, ?_, ?_⟩
    · rintro i vs N ⟨lt, ix, xs, done, M2, c, o, te', ti, u0, u1, u2, u3, u4, hg, hd, hM2, rfl, rfl⟩ p hp
      rw [List.mem_singleton.mp hp]
      simp
    · rintro i v vs N h5 t5 oI I hi hv ⟨lt, ix, xs, done, M2, c, o, te', ti, u0, u1, u2, u3, u4, hg, hd, hM2, rfl, rfl⟩ S9
      obtain ⟨p, hp, rfl⟩ : ∃ p, M[i]? = some p ∧ v = .ref p.1 := by
        rw [List.getElem?_map] at hv
        cases e : M[i]? with
        | none => rw [e] at hv; cases hv
        | some p => rw [e] at hv; cases hv; exact ⟨p, rfl, rfl⟩
      obtain ⟨gr, hgr, t1, t2, t3, t4, hp2⟩ := hM.get hp
      have hpm : p ∈ M := List.mem_of_getElem? hp
      obtain ⟨sp, hsp, rfl⟩ : ∃ sp, sps[i]? = some sp ∧ sp.grp = gr := by
        rw [← hgs, List.getElem?_map] at hgr
        cases e : sps[i]? with
        | none => rw [e] at hgr; cases hgr
        | some p => rw [e] at hgr; cases hgr; exact ⟨p, rfl, rfl⟩
      have hspo := hok sp (List.mem_of_getElem? hsp)
      have hdrop : sps.drop i = sp :: sps.drop (i + 1) := by
        obtain ⟨hlt, e⟩ := List.getElem?_eq_some_iff.mp hsp
        rw [← e]; exact List.drop_eq_getElem_cons hlt
      have hptup : ∀ {vs' N' h'}, St w h L [Str.ofString "fmt", Str.ofString "names", Str.ofString "text_encoding", Str.ofString "text_errors", Str.ofString "byte_order", Str.ofString "parsed_infos", Str.ofString "info", Str.ofString "infos", Str.ofString "endianness", Str.ofString "i", Str.ofString "parsed_info", Str.ofString "type_", Str.ofString "size", Str.ofString "name"] vs' N' h' → (∀ q ∈ M, q ∈ N') → IsTup h' p.1 [Value.str (Mine.S sp.o) t1, .str (Mine.S [sp.k.code]) t2, .str (Mine.S (digN sp.sz)) t3, .str (Mine.S []) t4].toArray :=
        fun S hm => ⟨_, (S.W p (hm _ hpm)).1, by rw [hp2], _, by rw [hp2]; rfl⟩
      have hmm : ∀ {a b c : Addr × Obj}, ∀ q ∈ M, q ∈ a :: b :: (M2 ++ (c :: (M ++ []))) := fun q hq => .tail _ (.tail _ (List.mem_append_right _ (.tail _ (List.mem_append_left _ hq))))
      refine a_name C S9 (by tm_at "m_idx") fun h6 t6 S10 => ?_
      simp only [List.set_cons_succ, List.set_cons_zero] at S10
      clear S8 S9
      refine s_ifJ (fun s => ∃ te2 h7 t7, s = mk z h7 t7 ∧ St w h L [Str.ofString "fmt", Str.ofString "names", Str.ofString "text_encoding", Str.ofString "text_errors", Str.ofString "byte_order", Str.ofString "parsed_infos", Str.ofString "info", Str.ofString "infos", Str.ofString "endianness", Str.ofString "i", Str.ofString "parsed_info", Str.ofString "type_", Str.ofString "size", Str.ofString "name"]
        [some (.str (Mine.S (joinG gs)) tf), some .none, some (.str (Str.ofString "utf-8") te), some (.str (Str.ofString "strict") tr), some (.str (Mine.S (if mark then [60] else [])) tb), some (.ref l), u0, some (.ref o), some (.str (ordS (ltOf lt sp.o)) te2), some (.int (ix : Nat) ti), some (.ref p.1), u2, u3, u4]
        ((I, oI) :: (o, listOf (xs.map Value.ref).toArray c) :: (M2 ++ ((l, listOf (M.map fun p => Value.ref p.1).toArray 0) :: (M ++ [])))) h7) ?_ ?_
      · tm_at "ms"
        refine t_tup 0 (hptup S10 hmm) rfl rfl (by decide) ?_ (by tm_at "m_hs")
        tm_at "ms"
        rcases hspo.o with e | e | e
        · refine br_f (by rw [e]; decide +kernel) ?_
          tm_at "ms"
          rename St _ _ _ _ _ _ _ => S11
          refine ⟨rfl, te', _, _, rfl, ?_⟩
          have : ordS (ltOf lt sp.o) = ordS lt := by rw [e]; rfl
          rw [this]; exact S11
        · refine br_t (by rw [e]; decide +kernel) ?_
          tm_at "ms"
          refine t_tup 0 (hptup S10 hmm) rfl rfl (by decide) ?_ (by tm_at "m_hs")
          tm_at "ms"
          rename St _ _ _ _ _ _ _ => S11
          refine ⟨rfl, t1, _, _, rfl, ?_⟩
          have : ordS (ltOf lt sp.o) = Mine.S sp.o := by rw [e]; rfl
          rw [this]; exact S11
        · refine br_t (by rw [e]; decide +kernel) ?_
          tm_at "ms"
          refine t_tup 0 (hptup S10 hmm) rfl rfl (by decide) ?_ (by tm_at "m_hs")
          tm_at "ms"
          rename St _ _ _ _ _ _ _ => S11
          refine ⟨rfl, t1, _, _, rfl, ?_⟩
          have : ordS (ltOf lt sp.o) = Mine.S sp.o := by rw [e]; rfl
          rw [this]; exact S11
      rintro _ ⟨te2, h7, t7, rfl, S11⟩
      clear S10
      tm_at "ms"
      refine t_tup 1 (hptup S11 hmm) rfl rfl (by decide) ?_ (by tm_at "m_hs")
      tm_at "ms"
      rename St _ _ _ _ _ _ _ => S12
      refine t_tup 2 (hptup S12 hmm) rfl rfl (by decide) ?_ (by tm_at "m_hs")
      tm_at "ms"
      refine v_intS (n := sp.sz) (by have := hspo.hi; omega) (digN_S _) ?_
      tm_at "ms"
      rename St _ _ _ _ _ _ _ => S13
      clear S11
      refine br_f (by have := hspo.lo; simp; omega) ?_
      refine s_nilT ?_
      refine s_ifJ (fun s => ∃ t7 h7 t8, s = mk z h7 t8 ∧ St w h L [Str.ofString "fmt", Str.ofString "names", Str.ofString "text_encoding", Str.ofString "text_errors", Str.ofString "byte_order", Str.ofString "parsed_infos", Str.ofString "info", Str.ofString "infos", Str.ofString "endianness", Str.ofString "i", Str.ofString "parsed_info", Str.ofString "type_", Str.ofString "size", Str.ofString "name"]
        [some (.str (Mine.S (joinG gs)) tf), some .none, some (.str (Str.ofString "utf-8") te), some (.str (Str.ofString "strict") tr), some (.str (Mine.S (if mark then [60] else [])) tb), some (.ref l), u0, some (.ref o), some (.str (ordS (ltOf lt sp.o)) te2), some (.int (ix : Nat) ti), some (.ref p.1), some (.str (Mine.S [sp.k.code]) t2), some (.int sp.sz t7), some (.int (ix : Nat) ti)]
        ((I, oI) :: (o, listOf (xs.map Value.ref).toArray c) :: (M2 ++ ((l, listOf (M.map fun p => Value.ref p.1).toArray 0) :: (M ++ [])))) h7) ?_ ?_
      · repeat' (first | tm_at "m" | refine br_t rfl ?_)
        rename St _ _ _ _ _ _ _ => S14
        exact ⟨rfl, _, _, _, rfl, S14⟩
      rintro _ ⟨t9, h9, t9', rfl, S14⟩
      clear S13
      refine s_ifJ (fun s => ∃ x dx es nm ti2 h7 t8, s = mk z h7 t8 ∧ (sp.k.pad = false → ∃ t, nm = Value.int (ix : Nat) t) ∧ InfE sp.k sp.sz nm .none es ∧ St w h L [Str.ofString "fmt", Str.ofString "names", Str.ofString "text_encoding", Str.ofString "text_errors", Str.ofString "byte_order", Str.ofString "parsed_infos", Str.ofString "info", Str.ofString "infos", Str.ofString "endianness", Str.ofString "i", Str.ofString "parsed_info", Str.ofString "type_", Str.ofString "size", Str.ofString "name"]
        [some (.str (Mine.S (joinG gs)) tf), some .none, some (.str (Str.ofString "utf-8") te), some (.str (Str.ofString "strict") tr), some (.str (Mine.S (if mark then [60] else [])) tb), some (.ref l), some (.ref x), some (.ref o), some (.str (ordS (ltOf lt sp.o)) te2), some (.int ((if sp.k.pad then ix else ix + 1 : Nat)) ti2), some (.ref p.1), some (.str (Mine.S [sp.k.code]) t2), some (.int sp.sz t9), some (.int (ix : Nat) ti)]
        ((x, instObj sp.k.cls dx) :: (dx, dicO es) :: (I, oI) :: (o, listOf (xs.map Value.ref).toArray c) :: (M2 ++ ((l, listOf (M.map fun p => Value.ref p.1).toArray 0) :: (M ++ [])))) h7) ?_ ?_
      · have hlo := hspo.lo
        have hhi := hspo.hi
        have hix : ((ix : Nat) : Int) + 1 = ((ix + 1 : Nat) : Int) := by omega
        obtain ⟨so, sk, ss⟩ := sp
        dsimp only at *
        tm_at "ms"
        cases sk
        case u =>
          repeat' (first | tm_at "m" | tm_at "m_br")
          refine ⟨S14.G.X, new_u (k := .u) (.inl rfl) (r'.le (by omega)) S14.G _ _ _ (by omega) rfl ?_⟩
          intro x dx es h15 t15 k15 ob nx nd nxd ie
          have S15 := S14.adds k15 [(x, instObj (Kd.cls .u) dx), (dx, dicO es)] (two ob nx nd) (two_nd nxd)
          clear S14
          repeat' (first | tm_at "m" | tm_at "m_br")
          rename St _ _ _ _ _ _ _ => S16
          rw [hix] at S16
          exact ⟨rfl, x, dx, es, _, _, _, _, rfl, fun _ => ⟨_, rfl⟩, ie, S16⟩
        case s =>
          repeat' (first | tm_at "m" | tm_at "m_br")
          refine ⟨S14.G.X, new_s (r'.le (by omega)) S14.G _ _ _ hlo (by omega) rfl ?_⟩
          intro x dx es h15 t15 k15 ob nx nd nxd ie
          have S15 := S14.adds k15 [(x, instObj (Kd.cls .s) dx), (dx, dicO es)] (two ob nx nd) (two_nd nxd)
          clear S14
          repeat' (first | tm_at "m" | tm_at "m_br")
          rename St _ _ _ _ _ _ _ => S16
          rw [hix] at S16
          exact ⟨rfl, x, dx, es, _, _, _, _, rfl, fun _ => ⟨_, rfl⟩, ie, S16⟩
        case b =>
          repeat' (first | tm_at "m" | tm_at "m_br")
          refine ⟨S14.G.X, new_u (k := .b) (.inr rfl) (r'.le (by omega)) S14.G _ _ _ (by omega) rfl ?_⟩
          intro x dx es h15 t15 k15 ob nx nd nxd ie
          have S15 := S14.adds k15 [(x, instObj (Kd.cls .b) dx), (dx, dicO es)] (two ob nx nd) (two_nd nxd)
          clear S14
          repeat' (first | tm_at "m" | tm_at "m_br")
          rename St _ _ _ _ _ _ _ => S16
          rw [hix] at S16
          exact ⟨rfl, x, dx, es, _, _, _, _, rfl, fun _ => ⟨_, rfl⟩, ie, S16⟩
        case r =>
          repeat' (first | tm_at "m" | tm_at "m_br")
          refine ⟨S14.G.X, new_0 (k := .r) (.inl rfl) (r'.le (by omega)) S14.G _ _ _ _ (.inl rfl) ?_⟩
          intro x dx es h15 t15 k15 ob nx nd nxd ie
          have S15 := S14.adds k15 [(x, instObj (Kd.cls .r) dx), (dx, dicO es)] (two ob nx nd) (two_nd nxd)
          clear S14
          repeat' (first | tm_at "m" | tm_at "m_br")
          rename St _ _ _ _ _ _ _ => S16
          rw [hix] at S16
          exact ⟨rfl, x, dx, es, _, _, _, _, rfl, fun _ => ⟨_, rfl⟩, ie, S16⟩
        case t =>
          repeat' (first | tm_at "m" | tm_at "m_br")
          refine ⟨S14.G.X, new_t (r'.le (by omega)) S14.G _ _ _ _ _ ?_⟩
          intro x dx es h15 t15 k15 ob nx nd nxd ie
          have S15 := S14.adds k15 [(x, instObj (Kd.cls .t) dx), (dx, dicO es)] (two ob nx nd) (two_nd nxd)
          clear S14
          repeat' (first | tm_at "m" | tm_at "m_br")
          rename St _ _ _ _ _ _ _ => S16
          rw [hix] at S16
          exact ⟨rfl, x, dx, es, _, _, _, _, rfl, fun _ => ⟨_, rfl⟩, ie, S16⟩
        case f =>
          repeat' (first | tm_at "m" | tm_at "m_br")
          refine ⟨S14.G.X, new_0 (k := .f) (.inr (.inl rfl)) (r'.le (by omega)) S14.G _ _ _ _ (.inl rfl) ?_⟩
          intro x dx es h15 t15 k15 ob nx nd nxd ie
          have S15 := S14.adds k15 [(x, instObj (Kd.cls .f) dx), (dx, dicO es)] (two ob nx nd) (two_nd nxd)
          clear S14
          repeat' (first | tm_at "m" | tm_at "m_br")
          rename St _ _ _ _ _ _ _ => S16
          rw [hix] at S16
          exact ⟨rfl, x, dx, es, _, _, _, _, rfl, fun _ => ⟨_, rfl⟩, ie, S16⟩
        case p =>
          repeat' (first | tm_at "m" | tm_at "m_br")
          refine ⟨S14.G.X, new_0 (k := .p) (.inr (.inr (.inl rfl))) (r'.le (by omega)) S14.G _ _ _ _ (.inr ⟨rfl, rfl⟩) ?_⟩
          intro x dx es h15 t15 k15 ob nx nd nxd ie
          have S15 := S14.adds k15 [(x, instObj (Kd.cls .p) dx), (dx, dicO es)] (two ob nx nd) (two_nd nxd)
          clear S14
          repeat' (first | tm_at "m" | tm_at "m_br")
          rename St _ _ _ _ _ _ _ => S16
          exact ⟨rfl, x, dx, es, _, _, _, _, rfl, fun q => (by cases q), ie, S16⟩
        case P =>
          repeat' (first | tm_at "m" | tm_at "m_br")
          refine ⟨S14.G.X, new_0 (k := .P) (.inr (.inr (.inr rfl))) (r'.le (by omega)) S14.G _ _ _ _ (.inr ⟨rfl, rfl⟩) ?_⟩
          intro x dx es h15 t15 k15 ob nx nd nxd ie
          have S15 := S14.adds k15 [(x, instObj (Kd.cls .P) dx), (dx, dicO es)] (two ob nx nd) (two_nd nxd)
          clear S14
          repeat' (first | tm_at "m" | tm_at "m_br")
          rename St _ _ _ _ _ _ _ => S16
          exact ⟨rfl, x, dx, es, _, _, _, _, rfl, fun q => (by cases q), ie, S16⟩
      rintro _ ⟨x, dx, es, nm, ti2, h8, t8, rfl, hnm, ie, S15⟩
      clear S14
      tm_at "ms"
      refine v_endi (k := sp.k) (es := es) S15 (.head _) (fun _ => .next .here) ie ?_
      intro es' h10 t10 ie' S16
      clear S15
      tm_at "ms"
      refine v_append S16 (.next (.next (.next .here))) (by have := hM2.len; rw [sizeLine_eq]; simp; have := hM.len; simp at hi; omega) ?_
      intro h11 S17
      refine ⟨rfl, ?_⟩
      tm_at "ms"
      have e1 : xs.map Value.ref ++ [Value.ref x] = (xs ++ [x]).map Value.ref := by simp
      rw [e1] at S17
      refine Turned.mk' (S17.perm perm4) ⟨ltOf lt sp.o, if sp.k.pad then ix else ix + 1, xs ++ [x], done ++ [⟨sp.k, sp.sz, ltOf lt sp.o, ix⟩], _, _, _, _, _, _, _, _, _, _, ?_, by simp [hd], .snoc hM2 ie' hnm, rfl, rfl⟩
      rw [hg, hdrop]
      simp [giL]
    · rintro vs N h5 t5 ⟨lt, ix, xs, done, M2, c, o, te', ti, u0, u1, u2, u3, u4, hg, hd, hM2, rfl, rfl⟩ S9
      tm_at "ms"
      refine e_or ?_
      tm_at "ms"
      have hN : sps.drop (M.map fun p => Value.ref p.1).length = [] := List.drop_eq_nil_of_le (by have := hM.len; rw [← hgs] at this; simp at this ⊢; omega)
      rw [hN] at hg
      have hg' : giL false 0 sps = done := by rw [hg]; simp [giL]
      have fin : ∀ a tb2 h8 t8 N2, St w h L [Str.ofString "fmt", Str.ofString "names", Str.ofString "text_encoding", Str.ofString "text_errors", Str.ofString "byte_order", Str.ofString "parsed_infos", Str.ofString "info", Str.ofString "infos", Str.ofString "endianness", Str.ofString "i", Str.ofString "parsed_info", Str.ofString "type_", Str.ofString "size", Str.ofString "name"]
        [some (.str (Mine.S (joinG gs)) tf), some .none, some (.str (Str.ofString "utf-8") te), some (.str (Str.ofString "strict") tr), some (.str (Mine.S (if mark then [60] else [])) tb), some (.ref l), u0, some (.ref o), some (.str (ordS lt) te'), some (.int (ix : Nat) ti), u1, u2, u3, u4]
        ((a, tupOf [.ref o, .str (ordS mark) tb2]) :: (o, listOf (xs.map Value.ref).toArray c) :: (M2 ++ N2)) h8 → QV (.ref a) (mk z h8 t8) := by
        intro a tb2 h8 t8 N2 S10
        have hm : ∀ p ∈ (o, listOf (xs.map Value.ref).toArray c) :: M2, p ∈ (a, tupOf [.ref o, .str (ordS mark) tb2]) :: (o, listOf (xs.map Value.ref).toArray c) :: (M2 ++ N2) := fun p hp => by
          rcases List.mem_cons.mp hp with rfl | hp
          · exact .tail _ (.head _)
          · exact .tail _ (.tail _ (List.mem_append_left _ hp))
        refine q a o M2 xs c tb2 h8 t8 S10.F.keep (by rw [hg']; exact hM2) (fun p hp => ⟨(S10.W p (hm p hp)).1, (S10.W p (hm p hp)).2.2⟩) ?_ (isTup_of S10 (.head _))
        exact List.Sublist.nodup ((((List.sublist_append_left M2 N2).cons_cons _).cons _).map _) S10.nd
      refine c_str (by split <;> simp) fun tk => ?_
      cases mark with
      | true =>
        refine br_t rfl ?_
        tm_at "ms"
        rename St _ _ _ _ _ _ _ => S10
        exact fin _ _ _ _ _ S10
      | false =>
        refine br_f rfl ?_
        refine e_bool1 ?_
        tm_at "ms"
        rename St _ _ _ _ _ _ _ => S10
        rw [lit_gt] at S10
        exact fin _ _ _ _ _ S10
end
end
section
open PySem PySem.W PyProof.Rows PySem.Calls
theorem InfM.get {M : List (Addr × Obj)} {xs : List Addr} {gs : List Gi} (i : InfM M xs gs) : ∀ {j : Nat} {x : Addr}, xs[j]? = some x →
    ∃ g dx es nm te, gs[j]? = some g ∧ (x, instObj g.k.cls dx) ∈ M ∧ (dx, dicO es) ∈ M ∧ InfE g.k g.sz nm (.str (ordS g.lt) te) es ∧ (g.k.pad = false → ∃ t, nm = .int g.ix t) := by
  induction i with
  | nil => intro j x h; simp at h
  | @snoc M xs gs g x dx es nm te i ie hn ih =>
    intro j y h
    have hl := i.len
    by_cases hj : j < xs.length
    · rw [List.getElem?_append_left hj] at h
      obtain ⟨g', dx', es', nm', te', a, b, c, d, e⟩ := ih h
      exact ⟨g', dx', es', nm', te', by rw [List.getElem?_append_left (by omega)]; exact a, .tail _ (.tail _ b), .tail _ (.tail _ c), d, e⟩
    · rw [List.getElem?_append_right (by omega)] at h
      have h0 : j - xs.length = 0 := by
        rcases Nat.eq_zero_or_pos (j - xs.length) with q | q
        · exact q
        · rw [List.getElem?_eq_none (by show 1 ≤ _; omega)] at h; cases h
      rw [h0] at h
      cases h
      exact ⟨g, dx, es, nm, te, by rw [List.getElem?_append_right (by omega), show j - gs.length = 0 by omega]; rfl, .head _, .tail _ (.head _), ie, hn⟩
section
variable {w : World} {A : Around} {E : Value → Shared → Prop} {z : Shared} {h h₀ : Heap} {t : Nat} {L : Addr} {env : Env} {s : Shared} {Q : Flow → Shared → Prop}
  {ns gs : List Str} {vs vs' : List (Option Value)} {N : List (Addr × Obj)} {QV : Value → Shared → Prop} {rest : List Stmt}
theorem v_sum {l : Addr} {its : List Value} {is : List Int} {c : Nat} (hh : A.handled = none) (S : St w h₀ L ns vs N h) (hm : (l, listOf its.toArray c) ∈ N) (hi : IntsAre its is)
    (k : ∀ t1 h' t', St w h₀ L ns vs N h' → QV (.int is.sum t1) (mk z h' t')) : wpAny (model Prg w) A (call (.builtin "sum") [.ref l]) QV E (mk z h t) :=
  LSm.sum_ints (s := mk z h t) S.F S.W hh (isList_of S hm) hi fun h' tk t' F' N' => k t' h' tk ⟨F', N', S.G₀, S.nd, S.len⟩
theorem s_augattr {o value : Expr} {attr : Str} {tpos pos : Pos} {op : Operator}
    (k : wpAny (model Prg w) A (eval o env) (fun ov s₁ => wpAny (model Prg w) A (getAttr ov attr true) (fun old s₂ => wpAny (model Prg w) A (eval value env) (fun v s₃ => wpAny (model Prg w) A (inplaceOp op old v) (fun new s₄ =>
            wpAny (model Prg w) A (setAttr ov attr new) (fun _ s₅ => wpAny (model Prg w) A (execs rest env) Q E s₅) E s₄) E s₃) E s₂) E s₁) E s) :
    wpAny (model Prg w) A (execs (.AugAssign (.Attribute o attr tpos) op value pos :: rest) env) Q E s := s_cons (wpAny_AugAssign_AttributeAny k)
end
end
local macro_rules | `(tactic| tm_at "m_s") => `(tactic| with_reducible refine s_augattr ?_)
section
open PySem PySem.W PyProof.Rows PySem.Calls
section
variable {w : World} {A : Around} {E : Value → Shared → Prop} {z : Shared} {h : Heap} {t : Nat} {QV : Value → Shared → Prop}
theorem c_cfb {x dx : Addr} (r : Room A 12) (G : Gl w (h.hide dx)) (hx : (h.hide dx).get? x = some (instObj 507 dx)) (hd : h.get? dx = some (dicO [])) (sps : List Sp) (hok : ∀ s ∈ sps, s.Ok) (hne : sps ≠ []) (hz : sps.length ≤ 10) (mark : Bool) (tf te tr : Tok)
    (k : ∀ l M xs c t1 t2 t3 tb n tn h' t', (∀ b o, b ≠ dx → h.get? b = some o → h'.get? b = some o) → h'.get? dx = some (dicO [de w "_infos" t1 (.ref l), de w "_byte_order" t2 (.str (ordS mark) tb), de w "_number_of_bits_to_unpack" t3 (.int n tn)]) →
      InfM M xs (giL false 0 sps) → (∀ p ∈ (l, listOf (xs.map Value.ref).toArray c) :: M, h'.get? p.1 = some p.2 ∧ h.get? p.1 = none) → (((l, listOf (xs.map Value.ref).toArray c) :: M).map (·.1)).Nodup → QV .none (mk z h' t')) :
    codeAny (model Prg w) A (.call (.ref 417) ⟨[.ref x, .str (S (joinG (sps.map Sp.grp) ++ if mark then [60] else [])) tf, .none, .str (Str.ofString "utf-8") te, .str (Str.ofString "strict") tr], []⟩) (CR QV) (mk z h t) := by
  have X : (KK w).In (mk z h t).heap := G.X.keeps fun b o e => Heap.of_hide e
  generalize hft : (S (joinG (sps.map Sp.grp) ++ if mark then [60] else [])) = ft
  refine enterC (n := 11) (binds := [(Str.ofString "self", .ref x), (Str.ofString "fmt", .str ft tf), (Str.ofString "names", .none), (Str.ofString "text_encoding", .str (Str.ofString "utf-8") te), (Str.ofString "text_errors", .str (Str.ofString "strict") tr)]) (h.hide dx) [(dx, dicO [])]
    [Str.ofString "self", Str.ofString "fmt", Str.ofString "names", Str.ofString "text_encoding", Str.ofString "text_errors", Str.ofString "infos", Str.ofString "byte_order"] [Str.ofString "_parse_format", Str.ofString "sum"] rfl r G
    (fun b o e => Heap.of_hide e) (Nat.le_of_eq (Heap.hide_size h dx)) (hide_N hd) (by simp) (by kernel_rfl) (binds_K X rfl rfl rfl rfl rfl) (by tm_at "m_sc") ⟨rfl, rfl, rfl, rfl, rfl, trivial⟩ ?_
  intro A' L h' t' env he r' hfr C S
  dsimp only [initL] at S
  have hin : interactive env = false := by rw [he]; with_unfolding_all rfl
  clear he hfr
  have ic := ic_CF w
  tm_at "m_unp"
  tm_at "ms"
  refine ⟨S.G.X, ?_⟩
  rw [← hft]
  refine c_parse (r'.le (by omega)) S.G sps hok hne hz mark _ _ _ ?_
  intro a l M xs c tb h1 t1 k1 hM hn nd ht
  have S1 := S.adds k1 ((l, listOf (xs.map Value.ref).toArray c) :: M) hn nd
  refine unp S1 ht rfl (by tm_at "m_puts") ?_
  intro h2 t2 S2
  clear S S1
  have S3 := S2.perm (N' := (dx, dicO []) :: (l, listOf (xs.map Value.ref).toArray c) :: M) (List.perm_append_comm (l₁ := [(dx, dicO [])]) (l₂ := (l, listOf (xs.map Value.ref).toArray c) :: M))
  clear S2
  have hx3 := S3.F.keep _ _ hx
  tm_at "ms"
  rename St _ _ _ _ _ _ _ => S4
  refine e_comp (h₀ := h.hide dx) [Str.ofString ".0", Str.ofString "info"] [] (by tm_at "m_asm") (by tm_at "m_scC") rfl (by tm_at "m_idx") (by tm_at "m_hs") (by tm_at "m_hs") ?_
  tm_at "ms"
  generalize hN : (dx, dicO _) :: (l, listOf (xs.map Value.ref).toArray c) :: M = N4 at S4
  have hml : (l, listOf (xs.map Value.ref).toArray c) ∈ N4 := by rw [← hN]; exact .tail _ (.head _)
  have hmM : ∀ p ∈ M, p ∈ N4 := fun p hp => by rw [← hN]; exact .tail _ (.tail _ hp)
  have hlen : xs.length ≤ 1000 := by
    have := hM.len
    have e : ∀ (sps : List Sp) lt i, (giL lt i sps).length = sps.length := by
      intro sps
      induction sps with
      | nil => intro _ _; rfl
      | cons s r ih => intro lt i; simp [giL, ih]
    rw [e] at this; omega
  refine ⟨_, _, _, _, _, fun i its N => N = N4 ∧ ∃ is, IntsAre its is ∧ its.length = i, it_list r'.hd S4 hml, by simp; omega, ⟨rfl, [], .nil, rfl⟩, ?_, ?_, ?_, ?_⟩
  · rintro i its N ⟨rfl, _⟩ p hp
    rw [List.mem_singleton.mp hp]; exact hml
  · rintro i its N ⟨rfl, is, _, h⟩
    omega
  · rintro g C2 cenv D vsC i v its N h5 t5 o cc I ec Cc hi hv ⟨rfl, is, hi1, hi2⟩ hvl hg S5
    obtain ⟨u0, u1, rfl⟩ : ∃ a b, vsC = [a, b] := by
      rcases vsC with _ | ⟨a, _ | ⟨b, _ | ⟨c, r⟩⟩⟩ <;> simp at hvl
      exact ⟨a, b, rfl⟩
    simp only [List.set_cons_succ, List.set_cons_zero] at S5
    obtain ⟨y, hy, rfl⟩ : ∃ y, xs[i]? = some y ∧ v = .ref y := by
      rw [List.getElem?_map] at hv
      cases e : xs[i]? with
      | none => rw [e] at hv; cases hv
      | some p => rw [e] at hv; cases hv; exact ⟨p, rfl, rfl⟩
    obtain ⟨gi, dy, es, nm, tn, _, m1, m2, ie, _⟩ := hM.get hy
    obtain ⟨ts, gsz⟩ := ie.size
    have icg := Kd.ic w gi.k
    have ob := Ob.of S5 (.tail _ (.tail _ (hmM _ m1))) (.tail _ (.tail _ (hmM _ m2)))
    refine f_nil ?_
    rw [if_pos rfl]
    tm_at "ms"
    exact ⟨_, _, _, _, rfl, S5, rfl, is ++ [_], ints_snoc hi1 _ _, by simp [hi2]⟩
  · rintro its N h5 t5 D cc ⟨rfl, is, hi1, hi2⟩ S5
    tm_at "ms"
    refine v_sum r'.hd S5 (.head _) hi1 fun t6 h6 t7 S6 => ?_
    have S7 := S6.tail
    clear S6 S5 S4 S3
    subst hN
    tm_at "ms"
    rename St _ _ _ _ _ _ _ => S8
    have hnd := List.nodup_cons.mp S8.nd
    refine k l M xs c _ _ _ tb _ _ _ _ (fun b o hb e => S8.F.keep _ _ ((Heap.hide_ne h hb).trans e)) (S8.W _ (.head _)).1 hM (fun p hp => ⟨(S8.W p (.tail _ hp)).1, ?_⟩) hnd.2
    rw [← Heap.hide_ne h (fun e => hnd.1 (List.mem_map.mpr ⟨p, hp, e⟩) : p.1 ≠ dx)]
    exact (S8.W p (.tail _ hp)).2.2
end
end
section
open PySem PySem.W PyProof.Rows PySem.Calls
/-- the scope of a def with cells -/
structure ScX (scope : Scope) (ns gs : List Str) : Prop where
  kind : scope.kind = .function
  nodup : ns.Nodup
  loc : ∀ x ∈ ns, scope.names.lookup x = some .local
  glo : ∀ x ∈ gs, scope.names.lookup x = some .globalImplicit
  dbg : ∀ x ∈ ns, (x == ("__debug__" : Str)) = false
  dbg' : ∀ x ∈ gs, (x == ("__debug__" : Str)) = false
  co : scope.isCoroutine = false
  gen : scope.isGenerator = false
theorem ScX.of {scope : Scope} {ns gs : List Str} (hk : scope.kind = .function) (hns : scope.names.filterMap locOf = ns) (hgs : scope.names.filterMap gloOf = gs)
    (nd : nodupN ((Str.ofString "__debug__" :: scope.names.map (·.1)).map key) = true) (co : scope.isCoroutine = false) (gen : scope.isGenerator = false) : ScX scope ns gs := by
  have ndl := nodup_of nd
  have nd1 := (List.nodup_cons.mp ndl)
  have sub : ns.Sublist (scope.names.map (·.1)) := by
    rw [← hns]
    generalize scope.names = l
    induction l with
    | nil => exact .slnil
    | cons p r ih =>
      obtain ⟨x, k⟩ := p
      cases k <;> simp only [List.filterMap_cons, locOf, List.map_cons] <;> first | exact ih.cons_cons _ | exact ih.cons _
  have l1 : ∀ x ∈ ns, (x, NameKind.local) ∈ scope.names := by
    intro x hx
    rw [← hns] at hx
    obtain ⟨⟨y, k⟩, hm, e⟩ := List.mem_filterMap.mp hx
    cases k <;> simp [locOf] at e
    subst e; exact hm
  have g1 : ∀ x ∈ gs, (x, NameKind.globalImplicit) ∈ scope.names := by
    intro x hx
    rw [← hgs] at hx
    obtain ⟨⟨y, k⟩, hm, e⟩ := List.mem_filterMap.mp hx
    cases k <;> simp [gloOf] at e
    subst e; exact hm
  have db : ∀ x, x ∈ scope.names.map (·.1) → (x == ("__debug__" : Str)) = false := by
    intro x hx
    have : x ≠ Str.ofString "__debug__" := fun e => nd1.1 (e ▸ hx)
    simpa using this
  exact ⟨hk, sub.nodup nd1.2, fun x hx => lookup_of_mem nd1.2 (l1 x hx), fun x hx => lookup_of_mem nd1.2 (g1 x hx), fun x hx => db x (List.mem_map.mpr ⟨_, l1 x hx, rfl⟩), fun x hx => db x (List.mem_map.mpr ⟨_, g1 x hx, rfl⟩), co, gen⟩
/-- a name that is a cell -/
structure Ce (env : Env) (x : Str) (c : Addr) : Prop where
  knd : env.scope.kind = .function
  kind : env.kindOf x = some .cell
  addr : env.cells.lookup x = some c
  dbg : (x == ("__debug__" : Str)) = false
section
variable {w : World} {A : Around} {E : Value → Shared → Prop} {z : Shared} {h h₀ : Heap} {t : Nat} {L c : Addr} {env : Env} {s : Shared} {o : Obj} {x : Str} {pos : Pos} {v : Value} {v₀ : Option Value}
  {ns gs : List Str} {vs vs' : List (Option Value)} {N : List (Addr × Obj)} {QV : Value → Shared → Prop} {QU : Unit → Shared → Prop}
theorem x_cell (C : Ce env x c) (S : St w h₀ L ns vs N h) (hm : (c, o) ∈ N) (hd : o.data = .cell (some v)) (k : QV v (mk z h t)) : wpAny (model Prg w) A (eval (.Name x pos) env) QV E (mk z h t) :=
  wpAny_Name (wpAny_loadName_cell C.knd C.kind C.addr ⟨o, (S.W _ hm).1, hd⟩ k) C.dbg
theorem x_putc {N' : Obj → List (Addr × Obj)} (C : Ce env x c) (S : St w h₀ L ns vs N h) (hd : o.data = .cell v₀) (u : ∀ o', UpdN N c o o' (N' o'))
    (k : ∀ o' h', o'.data = .cell (some v) → St w h₀ L ns vs (N' o') h' → QU () (mk z h' t)) : wpAny (model Prg w) A (storeName env x v) QU E (mk z h t) := by
  refine wpAny_storeName_cell C.knd C.kind C.addr ⟨o, (S.W _ (u o).mem).1, hd⟩ fun h' hc hs => ?_
  obtain ⟨o', ho', hd'⟩ := hc
  exact k o' h' hd' (S.upd (u o') (fun b x hb e => (hs.2 b hb).trans e) ho')

/-- entering a def with one cell -/
theorem enterCell {n : Nat} {name qual : Str} {params : Arguments} {body : List Stmt} {scope : Scope} {dV kV doc pm cdv ct oc : Value} {an od : Option Addr} {osl : Array (Option Value)} {f : Addr}
    {args : List Value} {binds : List (Str × Value)} (g : Heap) (N₀ : List (Addr × Obj)) (ns gs : List Str) (cn : Str) (lb : List (Str × Value)) (cv : Option Value)
    (ho : (KK w).lookup f = some ⟨oc, od, .func (fnX name qual params body scope [] dV kV doc pm an cdv ct), osl⟩) (r : Room A (n + 1)) (G : Gl w g) (gs' : g.StaysIn h) (gz : g.objs.size ≤ h.objs.size)
    (gN : ∀ p ∈ N₀, h.get? p.1 = some p.2 ∧ g.get? p.1 = none) (nd : (N₀.map (·.1)).Nodup) (hcd : codeIn (KK w) cdv qual = true)
    (hbind : bindArgs (fnX name qual params body scope [] dV kV doc pm an cdv ct) ⟨args, []⟩ = pure binds) (C : ScX scope ns gs) (hi : initOk lb ns)
    (hcl : ∀ L, (cellsFrom (L + 1) scope.names []).lookup cn = some (L + 1)) (hcn : scope.names.lookup cn = some .cell) (hcd' : (cn == ("__debug__" : Str)) = false)
    (hkind : ∀ x ∈ binds, scope.names.lookup x.1 = some .local ∨ (scope.names.lookup x.1 = some .cell ∧ x.1 = cn))
    (hm : bindL (fun x => scope.names.lookup x) binds (fun _ => none) = look ns (initL lb ns)) (hc : bindC (fun x => scope.names.lookup x) binds (fun _ => none) cn = cv)
    (k : ∀ A' L h' t' env o, env = callEnvC (fnX name qual params body scope [] dV kV doc pm an cdv ct) L f → Room A' n → (∃ l, A'.frames = some (env :: l)) → Fn env L ns gs → Ce env cn (L + 1) → o.data = .cell cv → St w g L ns (initL lb ns) ((L + 1, o) :: N₀) h' →
      wpAny (model Prg w) A' (execs body env) (fun fl s' => QV (match fl with | .ret v => v | _ => .none) s') (fun _ _ => False) (mk z h' t')) :
    wpAny (model Prg w) A (call (.ref f) args) QV E (mk z h t) := by
  obtain ⟨p, lo, mg, mb, T⟩ := (G.keeps gs').T
  have X := G.X.keeps gs'
  refine wpAny_call ?_
  refine codeAny_call_cells (s := mk z h t) (fd := fnX name qual params body scope [] dV kV doc pm an cdv ct) (body := body) (binds := binds) r.depth (X _ _ ho) rfl T.nolimit (codeRec_of X hcd) rfl hbind rfl
    (fun x hx => (hkind x hx).imp id fun q => ⟨q.1, by rw [q.2]; show ((cellsFrom (h.objs.size + 1) scope.names []).lookup cn).isSome = true; rw [hcl]; rfl⟩) (fun s₁ Y => ?_) C.co C.gen C.kind
  obtain ⟨h₁, tk, rfl, _⟩ := Y.done
  obtain ⟨l, hl⟩ := r.fr
  have hcell := Y.cell cn (h.objs.size + 1) (hcl _)
  obtain ⟨o, ho1, ho2⟩ := hcell
  have hk := Y.toInCall.keep
  have gc : ∀ b o, g.get? b = some o → b < h.objs.size := fun b o e => Nat.lt_of_lt_of_le (Heap.lt_size e) gz
  have ho2' : o.data = .cell cv := by rw [← hc]; exact ho2
  refine wpAny_mono (k (A.deeper (callEnvC (fnX name qual params body scope [] dV kV doc pm an cdv ct) h.objs.size f)) h.objs.size h₁ tk _ o rfl (r.deeper (Nat.le_refl _)) ⟨l, by show A.frames.map _ = _; rw [hl]; rfl⟩
    ⟨C.kind, C.nodup, C.loc, C.glo, C.dbg, C.dbg', rfl, rfl, rfl, rfl⟩ ⟨C.kind, hcn, hcl _, hcd'⟩ ho2' ⟨⟨hm ▸ Y.toInCall.ns, fun b o e => hk b o (gs' b o e), gz⟩, fun p hp => ?_, G, List.nodup_cons.mpr ⟨fun q => ?_, nd⟩, initL_len _ _⟩) (fun fl s' q => ?_) fun _ _ q => q.elim
  · rcases List.mem_cons.mp hp with rfl | hp
    · exact ⟨ho1, Nat.succ_ne_self _, Heap.get?_none_of_le (Nat.le_succ_of_le gz)⟩
    · exact ⟨hk _ _ (gN p hp).1, fun e => absurd (Heap.lt_size (gN p hp).1) (by rw [e]; exact Nat.lt_irrefl _), (gN p hp).2⟩
  · obtain ⟨p, hp, e⟩ := List.mem_map.mp q
    have := Heap.lt_size (gN p hp).1
    rw [e] at this
    exact absurd this (by show ¬ h.objs.size + 1 < h.objs.size; omega)
  · cases fl <;> exact q
end
end
local macro_rules | `(tactic| tm_at "m_scX") => `(tactic| exact ScX.of rfl rfl rfl (by kernel_rfl) rfl rfl)
local macro_rules | `(tactic| tm_at "m_e") => `(tactic| ((with_reducible refine' x_cell ?C ?S ?m ?d ?_); (case C => tm_at "m_asm"); (case S => tm_at "m_asm"); (case m => tm_at "m_mem"); (case d => tm_at "m_asm")))
section
open PySem PySem.W PyProof.Rows PySem.Calls
theorem St.born {w : World} {h h' h₀ : Heap} {L : Addr} {ns : List Str} {vs vs' : List (Option Value)} {N N' : List (Addr × Obj)} (S : St w h₀ L ns vs N h) (S' : St w h₀ L ns vs' N' h') (hk : N'.map (·.1) = N.map (·.1)) (M : List (Addr × Obj))
    (hM : ∀ p ∈ M, h'.get? p.1 = some p.2 ∧ h.get? p.1 = none) (nd : (M.map (·.1)).Nodup) : St w h₀ L ns vs' (M ++ N') h' := by
  refine ⟨S'.F, fun p hp => ?_, S'.G₀, ?_, S'.len⟩
  · rcases List.mem_append.mp hp with hp | hp
    · have := hM p hp
      refine ⟨this.1, fun e => ?_, ?_⟩
      · obtain ⟨oL, _, _, hL, _⟩ := S.F.ns
        have h2 := this.2
        rw [e, hL] at h2; cases h2
      · cases q : h₀.get? p.1 with
        | none => rfl
        | some o' => have h2 := this.2; rw [S.F.keep _ _ q] at h2; cases h2
    · exact S'.W p hp
  · rw [List.map_append, List.nodup_append, hk]
    refine ⟨nd, S.nd, fun a ha b hb e => ?_⟩
    subst e
    obtain ⟨p, hp, rfl⟩ := List.mem_map.mp ha
    obtain ⟨q, hq, e⟩ := List.mem_map.mp hb
    have h1 := (S.W q hq).1
    rw [show q.1 = p.1 from e, (hM p hp).2] at h1; cases h1
/-- the entries of a compiled object -/
structure CfE (es : List DictEntry) (l : Addr) (mark : Bool) (n : Nat) : Prop where
  infos : GetE es "_infos" (.ref l)
  ord : ∃ t, GetE es "_byte_order" (.str (ordS mark) t)
  args : ∃ t, GetE es "_number_of_arguments" (.int n t)
  pack : NotE es "pack"
  any : NotE es "pack_any"
  value : NotE es "pack_value"
  len : es.length ≤ 10
def cntA (gs : List Gi) : Nat := (gs.filter fun g => !g.k.pad).length
theorem cntA_snoc (gs : List Gi) (i : Nat) (g : Gi) (h : gs[i]? = some g) : cntA (gs.take (i + 1)) = cntA (gs.take i) + if g.k.pad then 0 else 1 := by
  unfold cntA
  rw [List.take_add_one, h, List.filter_append, List.length_append]
  cases hp : g.k.pad <;> simp [hp]
section
variable {w : World} {A : Around} {E : Value → Shared → Prop} {z : Shared} {h : Heap} {t : Nat} {QV : Value → Shared → Prop}
set_option maxHeartbeats 4000000 in
theorem c_cfinit {x dx : Addr} (r : Room A 14) (G : Gl w (h.hide dx)) (hx : (h.hide dx).get? x = some (instObj 507 dx)) (hd : h.get? dx = some (dicO [])) (sps : List Sp) (hok : ∀ s ∈ sps, s.Ok) (hne : sps ≠ []) (hz : sps.length ≤ 10) (mark : Bool) (tf : Tok)
    (k : ∀ l M xs c es h' t', (∀ b o, b ≠ dx → h.get? b = some o → h'.get? b = some o) → h'.get? dx = some (dicO es) → CfE es l mark (cntA (giL false 0 sps)) →
      InfM M xs (giL false 0 sps) → (∀ p ∈ (l, listOf (xs.map Value.ref).toArray c) :: M, h'.get? p.1 = some p.2 ∧ h.get? p.1 = none) → (((l, listOf (xs.map Value.ref).toArray c) :: M).map (·.1)).Nodup → QV .none (mk z h' t')) :
    codeAny (model Prg w) A (.call (.ref 476) ⟨[.ref x, .str (S (joinG (sps.map Sp.grp) ++ if mark then [60] else [])) tf], []⟩) (CR QV) (mk z h t) := by
  have hx' : h.get? x = some (instObj 507 dx) := Heap.of_hide hx
  have ic := ic_CF w
  have X : (KK w).In (mk z h t).heap := G.X.keeps fun b o e => Heap.of_hide e
  generalize hft : (S (joinG (sps.map Sp.grp) ++ if mark then [60] else [])) = ft
  refine enterSup (n := 13) (C := 507) (D := 507) (f2 := 417) (binds := [(Str.ofString "self", .ref x), (Str.ofString "fmt", .str ft tf), (Str.ofString "text_encoding", .str (Str.ofString "utf-8") 1023), (Str.ofString "text_errors", .str (Str.ofString "strict") 1024)]) (h.hide dx) [(dx, dicO [])] [Str.ofString "self", Str.ofString "fmt", Str.ofString "text_encoding", Str.ofString "text_errors", Str.ofString "info"] [Str.ofString "super", Str.ofString "isinstance", Str.ofString "_Padding"] false
    rfl r G (fun b o e => Heap.of_hide e) (Nat.le_of_eq (Heap.hide_size h dx)) rfl (hide_N hd) (by simp) (by kernel_rfl) (binds_K X rfl rfl rfl rfl rfl) (by tm_at "m_sc") ⟨rfl, rfl, rfl, rfl, trivial⟩
    rfl rfl (Ob.inst ⟨hx', hd⟩) rfl rfl (by decide +kernel) rfl rfl (by kernel_rfl) (by kernel_rfl) (by decide +kernel) rfl rfl rfl (by decide +kernel) (by kernel_rfl) (by kernel_rfl) (by kernel_rfl) (by kernel_rfl) (by kernel_rfl)
    (fun _ => by with_unfolding_all rfl) (fun _ => by with_unfolding_all rfl) (fun _ => ⟨_, by with_unfolding_all rfl⟩) (fun _ => by with_unfolding_all rfl) (fun _ => by with_unfolding_all rfl) ?_
  intro A' L h' t' env so q he r' hfr Cf S
  have hin : interactive env = false := by rw [he]; with_unfolding_all rfl
  clear he hfr
  dsimp only [initL] at S
  tm_at "ms"
  refine ⟨⟨(S.W _ (.head _)).1, S.G.X⟩, ?_⟩
  rw [← hft]
  refine c_cfb (r'.le (by omega)) (Gl.hide S (.tail _ (.tail _ (.head _)))) (hide_get (S.F.keep _ _ hx) (hide_ne' hx)) (S.W _ (.tail _ (.tail _ (.head _)))).1 sps hok hne hz mark _ _ _ ?_
  intro l M xs c t1 t2 t3 tb n tn h2 t2' hk hd2 hM hm hnd
  have S2 := S.upd (UpdN.next (UpdN.next UpdN.here)) hk hd2
  have S3 := (S.tail.tail.born S2.tail.tail rfl _ hm hnd).perm (N' := (dx, dicO _) :: (l, listOf (xs.map Value.ref).toArray c) :: M) (List.perm_append_comm (l₁ := [(dx, dicO _)]) (l₂ := (l, listOf (xs.map Value.ref).toArray c) :: M))
  clear S S2 hk hd2 hm hnd
  have hx3 := S3.F.keep _ _ hx
  simp only [Bool.false_eq_true, if_false]
  tm_at "ms"
  rename St _ _ _ _ _ _ _ => S4
  clear S3
  refine s_forK (z := z) (h₀ := h.hide dx) (ns := [Str.ofString "self", Str.ofString "fmt", Str.ofString "text_encoding", Str.ofString "text_errors", Str.ofString "info"]) (by tm_at "m_asm") ?_ (by tm_at "m_hs") (by tm_at "m_hs")
  tm_at "ms"
  refine ⟨_, _, _, _, _, fun i vs N => ∃ n t4 t5 u, n = cntA ((giL false 0 sps).take i) ∧ N = (dx, dicO [de w "_infos" t1 (.ref l), de w "_byte_order" t2 (.str (ordS mark) tb), de w "_number_of_bits_to_unpack" t3 (.int _ tn), de w "_number_of_arguments" t4 (.int (n : Nat) t5)]) :: (l, listOf (xs.map Value.ref).toArray c) :: M ∧
    vs = [some (.ref x), some (.str ft tf), some (.str (Str.ofString "utf-8") 1023), some (.str (Str.ofString "strict") 1024), u], it_list r'.hd S4 (.tail _ (.head _)), ⟨0, _, _, _, rfl, rfl, rfl⟩, ?_, ?_, ?_⟩
  · rintro i vs N ⟨n, t4, t5, u, rfl, rfl, rfl⟩ p hp
    rw [List.mem_singleton.mp hp]; exact .tail _ (.head _)
  · rintro i v vs N h5 t5' oI I hi hv ⟨n, t4, t5, u, hn, rfl, rfl⟩ S5
    clear S4
    obtain ⟨y, hy, rfl⟩ : ∃ y, xs[i]? = some y ∧ v = .ref y := by
      rw [List.getElem?_map] at hv
      cases e : xs[i]? with
      | none => rw [e] at hv; cases hv
      | some p => rw [e] at hv; cases hv; exact ⟨p, rfl, rfl⟩
    obtain ⟨gi, dy, es, nm, tn', hg, m1, m2, ie, _⟩ := hM.get hy
    have hcnt := cntA_snoc _ _ _ hg
    refine a_name Cf S5 (by tm_at "m_idx") fun h6 t6 S6 => ?_
    simp only [List.set_cons_succ, List.set_cons_zero] at S6
    clear S5
    have hx6 := S6.F.keep _ _ hx
    tm_at "ms"
    refine v_isiP S6 (Ob.of S6 (.tail _ (.tail _ (.tail _ m1))) (.tail _ (.tail _ (.tail _ m2)))) fun t7 => ?_
    tm_at "ms"
    cases hp : gi.k.pad with
    | true =>
      rw [hp] at hcnt
      refine br_f rfl ?_
      tm_at "ms"
      exact Turned.mk' S6 ⟨n, _, _, _, by rw [hcnt]; simpa using hn, rfl, rfl⟩
    | false =>
      rw [hp] at hcnt
      refine br_t rfl ?_
      tm_at "ms"
      rename St _ _ _ _ _ _ _ => S7
      exact Turned.mk' S7 ⟨n + 1, _, _, _, by rw [hcnt]; simpa using hn, rfl, rfl⟩
  · rintro vs N h5 t5' ⟨n, t4, t5, u, hn, rfl, rfl⟩ S5
    tm_at "ms"
    have hnd := List.nodup_cons.mp S5.nd
    have hl : (giL false 0 sps).take (xs.map Value.ref).length = giL false 0 sps := List.take_of_length_le (by have := hM.len; simp; omega)
    rw [hl] at hn
    subst hn
    refine k l M xs c _ _ _ (fun b o hb e => S5.F.keep _ _ ((Heap.hide_ne h hb).trans e)) (S5.W _ (.head _)).1 ⟨by tm_at "m_get", ⟨_, by tm_at "m_get"⟩, ⟨_, by tm_at "m_get"⟩, by tm_at "m_not", by tm_at "m_not", by tm_at "m_not", by simp⟩ hM (fun p hp => ⟨(S5.W p (.tail _ hp)).1, ?_⟩) hnd.2
    rw [← Heap.hide_ne h (fun e => hnd.1 (List.mem_map.mpr ⟨p, hp, e⟩) : p.1 ≠ dx)]
    exact (S5.W p (.tail _ hp)).2.2
theorem new_CF (r : Room A 16) (G : Gl w h) (sps : List Sp) (hok : ∀ s ∈ sps, s.Ok) (hne : sps ≠ []) (hz : sps.length ≤ 10) (mark : Bool) (tf : Tok)
    (k : ∀ x dx l M xs c es h' t', h.StaysIn h' → CfE es l mark (cntA (giL false 0 sps)) → InfM M xs (giL false 0 sps) → (∀ p ∈ (x, instObj 507 dx) :: (dx, dicO es) :: (l, listOf (xs.map Value.ref).toArray c) :: M, h'.get? p.1 = some p.2 ∧ h.get? p.1 = none) →
      (((x, instObj 507 dx) :: (dx, dicO es) :: (l, listOf (xs.map Value.ref).toArray c) :: M).map (·.1)).Nodup → QV (.ref x) (mk z h' t')) :
    wpAny (model Prg w) A (call (.ref 507) [.str (S (joinG (sps.map Sp.grp) ++ if mark then [60] else [])) tf]) QV E (mk z h t) := by
  refine v_make (m := 15) (fI := 476) G r (by kernel_rfl) (by kernel_rfl) (by kernel_rfl) ?_
  intro A' x dx h1 r1 k1 ob hx hd hne'
  refine c_cfinit (r1.le (by omega)) (G.keeps fun b o e => (hide_get (k1 _ _ e) fun q => by rw [q, hd] at e; cases e)) (hide_get ob.ox hne'.symm) ob.od sps hok hne hz mark tf ?_
  intro l M xs c es h2 t2 kk hd2 ce hM hm hnd
  have e1 : ∀ p ∈ (l, listOf (xs.map Value.ref).toArray c) :: M, p.1 ≠ x ∧ p.1 ≠ dx := fun p hp => ⟨fun e => (by have := (hm p hp).2; rw [e, ob.ox] at this; cases this), fun e => (by have := (hm p hp).2; rw [e, ob.od] at this; cases this)⟩
  refine ⟨rfl, k x dx l M xs c es h2 t2 (fun b o e => kk b o (fun q => by rw [q, hd] at e; cases e) (k1 _ _ e)) ce hM (fun p hp => ?_) ?_⟩
  · rcases List.mem_cons.mp hp with rfl | hp
    · exact ⟨kk _ _ hne'.symm ob.ox, hx⟩
    rcases List.mem_cons.mp hp with rfl | hp
    · exact ⟨hd2, hd⟩
    · refine ⟨(hm p hp).1, ?_⟩
      cases q : h.get? p.1 with
      | none => rfl
      | some o => have := (hm p hp).2; rw [k1 _ _ q] at this; cases this
  · refine List.nodup_cons.mpr ⟨fun q => ?_, List.nodup_cons.mpr ⟨fun q => ?_, hnd⟩⟩
    · rcases List.mem_cons.mp q with q | q
      · exact hne' q.symm
      · obtain ⟨p, hp, e⟩ := List.mem_map.mp q
        exact (e1 p hp).1 e
    · obtain ⟨p, hp, e⟩ := List.mem_map.mp q
      exact (e1 p hp).2 e
end
end
section
open PySem PySem.W PyProof.Rows PySem.Calls PySem.Builtin PySem.Builtin.Str
theorem bb_look : typeLookup (.type "bytes") "__bytes__" = pure (some (.builtin "bytes.__bytes__")) := by rw [typeLookup_type, builtinLookup_eq_fast]; kernel_rfl
theorem bb_1 (b : Array UInt8) (t : Tok) : Gives (Builtin.«bytes.__new__» ⟨[.type "bytes", .bytes b t], []⟩) (.val (.bytes b t)) := by
  refine .of_wp fun M A E s Q hq => ?_
  unfold Builtin.«bytes.__new__»
  refine wpAny_bind (wpAny_of_eq (a := true) rfl ?_)
  refine PySem.bm_if_false rfl ?_
  refine wpAny_bind (wpAny_of_eq F.bm_sub ?_)
  refine PySem.bm_if_false rfl ?_
  refine wpAny_bind (wpAny_of_eq (F.bm_bind _) ?_)
  refine wpAny_bind (wpAny_of_eq (a := ()) rfl ?_)
  refine wpAny_bind (wpAny_of_eq (a := ()) rfl ?_)
  refine PySem.bm_if_false rfl ?_
  refine wpAny_bind (wpAny_specialOf (typeIs_bytes _ _ _) bb_look ?_)
  show wpAny M A (rule "bytes.__new__.of-bytes" >>= fun _ => _) _ E s
  refine wpAny_bind (wpAny_rule ?_)
  refine wpAny_bind (wpAny_typeOf (typeIs_bytes s b t) ?_)
  refine PySem.bm_if_true rfl ?_
  first
  | exact wpAny_pure ⟨_, rfl, hq⟩
  | exact PySem.bm_if_true rfl (wpAny_pure ⟨_, rfl, hq⟩)
  | exact PySem.bm_if_true rfl (wpAny_bind (wpAny_pure (wpAny_pure ⟨_, rfl, hq⟩)))
  | exact PySem.bm_if_true rfl (wpAny_bind (wpAny_bind (wpAny_pure (wpAny_pure ⟨_, rfl, hq⟩))))
theorem mul_fold (c n : Nat) : (List.replicate n #[c]).foldl (· ++ ·) #[] = (List.replicate n c).toArray := by
  have : ∀ (n : Nat) (acc : Array Nat), (List.replicate n #[c]).foldl (· ++ ·) acc = acc ++ (List.replicate n c).toArray := by
    intro n
    induction n with
    | zero => intro acc; simp
    | succ n ih => intro acc; rw [List.replicate_succ, List.foldl_cons, ih, List.replicate_succ]; apply Array.ext'; simp
  rw [this]; simp
section
variable {w : World} {A : Around} {E : Value → Shared → Prop} {z : Shared} {h h₀ : Heap} {t : Nat} {L : Addr} {s : Shared} {QV : Value → Shared → Prop}
theorem v_bytesB {b : Array UInt8} {tb : Tok} (k : QV (.bytes b tb) s) : wpAny (model Prg w) A (call (.type "bytes") [.bytes b tb]) QV E s :=
  callType_new F.bm_called (by decide) (F.bm_typeCall _) (F.bm_newCall _) (fun obj => F.args_object_init_2 obj _) F.bm_entry (bb_1 b tb).meets (show (Made.val (.bytes b tb)).post _ s from ⟨PySem.W.typeIs_bytes _ _ _, k⟩)
/-- a number of equal letters -/
theorem v_mulS {n : Nat} {c : Nat} {tn tc : Tok} (h1 : 1 ≤ n) (hn : n ≤ 1000) (k : ∀ t' tk, QV (.str (S (List.replicate n c)) t') (mk z h tk)) : wpAny (model Prg w) A (binaryOp .Mult (.int n tn) (.str (S [c]) tc)) QV E (mk z h t) := by
  refine lm_binaryOp_repeat_right (T := "str") (U := "int") (by decide) (fun s' => typeIs_int s' n tn) (typeIs_str _ _ _) F.fills_int_mul noFill_str_mul F.slot_int_mul lm_noRepeat_int repeat_str F.slot_int_index.lookup
    (call_gives F.slot_int_mul (typeIs_int _ n tn) F.entry_int_mul (F.args_int_mul_2 _ _) (AutoIntG3.int___mul___int_str_0 n tn _ tc)
      ⟨rfl, typeIs_str _ _ _, call_gives F.slot_str_mul (typeIs_str _ _ _) F.entry_str_mul (F.args_str_mul_2 _ _)
        (gives_str_mul (S [c]) n tc tn ?_ ?_ ?_) ?_⟩)
  · rw [decide_eq_false (by omega), decide_eq_false (by omega)]; rfl
  · intro _ _
    have : ((S [c]).length : Int) = 1 := rfl
    rw [this]
    have := Int.le_ediv_of_mul_le (show (0 : Int) < n by omega) (show (1 : Int) * n ≤ 2 ^ 63 - 1 by omega)
    omega
  · intro _ _
    have : (S [c]).length * (n : Int).toNat = n := by rw [S_len]; simp
    rw [this]
    unfold tooLong
    simp [sizeLine_eq]; omega
  · rw [if_neg (by omega)]
    split
    · rename_i q
      have : n = 1 := by
        rcases Bool.or_eq_true_iff.mp q with q | q
        · have := eq_of_beq q; omega
        · rw [S_len] at q; cases q
      subst this
      exact k _ _
    · have e : (⟨(List.replicate (n : Int).toNat (S [c]).cps).foldl (· ++ ·) #[]⟩ : PySem.Str) = S (List.replicate n c) := by
        rw [Int.toNat_natCast]
        show (⟨(List.replicate n #[c]).foldl (· ++ ·) #[]⟩ : PySem.Str) = _
        rw [mul_fold]; rfl
      rw [e]
      exact ⟨by rw [S_len, sizeLine_eq]; simp; omega, k _ _⟩
end

theorem lets_zero : ∀ k, lets k 0 = List.replicate k 48
  | 0 => rfl
  | k + 1 => by
    show (48 + 0 / 2 ^ k % 2) :: lets k 0 = _
    rw [lets_zero k, Nat.zero_div]; rfl
theorem lets_ones : ∀ k, lets k (2 ^ k - 1) = List.replicate k 49
  | 0 => rfl
  | k + 1 => by
    have hp : 0 < 2 ^ k := Nat.two_pow_pos _
    have e : 2 ^ (k + 1) - 1 = 2 * (2 ^ k - 1) + 1 := by rw [Nat.pow_succ]; omega
    rw [lets_snoc, e, show (2 * (2 ^ k - 1) + 1) / 2 = 2 ^ k - 1 by omega, show (2 * (2 ^ k - 1) + 1) % 2 = 1 by omega, lets_ones k, List.replicate_succ']
def padN (k : Kd) (sz : Nat) : Nat := match k with | .P => 2 ^ sz - 1 | _ => 0
/-- the letters of a group behind a text of n letters -/
def grpL (mark : Bool) (n : Nat) (g : Gi) (num : Nat) : List Nat := if g.k.pad then lets g.sz num else stepL g.k.raw mark n g.sz (if g.lt then turnN g.sz num else num)
def packL (mark : Bool) : List Nat → List (Gi × Nat) → List Nat
  | txt, [] => txt
  | txt, p :: r => packL mark (txt ++ grpL mark txt.length p.1 p.2) r
theorem packL_app (mark : Bool) : ∀ (a b : List (Gi × Nat)) (txt : List Nat), packL mark txt (a ++ b) = packL mark (packL mark txt a) b
  | [], _, _ => rfl
  | p :: a, b, txt => packL_app mark a b _
theorem packL_snoc (mark : Bool) (l : List (Gi × Nat)) (i : Nat) (p : Gi × Nat) (h : l[i]? = some p) (txt : List Nat) : packL mark txt (l.take (i + 1)) = packL mark txt (l.take i) ++ grpL mark (packL mark txt (l.take i)).length p.1 p.2 := by
  rw [List.take_add_one, h]
  show packL mark txt (l.take i ++ [p]) = _
  rw [packL_app]; rfl
theorem grpL_len (mark : Bool) (n : Nat) (g : Gi) (num : Nat) : (grpL mark n g num).length = g.sz := by
  unfold grpL
  split
  · exact lets_len _ _
  · exact stepL_len _ _ _ _ _
theorem pieces_bits : ∀ (f t l n : Nat), Bits (pieces f t l n)
  | 0, _, l, n => lets_bits l n
  | f + 1, t, l, n => by
    unfold pieces
    split
    · exact lets_bits _ _
    · intro c hc
      rcases List.mem_append.mp hc with hc | hc
      · exact lets_bits _ _ c hc
      · exact pieces_bits f _ _ _ c hc
theorem grpL_bits (mark : Bool) (n : Nat) (g : Gi) (num : Nat) : Bits (grpL mark n g num) := by
  unfold grpL
  split
  · exact lets_bits _ _
  · unfold stepL
    split
    · exact lets_bits _ _
    · exact pieces_bits _ _ _ _
/-- what a group finds in the values -/
structure PVal (its : List Value) (g : Gi) (m : Nat) : Prop where
  lo : 1 ≤ g.sz
  hi : g.sz ≤ 64
  pad : g.k.pad = true → m = padN g.k g.sz
  val : g.k.pad = false → g.ix < 1000 ∧ ∃ v, its[g.ix]? = some v ∧ VOK g.k g.sz v m
section
variable {w : World} {A : Around} {E : Value → Shared → Prop} {z : Shared} {h h₀ : Heap} {t : Nat} {L : Addr} {env : Env} {s : Shared}
  {ns gs : List Str} {vs vs' : List (Option Value)} {N N' : List (Addr × Obj)} {QV : Value → Shared → Prop}
theorem it_listB {l : Addr} {its : List Value} {c : Nat} (r : A.handled = none) (S : St w h₀ L ns vs N h) (hm : h₀.get? l = some (listOf its.toArray c)) :
    wpAny (model Prg w) A (pyIter (.ref l)) (Iter0 w A z h₀ L ns vs N [] its.length (fun i v => its[i]? = some v)) NoE (mk z h t) := by
  have hg := S.F.keep _ _ hm
  have hl : h.IsList l its.toArray := ⟨_, hg, rfl, c, rfl⟩
  refine wpAny_pyIter_list (s := mk z h t) hl ?_
  have S₂ := S.push { cls := .type "list_iterator", data := .fields #[.ref l, .int 0 0] }
  have hne : l ≠ h.objs.size := Nat.ne_of_lt (Heap.lt_size hg)
  have W := Walks.list (prog := Prg) (w := w) r h.objs.size l hne its.toArray
  simp only [List.size_toArray, List.getElem?_toArray] at W
  exact ⟨h.objs.size, _, _, _, t, rfl, rfl, W, fun i h q => by obtain ⟨⟨o, ho, _⟩, _⟩ := q; exact ⟨o, ho⟩, ⟨⟨_, (S₂.W _ (.head _)).1, rfl, rfl⟩, ⟨_, S₂.F.keep _ _ hm, rfl, c, rfl⟩⟩, S₂.tail, size_new S, size_neL S, size_neN S, fun b hb => by
    rcases List.mem_cons.mp hb with rfl | hb
    · exact .inl rfl
    · rw [List.mem_singleton.mp hb]; exact .inr (.inl ⟨_, hm⟩)⟩
end
theorem lit_zeroS : Str.ofString "0" = S [48] := by decide +kernel
section
variable {w : World} {A : Around} {E : Value → Shared → Prop} {z : Shared} {h : Heap} {t : Nat} {QV : Value → Shared → Prop}
theorem c_pad {k : Kd} {x dx : Addr} {es : List DictEntry} {sz : Nat} {nm e : Value} (hk : k.pad = true) (r : Room A 3) (G : Gl w h) (I : Ob h x k.cls dx es es.length) (ie : InfE k sz nm e es) (h1 : 1 ≤ sz) (hs : sz ≤ 64)
    (q : ∀ tv h' t', h.StaysIn h' → QV (.str (S (lets sz (padN k sz))) tv) (mk z h' t')) : wpAny (model Prg w) A (call (.ref k.packF) [.ref x]) QV E (mk z h t) := by
  obtain ⟨ts, gz⟩ := ie.size
  have ic := Kd.ic w k
  cases k <;> first | (exfalso; revert hk; decide) | skip
  · refine enter (n := 2) (binds := [(Str.ofString "self", .ref x)]) [Str.ofString "self"] [] rfl r G (by kernel_rfl) (BindsTo.of_eq rfl) (by tm_at "m_sc") ⟨rfl, trivial⟩ ?_
    intro A' L h' t' env he r' hfr C S
    clear he hfr
    dsimp only [initL] at S
    tm_at "ms"
    rw [lit_zeroS]
    refine v_mulS h1 (by omega) fun t' tk => ?_
    have := q t' h' tk S.F.keep
    rw [show padN Kd.p sz = 0 from rfl, lets_zero] at this
    exact this
  · refine enter (n := 2) (binds := [(Str.ofString "self", .ref x)]) [Str.ofString "self"] [] rfl r G (by kernel_rfl) (BindsTo.of_eq rfl) (by tm_at "m_sc") ⟨rfl, trivial⟩ ?_
    intro A' L h' t' env he r' hfr C S
    clear he hfr
    dsimp only [initL] at S
    tm_at "ms"
    rw [lit_one]
    refine v_mulS h1 (by omega) fun t' tk => ?_
    have := q t' h' tk S.F.keep
    rw [show padN Kd.P sz = 2 ^ sz - 1 from rfl, lets_ones] at this
    exact this
end
end
section
open PySem PySem.W PyProof.Rows PySem.Calls
theorem cf_any (w : World) : findIn (KK w) (.ref 507) "pack_any" = some (some (.ref 431)) ∧ isFn (KK w) (.ref 431) = true ∧ keepIn (KK w) (.ref 431) = true := ⟨by kernel_rfl, by kernel_rfl, by kernel_rfl⟩
theorem cf_value (w : World) : findIn (KK w) (.ref 507) "pack_value" = some (some (.ref 424)) ∧ isFn (KK w) (.ref 424) = true ∧ keepIn (KK w) (.ref 424) = true := ⟨by kernel_rfl, by kernel_rfl, by kernel_rfl⟩
theorem cf_pack (w : World) : findIn (KK w) (.ref 507) "pack" = some (some (.ref 483)) ∧ isFn (KK w) (.ref 483) = true ∧ keepIn (KK w) (.ref 483) = true := ⟨by kernel_rfl, by kernel_rfl, by kernel_rfl⟩
theorem packL_len (mark : Bool) : ∀ (l : List (Gi × Nat)) (txt : List Nat), (∀ p ∈ l, p.1.sz ≤ 64) → (packL mark txt l).length ≤ txt.length + 64 * l.length
  | [], txt, _ => by simp [packL]
  | p :: r, txt, h => by
    have := packL_len mark r (txt ++ grpL mark txt.length p.1 p.2) fun p hp => h p (.tail _ hp)
    rw [List.length_append, grpL_len] at this
    have hp := h p (.head _)
    show (packL mark (txt ++ grpL mark txt.length p.1 p.2) r).length ≤ _
    rw [List.length_cons]; omega
theorem packL_bits (mark : Bool) : ∀ (l : List (Gi × Nat)) (txt : List Nat), Bits txt → Bits (packL mark txt l)
  | [], txt, h => h
  | p :: r, txt, h => packL_bits mark r _ fun c hc => by
    rcases List.mem_append.mp hc with hc | hc
    · exact h c hc
    · exact grpL_bits _ _ _ _ c hc
theorem packL_pos (mark : Bool) : ∀ (l : List (Gi × Nat)) (txt : List Nat), txt.length ≤ (packL mark txt l).length
  | [], _ => Nat.le_refl _
  | p :: r, txt => by
    have := packL_pos mark r (txt ++ grpL mark txt.length p.1 p.2)
    rw [List.length_append] at this
    show _ ≤ (packL mark (txt ++ grpL mark txt.length p.1 p.2) r).length
    omega
theorem padL_mod0 {l : List Nat} (h : l.length % 8 = 0) : padL l = l := by
  unfold padL
  rw [show 8 * ((l.length + 7) / 8) - l.length = 0 by omega]; simp
theorem padL_mod {l : List Nat} (h : l.length % 8 ≠ 0) : padL l = l ++ List.replicate (8 - l.length % 8) 48 := by
  unfold padL
  rw [show 8 * ((l.length + 7) / 8) - l.length = 8 - l.length % 8 by omega]
section
variable {w : World} {A : Around} {E : Value → Shared → Prop} {z : Shared} {h : Heap} {t : Nat} {QV : Value → Shared → Prop}
set_option maxHeartbeats 4000000 in
theorem c_packany (r : Room A 12) (G : Gl w h) {x0 dx0 l ta : Addr} {es0 : List DictEntry} {M : List (Addr × Obj)} {xs : List Addr} {c n : Nat} {mark : Bool} {gs : List Gi} {nums : List Nat} {its : List Value}
    (I0 : Ob h x0 507 dx0 es0 es0.length) (ce : CfE es0 l mark n) (hl : h.get? l = some (listOf (xs.map Value.ref).toArray c)) (hM : InfM M xs gs) (hm : ∀ p ∈ M, h.get? p.1 = some p.2) (ht : IsTup h ta its.toArray)
    (hnl : nums.length = gs.length) (hg : ∀ (i : Nat) (g : Gi) (m : Nat), gs[i]? = some g → nums[i]? = some m → PVal its g m) (hne : gs ≠ []) (hz : gs.length ≤ 8)
    (q : ∀ tv h' t', h.StaysIn h' → QV (.bytes (By (octs (((packL mark [] (gs.zip nums)).length + 7) / 8) (dval 2 (padL (packL mark [] (gs.zip nums)))))).toArray tv) (mk z h' t')) :
    wpAny (model Prg w) A (call (.ref 431) [.ref x0, .ref ta]) QV E (mk z h t) := by
  refine enter (n := 11) (binds := [(Str.ofString "self", .ref x0), (Str.ofString "values", .ref ta)]) [Str.ofString "self", Str.ofString "values", Str.ofString "bits", Str.ofString "info", Str.ofString "tail"] [Str.ofString "isinstance", Str.ofString "_Padding", Str.ofString "len", Str.ofString "bytes", Str.ofString "_unpack_bytearray"] rfl r G (by kernel_rfl) (BindsTo.of_eq rfl) (by tm_at "m_sc") ⟨rfl, rfl, trivial⟩ ?_
  intro A' L h' t' env he r' hfr C S
  clear he hfr
  dsimp only [initL] at S
  have ic := ic_CF w
  have gi0 := ce.infos
  have hzl : (gs.zip nums).length = gs.length := by rw [List.length_zip]; omega
  have h64 : ∀ p ∈ gs.zip nums, p.1.sz ≤ 64 := fun p hp => by
    obtain ⟨i, hi⟩ := List.getElem?_of_mem hp
    obtain ⟨a, b⟩ := List.getElem?_zip_eq_some.mp hi
    exact (hg i _ _ a b).hi
  tm_at "ms"
  rename St _ _ _ _ _ _ _ => S1
  clear S
  refine s_forK (z := z) (h₀ := h) (ns := [Str.ofString "self", Str.ofString "values", Str.ofString "bits", Str.ofString "info", Str.ofString "tail"]) (by tm_at "m_asm") ?_ (by tm_at "m_hs") (by tm_at "m_hs")
  tm_at "ms"
  refine ⟨_, _, _, _, _, fun i vs N => ∃ tb u, N = [] ∧ vs = [some (.ref x0), some (.ref ta), some (.str (Mine.S (packL mark [] ((gs.zip nums).take i))) tb), u, none], it_listB r'.hd S1 hl, ⟨_, _, rfl, by rw [lit_nil]; rfl⟩, ?_, ?_, ?_⟩
  · intro _ _ _ _ p hp; cases hp
  · rintro i v vs N h5 t5' oI I hi hv ⟨tb, u, rfl, rfl⟩ S5
    clear S1
    obtain ⟨y, hy, rfl⟩ : ∃ y, xs[i]? = some y ∧ v = .ref y := by
      rw [List.getElem?_map] at hv
      cases e : xs[i]? with
      | none => rw [e] at hv; cases hv
      | some p => rw [e] at hv; cases hv; exact ⟨p, rfl, rfl⟩
    obtain ⟨g, dy, es, nm, tn', hgi, m1, m2, ie, hnm⟩ := hM.get hy
    obtain ⟨num, hni⟩ : ∃ m, nums[i]? = some m := by
      have := (List.getElem?_eq_some_iff.mp hgi).1
      exact ⟨_, List.getElem?_eq_getElem (by omega)⟩
    have pv := hg i g num hgi hni
    have hsn := packL_snoc mark (gs.zip nums) i (g, num) (List.getElem?_zip_eq_some.mpr ⟨hgi, hni⟩) []
    have hil : i < 8 := by have := (List.getElem?_eq_some_iff.mp hgi).1; omega
    have hbl : (packL mark [] ((gs.zip nums).take i)).length ≤ 512 := by
      have := packL_len mark ((gs.zip nums).take i) [] fun p hp => h64 p (List.mem_of_mem_take hp)
      rw [List.length_take] at this
      simp only [List.length_nil] at this
      omega
    rw [show grpL mark _ (g, num).1 (g, num).2 = grpL mark _ g num from rfl] at hsn
    generalize hB : packL mark [] ((gs.zip nums).take i) = B at *
    have Iy : Ob h y g.k.cls dy es es.length := ⟨hm _ m1, hm _ m2⟩
    have icy := Kd.ic w g.k
    refine a_name C S5 (by tm_at "m_idx") fun h6 t6 S6 => ?_
    simp only [List.set_cons_succ, List.set_cons_zero] at S6
    clear S5
    tm_at "ms"
    refine v_isiP S6 (Iy.keeps S6.F.keep) fun t7 => ?_
    tm_at "ms"
    cases hp : g.k.pad with
    | true =>
      refine br_t rfl ?_
      tm_at "ms"
      refine v_pmeth S6 (Iy.keeps S6.F.keep) ie.pack ?_
      refine v_callm0 S6 (kd_find w g.k).2.2 ?_
      refine c_pad hp (r'.le (by omega)) S6.G (Iy.keeps S6.F.keep) ie pv.lo pv.hi fun tv h8 t8 k8 => ?_
      have S8 := S6.stays k8
      clear S6
      have hz0 : (Mine.S B).length + (Mine.S (lets g.sz (padN g.k g.sz))).length ≤ sizeLine := by have := pv.hi; rw [S_len, S_len, lets_len, sizeLine_eq]; omega
      tm_at "ms"
      rename St _ _ _ _ _ _ _ => S9
      rw [S_app] at S9
      have hsn2 : packL mark [] ((gs.zip nums).take (i + 1)) = B ++ lets g.sz (padN g.k g.sz) := by
        rw [hsn]; unfold grpL; rw [hp, if_pos rfl, ← pv.pad hp]
      exact Turned.mk' S9 ⟨_, _, rfl, by rw [hsn2]⟩
    | false =>
      refine br_f rfl ?_
      obtain ⟨hix, v, hv, vok⟩ := pv.val hp
      obtain ⟨tm, rfl⟩ := hnm hp
      obtain ⟨tord, gord⟩ := ce.ord
      have gname := ie.name
      tm_at "ms"
      refine v_meth S6 (I0.keeps S6.F.keep) ic.plain (cf_value w).1 (cf_value w).2.1 ce.value.get ?_
      refine' v_callm ?S (cf_value w).2.2 ?_ ?e ?f
      case S => tm_at "m_asm"
      case e => with_unfolding_all rfl
      case f => with_unfolding_all rfl
      tm_at "ms"
      refine t_tup g.ix (ht.keeps S6.F.keep) rfl hv (by omega) ?_ (by tm_at "m_hs")
      tm_at "ms"
      refine ⟨S6.G.X, ?_⟩
      refine c_packval (r'.le (by omega)) S6.G (I0.keeps S6.F.keep) gord (Iy.keeps S6.F.keep) ie pv.hi v num (packC vok pv.lo pv.hi (Iy.keeps S6.F.keep) ie) B _ (by omega) fun tv h8 t8 k8 => ?_
      have S8 := S6.stays k8
      clear S6
      tm_at "ms"
      rename St _ _ _ _ _ _ _ => S9
      have hsn2 : packL mark [] ((gs.zip nums).take (i + 1)) = B ++ stepL g.k.raw mark B.length g.sz (if g.lt then turnN g.sz num else num) := by
        rw [hsn]; unfold grpL; rw [hp]; rfl
      exact Turned.mk' S9 ⟨_, _, rfl, by rw [hsn2]⟩
  · rintro vs N h5 t5' ⟨tb, u, rfl, rfl⟩ S5
    clear S1
    have hT : (gs.zip nums).take (xs.map Value.ref).length = gs.zip nums := List.take_of_length_le (by have := hM.len; simp; omega)
    rw [hT] at S5
    have hbl : (packL mark [] (gs.zip nums)).length ≤ 512 := by
      have := packL_len mark (gs.zip nums) [] h64
      simp only [List.length_nil] at this
      omega
    have hbits : Bits (packL mark [] (gs.zip nums)) := packL_bits mark _ [] fun c hc => nomatch hc
    have hpos : 1 ≤ (packL mark [] (gs.zip nums)).length := by
      cases hzz : gs.zip nums with
      | nil => rw [hzz] at hzl; exact absurd (List.eq_nil_of_length_eq_zero hzl.symm) hne
      | cons p r =>
        have := packL_pos mark r ([] ++ grpL mark 0 p.1 p.2)
        rw [List.length_append, grpL_len] at this
        have hp1 : 1 ≤ p.1.sz := by
          have h0 : (gs.zip nums)[0]? = some p := by rw [hzz]; rfl
          obtain ⟨a, b⟩ := List.getElem?_zip_eq_some.mp h0
          exact (hg 0 _ _ a b).lo
        show 1 ≤ (packL mark ([] ++ grpL mark 0 p.1 p.2) r).length
        omega
    generalize packL mark [] (gs.zip nums) = P at *
    have hlen : P.length ≤ 2 ^ 60 := by omega
    tm_at "ms"
    rename St _ _ _ _ _ _ _ => S6
    clear S5
    refine br_join (fun s => ∃ tb tt h7 t7, s = mk z h7 t7 ∧ St w h L [Str.ofString "self", Str.ofString "values", Str.ofString "bits", Str.ofString "info", Str.ofString "tail"] [some (.ref x0), some (.ref ta), some (.str (Mine.S (padL P)) tb), u, some (.int ((P.length : Int) % 8) tt)] [] h7) (br_b (c := decide (P.length % 8 ≠ 0)) ?_ ?_ ?_) ?_
    rotate_right
    · rintro _ ⟨tb2, tt, h7, t7, rfl, S7⟩
      clear S6
      have hlen2 : (padL P).length ≤ 2 ^ 60 := by rw [padL_len]; omega
      tm_at "ms"
      refine ⟨S7.G.X, ?_⟩
      refine c_uba (r'.le (by omega)) S7.G ((P.length + 7) / 8) (padL P) _ _ (padL_bits hbits) (padL_len P) (by omega) (by omega) _ (by rw [padL_len]) fun tv h8 t8 k8 => ?_
      have S8 := S7.stays k8
      tm_at "ms"
      refine v_bytesB ?_
      tm_at "ms"
      exact q tv h8 _ S8.F.keep
    · by_cases hh : P.length % 8 = 0
      · rw [show (P.length : Int) % 8 = 0 by omega]; simp [hh]
      · rw [show ((P.length : Int) % 8 != 0) = true by simp; omega]; simp [hh]
    · intro hh
      have hh := of_decide_eq_true hh
      tm_at "ms"
      rw [lit_zeroS, show (8 : Int) - (P.length : Int) % 8 = ((8 - P.length % 8 : Nat) : Int) by omega]
      refine v_mulS (by omega) (by omega) fun t8 tk8 => ?_
      have hz0 : (Mine.S P).length + (Mine.S (List.replicate (8 - P.length % 8) 48)).length ≤ sizeLine := by rw [S_len, S_len, sizeLine_eq]; simp; omega
      tm_at "ms"
      rename St _ _ _ _ _ _ _ => S7
      rw [S_app, ← padL_mod hh] at S7
      exact ⟨rfl, _, _, _, _, rfl, S7⟩
    · intro hh
      have hh := of_decide_eq_false hh
      tm_at "ms"
      have e := padL_mod0 (l := P) (by omega)
      exact ⟨rfl, tb, _, _, _, rfl, by rw [e]; exact S6⟩
end
end
section
open PySem PySem.W PyProof.Rows PySem.Calls
theorem seq_none : seqItems? .none = pure none := by rfl
theorem bind_star {fd : FuncData} {ar va : Arg} (hp : fd.params = { posonlyargs := [], args := [ar], vararg := some va, kwonlyargs := [], kw_defaults := [], kwarg := none, defaults := [] }) (hd : fd.defaults = .none) (a : Value) (rest : List Value) :
    bindArgs fd ⟨a :: rest, []⟩ = (newTuple rest >>= fun t => pure [(ar.arg, a), (va.arg, t)]) := by
  unfold bindArgs
  rw [hp, hd, seq_none]
  simp [List.lookup]
theorem cf_bound (w : World) : specialIn (KK w) (.ref 483) "__get__" = some (some (.builtin "function.__get__")) ∧ takesIn (KK w) (.ref 483) = some false ∧ fnIn (KK w) 483 = true ∧ plainGet (KK w) 507 "pack" = true ∧ hasDictIn (KK w) 507 = true := ⟨by kernel_rfl, by kernel_rfl, by kernel_rfl, by kernel_rfl, by kernel_rfl⟩
section
variable {w : World} {A : Around} {E : Value → Shared → Prop} {env : Env} {s : Shared} {QV : Value → Shared → Prop} {pos : Pos}
/-- a call behind a dot with stars -/
theorem e_methS {o : Expr} {name : Str} {apos : Pos} {args : List Expr}
    (k : wpAny (model Prg w) A (eval o env) (fun ov s₁ => wpAny (model Prg w) A (getAttr ov name true) (fun f s₂ => wpAny (model Prg w) A (callWith pos f [] (backTo pos (starEach args env)) []) QV E s₂) E s₁) E s)
    (he : eval (.Call (.Attribute o name apos) args [] pos) env = (do
      let ov ← eval o env
      standAt apos.atName
      let (f, first) ← holding [ov] (do pure (← getAttr ov name true, []))
      callWith pos f first (backTo pos (starEach args env)) [])) :
    wpAny (model Prg w) A (eval (.Call (.Attribute o name apos) args [] pos) env) QV E s := by
  rw [he]
  refine wpAny_bind (wpAny_mono k (fun ov s₁ h₁ => wpAny_bind (wpAny_standAt (wpAny_bind (wpAny_holding (wpAny_bind (wpAny_mono h₁ (fun f s₂ h₂ => wpAny_pure ?_) fun _ _ x => x)))))) fun _ _ x => x)
  exact h₂
end
section
variable {w : World} {A : Around} {E : Value → Shared → Prop} {z : Shared} {h : Heap} {t : Nat} {QV : Value → Shared → Prop}
/-- entering a def of one name and the rest -/
theorem enterStar {n : Nat} {name qual : Str} {ar va : Arg} {body : List Stmt} {scope : Scope} {kV doc pm cdv ct oc : Value} {an od : Option Addr} {osl : Array (Option Value)} {f : Addr} {a : Value} {rest : List Value} (ns gs : List Str)
    (ho : (KK w).lookup f = some ⟨oc, od, .func (fnX name qual { posonlyargs := [], args := [ar], vararg := some va, kwonlyargs := [], kw_defaults := [], kwarg := none, defaults := [] } body scope [] .none kV doc pm an cdv ct), osl⟩) (r : Room A (n + 1)) (G : Gl w h) (hcd : codeIn (KK w) cdv qual = true)
    (C : Sc scope ns gs) (hi : ∀ T, initOk [(ar.arg, a), (va.arg, .ref T)] ns) (hz : rest.length ≤ 1000)
    (k : ∀ A' L T h' t' env, env = envX qual scope L f cdv [] → Room A' n → (∃ l, A'.frames = some (env :: l)) → Fn env L ns gs → St w h L ns (initL [(ar.arg, a), (va.arg, .ref T)] ns) [(T, tupOf rest)] h' →
      wpAny (model Prg w) A' (execs body env) (fun fl s' => QV (match fl with | .ret v => v | _ => .none) s') (fun _ _ => False) (mk z h' t')) :
    codeAny (model Prg w) A (.call (.ref f) ⟨a :: rest, []⟩) (CR QV) (mk z h t) := by
  obtain ⟨p, lo, mg, mb, T⟩ := G.T
  have hb : ∀ (bs : List (Str × Value)) (ns : List Str), initOk bs ns → ∀ x ∈ bs, x.1 ∈ ns := by
    intro bs
    induction bs with
    | nil => intro _ _ x hx; cases hx
    | cons b bs ih =>
      intro ns ok x hx
      cases ns with
      | nil => exact ok.elim
      | cons n ns =>
        rcases List.mem_cons.mp hx with rfl | hx
        · rw [ok.1]; exact .head _
        · exact .tail _ (ih ns ok.2 x hx)
  refine codeAny_call_function (s := mk z h t) (fd := fnX name qual { posonlyargs := [], args := [ar], vararg := some va, kwonlyargs := [], kw_defaults := [], kwarg := none, defaults := [] } body scope [] .none kV doc pm an cdv ct) (body := body) r.depth (G.X _ _ ho) rfl C.co C.gen rfl (codeRec_of G.X hcd) ?_
  rw [bind_star rfl rfl]
  refine wpAny_bind (wpAny_newObj_type (s := mk z h t) (wpAny_pure ?_) (by show rest.toArray.size ≤ sizeLine; rw [sizeLine_eq]; simp; omega))
  refine wpAny_newFunctionEnv C.cell (fun x hx => C.loc _ (hb _ _ (hi h.objs.size) x hx)) (fun h₁ hns hsb => ?_) C.kind
  have kp : h.StaysIn (h.push (tupOf rest)) := fun _ _ e => Heap.get?_push_of_some _ e
  have hL : (h.push (tupOf rest)).objs.size = h.objs.size + 1 := Heap.size_push ..
  have hk : ∀ b o, (h.push (tupOf rest)).get? b = some o → h₁.get? b = some o := fun b o e => hsb.extBut b o (Nat.ne_of_lt (Heap.lt_size e)) (Heap.get?_push_of_some _ e)
  refine ⟨(T.nolimit.keeps kp).fresh _ hsb, codeAny_func ?_⟩
  obtain ⟨l, hl⟩ := r.fr
  refine wpAny_mono (k (A.deeper (envX qual scope (h.push (tupOf rest)).objs.size f cdv [])) (h.push (tupOf rest)).objs.size h.objs.size h₁ _ _ rfl (r.deeper (Nat.le_refl _)) ⟨l, by show A.frames.map _ = _; rw [hl]; rfl⟩
    ⟨C.kind, C.nodup, C.loc, C.glo, C.dbg, C.dbg', rfl, rfl, rfl, rfl⟩ ⟨⟨look_init _ ns (hi h.objs.size) C.nodup ▸ hns, fun b o e => hk b o (kp b o e), by rw [hL]; omega⟩, fun p hp => ?_, G, by simp, initL_len _ _⟩) (fun fl s' q => ?_) fun _ _ q => q.elim
  · rw [List.mem_singleton.mp hp]
    exact ⟨hk _ _ (Heap.get?_push_size _ rfl), by rw [hL]; exact Nat.ne_of_lt (Nat.lt_succ_self _), Heap.get?_none_of_le (Nat.le_refl _)⟩
  · cases fl <;> exact q
theorem c_cfpack (r : Room A 14) (G : Gl w h) {x0 dx0 l : Addr} {es0 : List DictEntry} {M : List (Addr × Obj)} {xs : List Addr} {c n : Nat} {mark : Bool} {gs : List Gi} {nums : List Nat} {its : List Value}
    (I0 : Ob h x0 507 dx0 es0 es0.length) (ce : CfE es0 l mark n) (hl : h.get? l = some (listOf (xs.map Value.ref).toArray c)) (hM : InfM M xs gs) (hm : ∀ p ∈ M, h.get? p.1 = some p.2) (hn : n ≤ its.length) (hiz : its.length ≤ 1000)
    (hnl : nums.length = gs.length) (hg : ∀ (i : Nat) (g : Gi) (m : Nat), gs[i]? = some g → nums[i]? = some m → PVal its g m) (hne : gs ≠ []) (hz : gs.length ≤ 8)
    (q : ∀ tv h' t', h.StaysIn h' → QV (.bytes (By (octs (((packL mark [] (gs.zip nums)).length + 7) / 8) (dval 2 (padL (packL mark [] (gs.zip nums)))))).toArray tv) (mk z h' t')) :
    codeAny (model Prg w) A (.call (.ref 483) ⟨.ref x0 :: its, []⟩) (CR QV) (mk z h t) := by
  refine enterStar (n := 13) [Str.ofString "self", Str.ofString "args"] [Str.ofString "len", Str.ofString "Error_bitstruct"] rfl r G (by kernel_rfl) (by tm_at "m_sc") (fun _ => ⟨rfl, rfl, trivial⟩) hiz ?_
  intro A' L T h' t' env he r' hfr C S
  clear he hfr
  dsimp only [initL] at S
  have ic := ic_CF w
  obtain ⟨ta, ga⟩ := ce.args
  tm_at "ms"
  refine v_lenT (isTup_of S (.head _)) (by omega) ?_
  tm_at "ms"
  refine br_df (by omega) ?_
  tm_at "ms"
  refine v_meth S (I0.keeps S.F.keep) ic.plain (cf_any w).1 (cf_any w).2.1 ce.any.get ?_
  refine' v_callm ?S (cf_any w).2.2 ?_ ?e ?f
  case S => tm_at "m_asm"
  case e => with_unfolding_all rfl
  case f => with_unfolding_all rfl
  tm_at "ms"
  refine ⟨S.G.X, ?_⟩
  refine c_packany (r'.le (by omega)) S.G (I0.keeps S.F.keep) ce (S.F.keep _ _ hl) hM (fun p hp => S.F.keep _ _ (hm p hp)) (isTup_of S (.head _)) hnl hg hne hz fun tv h8 t8 k8 => ?_
  exact q tv h8 _ fun b o e => k8 _ _ (S.F.keep _ _ e)
theorem c_pack (r : Room A 18) (G : Gl w h) (sps : List Sp) (hok : ∀ s ∈ sps, s.Ok) (hne : sps ≠ []) (hz : sps.length ≤ 8) (mark : Bool) (tf : Tok) {nums : List Nat} {its : List Value} (hn : cntA (giL false 0 sps) ≤ its.length) (hiz : its.length ≤ 1000)
    (hnl : nums.length = (giL false 0 sps).length) (hg : ∀ (i : Nat) (g : Gi) (m : Nat), (giL false 0 sps)[i]? = some g → nums[i]? = some m → PVal its g m)
    (q : ∀ tv h' t', h.StaysIn h' → QV (.bytes (By (octs (((packL mark [] ((giL false 0 sps).zip nums)).length + 7) / 8) (dval 2 (padL (packL mark [] ((giL false 0 sps).zip nums)))))).toArray tv) (mk z h' t')) :
    wpAny (model Prg w) A (call (.ref 516) (.str (S (joinG (sps.map Sp.grp) ++ if mark then [60] else [])) tf :: its)) QV E (mk z h t) := by
  generalize hft : (S (joinG (sps.map Sp.grp) ++ if mark then [60] else [])) = ft
  refine call_CR ?_
  refine enterStar (n := 17) [Str.ofString "fmt", Str.ofString "args"] [Str.ofString "CompiledFormat"] rfl r G (by kernel_rfl) (by tm_at "m_sc") (fun _ => ⟨rfl, rfl, trivial⟩) hiz ?_
  intro A' L T h' t' env he r' hfr C S
  clear he hfr
  dsimp only [initL] at S
  have ic := ic_CF w
  tm_at "ms"
  refine' e_methS ?_ ?e
  case e => with_unfolding_all rfl
  tm_at "ms"
  refine ⟨S.G.X, ?_⟩
  rw [← hft]
  refine new_CF (r'.le (by omega)) S.G sps hok hne (by omega) mark _ ?_
  intro x dx l M xs c es h2 t2 k2 ce hM hm hnd
  have S2 := S.adds k2 _ hm hnd
  clear S
  have ob : Ob h2 x 507 dx es es.length := ⟨(hm _ (.head _)).1, (hm _ (.tail _ (.head _))).1⟩
  obtain ⟨b1, b2, b3, b4, b5⟩ := cf_bound w
  refine kbm_bound (s := mk z h2 t2) S2.F S2.G₀.X S2.W ob.inst b4 b5 (cf_pack w).1 (cf_pack w).2.1 b1 b2 (by decide +kernel) ce.pack.get ?_
  intro m h3 F3 N3 l3
  have S3 : St w h L _ _ _ h3 := ⟨F3, N3, S2.G₀, List.nodup_cons.mpr ⟨fun q => by
    obtain ⟨p, hp, e⟩ := List.mem_map.mp q
    exact absurd (l3 p hp) (by rw [e]; exact Nat.lt_irrefl _), S2.nd⟩, S2.len⟩
  clear S2
  refine ks_call (P := MethP (KK w) m 483 (.ref x)) rfl (keeps_M b3) (ks_lone ?_)
  show wpAny (model Prg w) A' (eval _ env) _ _ (mk z h3 (t2 + 1))
  tm_at "ms"
  have hmT : (T, tupOf its) ∈ (m, methodObj (.ref 483) (.ref x)) :: (((x, instObj 507 dx) :: (dx, dicO es) :: (l, listOf (xs.map Value.ref).toArray c) :: M) ++ [(T, tupOf its)]) := .tail _ (List.mem_append_right _ (.head _))
  refine star_seq (s := mk z h3 (t2 + 1)) (o := tupOf its) (T := "tuple") (its := its.toArray) S3.F S3.W hmT rfl rfl (.inr rfl) rfl (by rw [sizeLine_eq]; simp; omega) fun h4 F4 N4 => ?_
  have S4 : St w h L _ _ _ h4 := ⟨F4, N4, S3.G₀, S3.nd, S3.len⟩
  refine ⟨⟨(N4 _ (.head _)).1, S4.G.X⟩, ?_⟩
  have m3 : ∀ p ∈ (x, instObj 507 dx) :: (dx, dicO es) :: (l, listOf (xs.map Value.ref).toArray c) :: M, h4.get? p.1 = some p.2 := fun p hp => (N4 p (.tail _ (List.mem_append_left _ hp))).1
  have key : codeAny (model Prg w) A' (.call (.ref 483) ⟨.ref x :: its, []⟩) (CR QV) (mk z h4 (t2 + 1)) := by
    refine c_cfpack (r'.le (by omega)) S4.G ⟨m3 _ (.head _), m3 _ (.tail _ (.head _))⟩ ce (m3 _ (.tail _ (.tail _ (.head _)))) hM (fun p hp => m3 p (.tail _ (.tail _ (.tail _ hp)))) hn hiz hnl hg ?_ ?_ fun tv h8 t8 k8 => ?_
    · intro e
      cases sps with
      | nil => exact hne rfl
      | cons s r => simp [giL] at e
    · have e : ∀ (sps : List Sp) lt i, (giL lt i sps).length = sps.length := by
        intro sps
        induction sps with
        | nil => intro _ _; rfl
        | cons s r ih => intro lt i; simp [giL, ih]
      rw [e]; exact hz
    · exact q tv h8 _ fun b o e => k8 _ _ (S4.F.keep _ _ e)
  refine call_meth (s := mk z h4 (t2 + 1)) (pos := its) (kw := []) N4 (.head _) (codeAny_mono key fun r s' q => ?_)
  rcases r with e | (v | _ | _ | _) <;> first | exact q | exact q.elim
end
end
section
open PySem PySem.W PyProof.Rows PySem.Calls PyProof.V
theorem updF {d : Addr} {o : Obj} : ∀ (pre : List (Addr × Obj)) {post : List (Addr × Obj)}, ((pre ++ (d, o) :: post).map (·.1)).Nodup → UpdF d o (pre ++ (d, o) :: post) (fun o' => pre ++ (d, o') :: post)
  | [], post, h => .head fun p hp e => (List.nodup_cons.mp h).1 (List.mem_map.mpr ⟨p, hp, e⟩)
  | p :: pre, post, h => .tail (fun e => (List.nodup_cons.mp h).1 (List.mem_map.mpr ⟨(d, o), List.mem_append_right _ (.head _), e.symm⟩)) (updF pre (List.nodup_cons.mp h).2)
section
variable {w : World} {A : Around} {E : Value → Shared → Prop} {z : Shared} {h : Heap} {t : Nat} {QV : Value → Shared → Prop}
theorem c_floats (r : Room A 3) (G : Gl w h)
    (q : ∀ d o a1 a2 a3 t1 t2 t3 t4 t5 t6 h' t', h.StaysIn h' → h.get? d = none → h'.get? d = some o → o.IsDictOf (PySem.intKind Prg w) [(16, .ref a1), (32, .ref a2), (64, .ref a3)] →
      IsTup h' a1 #[.int 15360 t1, .int 49152 t2] → IsTup h' a2 #[.int 1065353216 t3, .int 3221225472 t4] → IsTup h' a3 #[.int 4607182418800017408 t5, .int 13835058055282163712 t6] → QV (.ref d) (mk z h' t')) :
    wpAny (model Prg w) A (call (.ref 523) []) QV E (mk z h t) := by
  refine enter (n := 2) (binds := []) [] [] rfl r G (by kernel_rfl) (BindsTo.of_eq rfl) (by tm_at "m_sc") trivial ?_
  intro A' L h' t' env he r' hfr C S
  clear he hfr
  dsimp only [initL] at S
  obtain ⟨p, lo, mg, mb, T⟩ := S.G₀.T
  tm_at "ms"
  with_reducible refine' kdn_int (s := mk z h' t') ?a S.F S.W T.nolimit ?b ?c (List.cons_ne_nil _ _) ?e ?k
  case a => rfl
  case b => rfl
  case c => rfl
  case e => decide
  intro d h1 o F1 N1 l1 ne1 hd
  have S1 : St w h L _ _ [(d, o)] h1 := ⟨F1, N1, S.G₀, by simp, S.len⟩
  clear S
  show wpAny (model Prg w) A' _ _ _ (mk z h1 t')
  refine pairTrees_cons_walk ?_
  tm_at "ms"
  refine pairTrees_cons_walk ?_
  tm_at "ms"
  refine pairTrees_cons_walk ?_
  tm_at "ms"
  refine pairTrees_nil_walk ?_
  rename St _ _ _ _ _ _ _ => S5
  refine kdn_made_int S5.F S5.W (updF [_, _, _] S5.nd) hd rfl (by simp [intKeyPairs]) fun h6 o' F6 N6 hd' => ?_
  have S6 : St w h L _ _ _ h6 := ⟨F6, N6, S5.G₀, by simpa using S5.nd, S5.len⟩
  refine q d o' _ _ _ _ _ _ _ _ _ h6 _ S6.F.keep (S6.W _ (.tail _ (.tail _ (.tail _ (.head _))))).2.2 (S6.W _ (.tail _ (.tail _ (.tail _ (.head _))))).1 hd' (isTup_of S6 (.tail _ (.tail _ (.head _)))) (isTup_of S6 (.tail _ (.head _))) (isTup_of S6 (.head _))
end
end
section
open PySem PySem.W PyProof.Rows PySem.Calls PyProof.V
def kdAt : Nat → Kd
  | 0 => .u | 1 => .s | 2 => .b | 3 => .r | 4 => .t | 5 => .f | 6 => .p | _ => .P
theorem kd_at {j : Nat} (h : j < 8) : ([117, 115, 98, 114, 116, 102, 112, 80] : List Nat)[j]'h = (kdAt j).code := by
  have : ∀ j : Fin 8, ([117, 115, 98, 114, 116, 102, 112, 80] : List Nat)[j.val]'j.isLt = (kdAt j).code := by decide
  exact this ⟨j, h⟩
theorem lit_kinds : Str.ofString "usbrtfpP" = S [117, 115, 98, 114, 116, 102, 112, 80] := by decide +kernel
theorem lit_ords : Str.ofString "<>" = S [60, 62] := by decide +kernel
theorem ord_at {j : Nat} (h : j < 2) : S [([60, 62] : List Nat)[j]'h] = ordS (decide (j = 0)) := by
  have : j = 0 ∨ j = 1 := by omega
  rcases this with rfl | rfl <;> rfl
theorem nb_snoc (l : List Nat) (c : Nat) : nb (l ++ [c]) = nb l * 256 + c := by
  unfold nb; rw [List.foldl_append]; rfl
theorem nb_octs : ∀ (m v : Nat), nb (octs m v) = v % 2 ^ (8 * m)
  | 0, v => by simp [octs, nb, Nat.mod_one]
  | m + 1, v => by
    rw [octs_snoc, nb_snoc, nb_octs m (v / 256)]
    have : 2 ^ (8 * (m + 1)) = 256 * 2 ^ (8 * m) := by rw [Nat.mul_add, Nat.pow_add]; omega
    rw [this, Nat.mod_mul]
    omega
theorem little_octs : ∀ (k x : Nat), (KTBy.little k (x : Int)).reverse = (octs k x).map fun c => ((c : Nat) : Int)
  | 0, _ => rfl
  | k + 1, x => by
    show ((x : Int) % 256 :: KTBy.little k ((x : Int) / 256)).reverse = _
    rw [List.reverse_cons, show (x : Int) / 256 = ((x / 256 : Nat) : Int) by omega, little_octs k (x / 256), octs_snoc, List.map_append]
    simp
theorem bInts_By {b : Array UInt8} {l : List Nat} (h : KBw.bInts b = l.map fun c => ((c : Nat) : Int)) : b = (By l).toArray := by
  have h2 : b.toList.map (·.toNat) = l := by
    have : (b.toList.map (·.toNat)).map (fun c => ((c : Nat) : Int)) = l.map fun c => ((c : Nat) : Int) := by rw [← h, List.map_map]; rfl
    exact (List.map_inj_right (fun a b e => by omega)).mp this
  apply Array.ext'
  rw [← h2]
  show b.toList = ((b.toList.map (·.toNat)).map Nat.toUInt8)
  rw [List.map_map]
  conv => lhs; rw [← List.map_id b.toList]
  apply List.map_congr_left
  intro c _
  simp
/-- a row as the law makes it -/
structure Row.Ok (R : Row) : Prop where
  lo : 1 ≤ R.sz
  hi : R.sz ≤ 64
  pad : R.k.pad = true → R.num = padN R.k R.sz
  val : R.k.pad = false → VOK R.k R.sz R.val R.num
theorem vok_s {D sz : Nat} (h1 : 1 ≤ sz) : ∃ n : Nat, (((D % 2 ^ sz : Nat) : Int) - 2 ^ (sz - 1)) % ((2 ^ sz : Nat) : Int) = (n : Int) ∧ ∀ tk : Tok, VOK .s sz (.int (((D % 2 ^ sz : Nat) : Int) - 2 ^ (sz - 1)) tk) n := by
  obtain ⟨k, rfl⟩ : ∃ k, sz = k + 1 := ⟨sz - 1, by omega⟩
  rw [Nat.add_sub_cancel]
  have hp : (2 ^ (k + 1) : Nat) = 2 * 2 ^ k := by rw [Nat.pow_succ]; omega
  have hpI : (2 : Int) ^ k = ((2 ^ k : Nat) : Int) := (p2i k).symm
  have hpI2 : (2 : Int) ^ (k + 1) = ((2 ^ (k + 1) : Nat) : Int) := (p2i (k + 1)).symm
  have hlt := Nat.mod_lt D (Nat.two_pow_pos (k + 1))
  have hpos := Nat.two_pow_pos k
  rw [hpI]
  generalize hm : D % 2 ^ (k + 1) = m at *
  have vs : ∀ n : Nat, n < 2 ^ (k + 1) → (((m : Nat) : Int) - ((2 ^ k : Nat) : Int) = n ∨ (((m : Nat) : Int) - ((2 ^ k : Nat) : Int) < 0 ∧ ((m : Nat) : Int) - ((2 ^ k : Nat) : Int) + 2 ^ (k + 1) = n)) → ∀ tk : Tok, VOK .s (k + 1) (.int (((m : Nat) : Int) - ((2 ^ k : Nat) : Int)) tk) n := fun n a b tk =>
    .s (by rw [Nat.add_sub_cancel, hpI]; omega) (by rw [Nat.add_sub_cancel, hpI]; omega) a b
  rw [hp] at hlt ⊢
  by_cases hc : 2 ^ k ≤ m
  · refine ⟨m - 2 ^ k, ?_, vs _ (by rw [hp]; omega) (.inl (by omega))⟩
    rw [Int.emod_eq_of_lt (by omega) (by omega)]; omega
  · refine ⟨m + 2 ^ k, ?_, vs _ (by rw [hp]; omega) (.inr ⟨by omega, by rw [hpI2, hp]; omega⟩)⟩
    rw [show ((m : Int) - ((2 ^ k : Nat) : Int)) = ((m + 2 ^ k : Nat) : Int) + ((2 * 2 ^ k : Nat) : Int) * (-1) by push_cast; omega, Int.add_mul_emod_self_left, Int.emod_eq_of_lt (by omega) (by omega)]

theorem kd_eq {x : Str} {c : Nat} (hx : x = S [c]) (K : Kd) : (S [K.code] == x) = (K.code == c) := by
  subst hx
  cases h : K.code == c
  · rw [beq_eq_false_iff_ne] at h ⊢
    intro e; exact h (by simpa using S_inj e)
  · rw [beq_iff_eq] at h ⊢; rw [h]
theorem lit_s : Str.ofString "s" = S [115] := by decide +kernel
theorem lit_b : Str.ofString "b" = S [98] := by decide +kernel
theorem lit_p : Str.ofString "p" = S [112] := by decide +kernel
theorem lit_P : Str.ofString "P" = S [80] := by decide +kernel
theorem lit_f : Str.ofString "f" = S [102] := by decide +kernel
theorem lit_t : Str.ofString "t" = S [116] := by decide +kernel
def sel2 (a b : Int) (i : Nat) : Int := if i = 0 then a else b
def sel3 (a b c : Int) (i : Nat) : Int := if i = 0 then a else if i = 1 then b else c
def flS (i : Nat) : Nat := if i = 0 then 16 else if i = 1 then 32 else 64
def flN (i j : Nat) : Nat := if i = 0 then (if j = 0 then 15360 else 49152) else if i = 1 then (if j = 0 then 1065353216 else 3221225472) else (if j = 0 then 4607182418800017408 else 13835058055282163712)
theorem flS_sel (i : Nat) : sel3 16 32 64 i = ((flS i : Nat) : Int) := by
  unfold sel3 flS; split
  · rfl
  · split <;> rfl
theorem vok_f (i j : Nat) (t : Tok) : VOK .f (flS i) (.int (sel2 1 (-2) j) t) (flN i j) := by
  unfold flS flN sel2
  repeat' split
  all_goals first | exact .f .e1 | exact .f .e2 | exact .f .f1 | exact .f .f2 | exact .f .d1 | exact .f .d2
section
variable {w : World} {A : Around} {E : Value → Shared → Prop} {z : Shared} {h h₀ : Heap} {t : Nat} {L : Addr} {env : Env} {s : Shared}
  {ns gs : List Str} {vs vs' : List (Option Value)} {N N' : List (Addr × Obj)} {QV : Value → Shared → Prop} {value slice : Expr}
theorem t_pick3 {l : Addr} {a b c : Int} {t0 t1 t2 ti : Tok} {i : Int} (j : Nat) (hl : IsTup h l [Value.int a t0, .int b t1, .int c t2].toArray) (hi : i = (j : Int)) (hj : j < 3) (k : ∀ tk, QV (.int (sel3 a b c j) tk) (mk z h t))
    (hs : ∀ o i, subscripted slice false o i = operate [o, i] (getItem o i)) : wpAny (model Prg w) A (subscriptTail value slice (.ref l) (.int i ti)) QV E (mk z h t) := by
  have : j = 0 ∨ j = 1 ∨ j = 2 := by omega
  rcases this with rfl | rfl | rfl
  · exact t_tup 0 hl hi rfl (by decide) (k t0) hs
  · exact t_tup 1 hl hi rfl (by decide) (k t1) hs
  · exact t_tup 2 hl hi rfl (by decide) (k t2) hs
theorem t_pick2 {l : Addr} {a b : Int} {t0 t1 ti : Tok} {i : Int} (j : Nat) (hl : IsTup h l [Value.int a t0, .int b t1].toArray) (hi : i = (j : Int)) (hj : j < 2) (k : ∀ tk, QV (.int (sel2 a b j) tk) (mk z h t))
    (hs : ∀ o i, subscripted slice false o i = operate [o, i] (getItem o i)) : wpAny (model Prg w) A (subscriptTail value slice (.ref l) (.int i ti)) QV E (mk z h t) := by
  have : j = 0 ∨ j = 1 := by omega
  rcases this with rfl | rfl
  · exact t_tup 0 hl hi rfl (by decide) (k t0) hs
  · exact t_tup 1 hl hi rfl (by decide) (k t1) hs
/-- the floats' table at a size -/
theorem t_float {d a1 a2 a3 : Addr} {o : Obj} {t1 t2 t3 t4 t5 t6 ti : Tok} {i : Int} (j : Nat) (hd : h.get? d = some o) (hD : o.IsDictOf (PySem.intKind Prg w) [(16, .ref a1), (32, .ref a2), (64, .ref a3)])
    (i1 : IsTup h a1 #[.int 15360 t1, .int 49152 t2]) (i2 : IsTup h a2 #[.int 1065353216 t3, .int 3221225472 t4]) (i3 : IsTup h a3 #[.int 4607182418800017408 t5, .int 13835058055282163712 t6]) (hi : i = ((flS j : Nat) : Int))
    (k : ∀ a q1 q2, IsTup h a [Value.int (flN j 0 : Nat) q1, .int (flN j 1 : Nat) q2].toArray → QV (.ref a) (mk z h (t + 1)))
    (hs : ∀ o i, subscripted slice false o i = operate [o, i] (getItem o i)) : wpAny (model Prg w) A (subscriptTail value slice (.ref d) (.int i ti)) QV E (mk z h t) := by
  subst hi
  have hDd : h.DictOf (PySem.intKind Prg w) d [(16, .ref a1), (32, .ref a2), (64, .ref a3)] := Heap.dictOf_iff.mpr ⟨o, hd, hD⟩
  refine tail_any (s := mk z h t) hDd.typeIs slot_dict_getitem.lookup ?_ (hs _ _)
  have : ∃ a q1 q2, valueAt [((16 : Int), Value.ref a1), (32, .ref a2), (64, .ref a3)] ((flS j : Nat) : Int) = some (.ref a) ∧ IsTup h a [Value.int (flN j 0 : Nat) q1, .int (flN j 1 : Nat) q2].toArray := by
    unfold flS flN
    by_cases h0 : j = 0
    · simp only [h0, if_true]; exact ⟨a1, t1, t2, rfl, i1⟩
    · by_cases h1 : j = 1
      · simp only [h0, h1, if_true, if_false]; exact ⟨a2, t3, t4, rfl, i2⟩
      · simp only [h0, h1, if_false]; exact ⟨a3, t5, t6, rfl, i3⟩
  obtain ⟨a, q1, q2, hv, ht⟩ := this
  exact wpAny_getItem_of (s := mk z h t) (intKind_is _ _ _ _) hDd.mapOf hv (k a q1 q2 ht)
theorem m_tobytes {x : Int} {tx : Tok} {pl : Sem Bool} {QP : Value × List Value → Shared → Prop} (k : QP (.builtin "int.to_bytes", [.int x tx]) s) : wpAny (model Prg w) A (getMethod (.int x tx) "to_bytes" pl) QP E s := KTBy.method k
theorem v_tobig {x W : Nat} {tx tw tb : Tok} (hW : W ≤ 8) (hx : x < 2 ^ (8 * W)) (k : ∀ t' tk, QV (.bytes (By (octs W x)).toArray t') (mk z h tk)) :
    wpAny (model Prg w) A (call (.builtin "int.to_bytes") [.int (x : Int) tx, .int (W : Int) tw, .str (Str.ofString "big") tb]) QV E (mk z h t) := by
  refine KTBy.to_big (s := mk z h t) hW rfl (Int.natCast_nonneg x) ?_ fun b t' k' hb _ => ?_
  · have : (256 : Nat) ^ W = 2 ^ (8 * W) := by rw [Nat.pow_mul]
    rw [KTBy.p256, this]
    exact_mod_cast hx
  · rw [little_octs] at hb
    rw [bInts_By hb]; exact k t' k'
theorem v_chr {n : Nat} {tn : Tok} (hn : n ≤ 1114111) (k : QV (.str (S [n]) t) (mk z h (t + 1))) : wpAny (model Prg w) A (call (.builtin "chr") [.int (n : Int) tn]) QV E (mk z h t) :=
  chr_of_range (s := mk z h t) (by omega) (by omega) (by rw [Int.toNat_natCast]; exact k)
end
end
section
open PySem PySem.W PyProof.Rows PySem.Calls PyProof.V
theorem flS_ok (i : Nat) : 1 ≤ flS i ∧ flS i ≤ 64 := by
  unfold flS
  repeat' split
  all_goals decide
theorem flat1 : ∀ ls : List Nat, (ls.map fun c => [c]).flatten = ls
  | [] => rfl
  | c :: r => by simp only [List.map_cons, List.flatten_cons, flat1 r]; rfl
theorem closure_1 {scope : Scope} {env : Env} {a b x : Str} {c : Addr} (hn : scope.names = [(a, .local), (b, .local), (x, .free)]) (C : Ce env x c) : closureFor scope env = pure [(x, c)] := by
  unfold closureFor cellOf
  rw [hn]
  simp [C.addr]
theorem closure_2 {scope : Scope} {env : Env} {a b d x : Str} {c : Addr} (hn : scope.names = [(a, .local), (b, .local), (d, .globalImplicit), (x, .free)]) (C : Ce env x c) : closureFor scope env = pure [(x, c)] := by
  unfold closureFor cellOf
  rw [hn]
  simp [C.addr]
theorem ce_comp {scope : Scope} {env : Env} {x : Str} {c C : Addr} {cl : List (Str × Addr)} (h : Ce env x c) (hk : scope.kind = .function) (hx : scope.names.lookup x = some .free) (hnd : (scope.names.map (·.1)).Nodup) (hc : cl.lookup x = some c) : Ce (compEnvC scope cl C env) x c := by
  refine ⟨hk, ?_, hc, h.dbg⟩
  show List.lookup x (scope.names.map fun (n, k) => if (k == NameKind.free && env.scope.kind == .function && env.kindOf n == some .cell) then (n, NameKind.cell) else (n, k)) = some .cell
  generalize scope.names = l at hx hnd
  induction l with
  | nil => cases hx
  | cons p r ih =>
    obtain ⟨n, k⟩ := p
    simp only [List.map_cons]
    by_cases hn : x = n
    · subst hn
      simp only [List.lookup_cons, beq_self_eq_true] at hx
      cases hx
      simp [h.knd, h.kind, List.lookup_cons]
    · have hb : (x == n) = false := by simpa using hn
      rw [List.lookup_cons, hb] at hx
      have := ih hx (List.nodup_cons.mp hnd).2
      split <;> (rw [List.lookup_cons]; simp only [hb]; exact this)
section
variable {w : World} {A : Around} {E : Value → Shared → Prop} {z : Shared} {h : Heap} {t : Nat} {QV : Value → Shared → Prop}
set_option maxHeartbeats 8000000 in
theorem c_row (r : Room A 8) (g : Heap) (G : Gl w g) (gs : g.StaysIn h) (bx fw : Addr) (c : Int) (tc : Tok) (n : Nat) (hb : h.get? bx = some (boxO fw c tc n)) (hg : g.get? bx = none) (hf : Few g fw) (hc0 : 0 ≤ c) (hc1 : c < 90000) (pl : Nat) (tp : Tok)
    (k : ∀ (R : Row) tc' a h' t', R.Ok → R.pl = pl → (∀ b o, b ≠ bx → h.get? b = some o → h'.get? b = some o) → h'.get? bx = some (boxO fw (c + 1 + 1 + 1 + 1 + 1) tc' n) → h'.get? a = some (tupOf R.items) → h.get? a = none → QV (.ref a) (mk z h' t')) :
    wpAny (model Prg w) A (call (.ref 563) [.ref bx, .int pl tp]) QV E (mk z h t) := by
  have hgs : g.StaysIn (h.hide bx) := fun b o e => (Heap.hide_ne h (fun q : b = bx => by rw [q, hg] at e; cases e)).trans (gs b o e)
  have hne : fw ≠ bx := by
    obtain ⟨vs, ⟨o, e, _⟩, _⟩ := hf.few
    intro q; rw [q, hg] at e; cases e
  refine enterCell (n := 7) (binds := [(Str.ofString "box", .ref bx), (Str.ofString "place", .int pl tp)]) (h.hide bx) [(bx, boxO fw c tc n)] [Str.ofString "box", Str.ofString "place", Str.ofString "kind", Str.ofString "order", Str.ofString "size", Str.ofString "number", Str.ofString "value", Str.ofString "whole", Str.ofString "low", Str.ofString "octets", Str.ofString "octet"] [Str.ofString "_law_draw", Str.ofString "min", Str.ofString "_law_FLOATS", Str.ofString "bytes", Str.ofString "range"] (Str.ofString "drawn") [(Str.ofString "box", .ref bx), (Str.ofString "place", .int pl tp)] none
    rfl r (G.keeps hgs) (fun b o e => Heap.of_hide e) (Nat.le_of_eq (Heap.hide_size h bx)) (fun p hp => by rw [List.mem_singleton.mp hp]; exact ⟨hb, Heap.hide_self h bx⟩) (by simp) (by kernel_rfl) rfl (by tm_at "m_scX") ⟨rfl, rfl, trivial⟩
    (fun _ => rfl) rfl rfl ?_ ?_ ?_ ?_
  · intro x hx
    rcases List.mem_cons.mp hx with rfl | hx
    · exact .inl rfl
    · rw [List.mem_singleton.mp hx]; exact .inl rfl
  · funext y
    show (if y = Str.ofString "place" then some (Value.int pl tp) else if y = Str.ofString "box" then some (Value.ref bx) else none) = look _ _ y
    simp only [initL, look]
    by_cases h1 : y = Str.ofString "box"
    · have h2 : ¬ Str.ofString "box" = Str.ofString "place" := by decide +kernel
      simp [h1, h2]
    · by_cases h2 : y = Str.ofString "place"
      · simp [h2, show ¬ Str.ofString "place" = Str.ofString "box" by decide +kernel]
      · simp [h1, h2]
  · rfl
  intro A' L h' t' env o he r' hfr C Cc hd S
  clear he hfr
  dsimp only [initL] at S
  have fin : ∀ (R : Row) tcx a N vs h' t', R.Ok → R.pl = pl → (a, tupOf R.items) ∈ N → (bx, boxO fw (c + 1 + 1 + 1 + 1 + 1) tcx n) ∈ N → St w (h.hide bx) L [Str.ofString "box", Str.ofString "place", Str.ofString "kind", Str.ofString "order", Str.ofString "size", Str.ofString "number", Str.ofString "value", Str.ofString "whole", Str.ofString "low", Str.ofString "octets", Str.ofString "octet"] vs N h' → QV (.ref a) (mk z h' t') := by
    intro R tcx a N vs h' t' ok hpl m1 m2 S
    have ha : a ≠ bx := by
      rintro rfl
      have e1 := (S.W _ m1).1
      have e2 := (S.W _ m2).1
      rw [show (h'.get? a) = _ from e1] at e2
      have e3 := congrArg Obj.cls (Option.some.inj e2)
      injection e3 with e3
      exact absurd e3 (by decide)
    refine k R tcx a h' t' ok hpl (fun b o hb' e => S.F.keep _ _ ((Heap.hide_ne h hb').trans e)) (S.W _ m2).1 (S.W _ m1).1 ?_
    rw [← Heap.hide_ne h ha]; exact (S.W _ m1).2.2
  have hfb : Few (h.hide bx) fw := hf.keeps hgs
  tm_at "ms"
  refine x_draw (r'.le (by omega)) S (fun tc' => [(L + 1, o), (bx, boxO fw (c + 1) tc' n)]) (fun _ => .next .here) (hfb.keeps S.F.keep) hne (by omega) (by omega) (by decide) (by decide) ?_
  intro v1 tv1 tc1 h1 t1 l1 u1 _ S1 _
  clear S
  obtain ⟨j1, rfl⟩ := Int.eq_ofNat_of_zero_le l1
  refine t_item j1 lit_kinds rfl (by show j1 < 8; omega) (by decide) ?_ (by tm_at "m_hs") (by tm_at "m_hs")
  rw [kd_at (by omega)]
  generalize kdAt j1 = K
  tm_at "ms"
  rename St _ _ _ _ _ _ _ => S2
  clear S1
  refine x_draw (r'.le (by omega)) S2 (fun tc' => [(L + 1, o), (bx, boxO fw (c + 1 + 1) tc' n)]) (fun _ => .next .here) (hfb.keeps S2.F.keep) hne (by omega) (by omega) (by decide) (by decide) ?_
  intro v2 tv2 tc2 h2 t2 l2 u2 _ S3 _
  clear S2
  obtain ⟨j2, rfl⟩ := Int.eq_ofNat_of_zero_le l2
  refine t_item j2 lit_ords rfl (by show j2 < 2; omega) (by decide) ?_ (by tm_at "m_hs") (by tm_at "m_hs")
  rw [ord_at (by omega)]
  generalize decide (j2 = 0) = lt
  tm_at "ms"
  rename St _ _ _ _ _ _ _ => S4
  clear S3
  refine x_draw (r'.le (by omega)) S4 (fun tc' => [(L + 1, o), (bx, boxO fw (c + 1 + 1 + 1) tc' n)]) (fun _ => .next .here) (hfb.keeps S4.F.keep) hne (by omega) (by omega) (by decide) (by decide) ?_
  intro v3 tv3 tc3 h3 t3 l3 u3 _ S5 _
  clear S4
  obtain ⟨j3, rfl⟩ := Int.eq_ofNat_of_zero_le l3
  obtain ⟨sz, hsz⟩ : ∃ sz : Nat, (1 : Int) + (j3 : Nat) = (sz : Int) := ⟨1 + j3, by omega⟩
  have hlo : 1 ≤ sz := by omega
  have hhi : sz ≤ 20 := by omega
  tm_at "ms"
  rename St _ _ _ _ _ _ _ => S6
  rw [hsz] at S6
  clear S5 hsz
  refine x_draw (r'.le (by omega)) S6 (fun tc' => [(L + 1, o), (bx, boxO fw (c + 1 + 1 + 1 + 1) tc' n)]) (fun _ => .next .here) (hfb.keeps S6.F.keep) hne (by omega) (by omega) (by decide) (by decide) ?_
  intro v4 tv4 tc4 h4 t4 l4 u4 _ S7 _
  clear S6
  tm_at "ms"
  refine x_draw (r'.le (by omega)) S7 (fun tc' => [(L + 1, o), (bx, boxO fw (c + 1 + 1 + 1 + 1 + 1) tc' n)]) (fun _ => .next .here) (hfb.keeps S7.F.keep) hne (by omega) (by omega) (by decide) (by decide) ?_
  intro v5 tv5 tc5 h5 t5 l5 u5 _ S8 _
  clear S7
  obtain ⟨D, hD⟩ : ∃ D : Nat, (4096 : Int) * v4 + v5 = (D : Int) := ⟨(4096 * v4 + v5).toNat, by omega⟩
  tm_at "ms"
  rw [hD]
  clear hD
  refine x_putc (N' := fun o' => [(L + 1, o'), (bx, boxO fw (c + 1 + 1 + 1 + 1 + 1) tc5 n)]) Cc S8 hd (fun _ => .here) ?_
  intro o2 h6 hd2 S9
  clear S8 hd
  tm_at "ms"
  have hpp : (0 : Int) < 2 ^ (sz : Int).toNat := Int.pow_pos (by decide)
  have hmod : (D : Int) % 2 ^ (sz : Int).toNat = ((D % 2 ^ sz : Nat) : Int) := by rw [Int.toNat_natCast, Int.natCast_emod, p2i]
  have hml : D % 2 ^ sz < 2 ^ sz := Nat.mod_lt _ (Nat.two_pow_pos _)
  refine v_mod ?_ hpp
  rw [hmod]
  tm_at "ms"
  rename St _ _ _ _ _ _ _ => S10
  clear S9
  refine br_b (kd_eq lit_s K) (fun hk => ?_) (fun hk1 => ?_)
  · obtain rfl : K = .s := by cases K <;> first | rfl | (exact absurd hk (by decide))
    tm_at "ms"
    rename St _ _ _ _ _ _ _ => S11
    obtain ⟨nn, e3, vk⟩ := vok_s (D := D) hlo
    rw [show ((sz : Int) - 1).toNat = sz - 1 by omega, show (2 : Int) ^ (sz : Int).toNat = ((2 ^ sz : Nat) : Int) by rw [Int.toNat_natCast, p2i], e3] at S11
    exact fin ⟨.s, lt, sz, pl, _, nn, _, _, _, tp, _⟩ tc5 _ _ _ _ _ ⟨hlo, by show sz ≤ 64; omega, fun q => (by cases q), fun _ => vk _⟩ rfl (.head _) (.tail _ (.tail _ (.head _))) S11
  tm_at "ms"
  refine br_b (kd_eq lit_b K) (fun hk => ?_) (fun hk2 => ?_)
  · obtain rfl : K = .b := by cases K <;> first | rfl | (exact absurd hk (by decide))
    tm_at "ms"
    rename St _ _ _ _ _ _ _ => S11
    have e3 : min ((D : Int) % 3) 1 = ((if (D : Int) % 3 = 0 then 0 else 1 : Nat) : Int) := by split <;> omega
    rw [e3] at S11
    exact fin ⟨.b, lt, sz, pl, _, if (D : Int) % 3 = 0 then 0 else 1, _, _, _, tp, _⟩ tc5 _ _ _ _ _ ⟨hlo, by show sz ≤ 64; omega, fun q => (by cases q), fun _ => .b⟩ rfl (.head _) (.tail _ (.tail _ (.head _))) S11
  tm_at "ms"
  refine br_b (kd_eq lit_p K) (fun hk => ?_) (fun hk3 => ?_)
  · obtain rfl : K = .p := by cases K <;> first | rfl | (exact absurd hk (by decide))
    tm_at "ms"
    rename St _ _ _ _ _ _ _ => S11
    exact fin ⟨.p, lt, sz, pl, _, 0, _, _, _, tp, _⟩ tc5 _ _ _ _ _ ⟨hlo, by show sz ≤ 64; omega, fun q => rfl, fun q => (by cases q)⟩ rfl (.head _) (.tail _ (.tail _ (.head _))) S11
  tm_at "ms"
  refine br_b (kd_eq lit_P K) (fun hk => ?_) (fun hk4 => ?_)
  · obtain rfl : K = .P := by cases K <;> first | rfl | (exact absurd hk (by decide))
    tm_at "ms"
    rename St _ _ _ _ _ _ _ => S11
    have e3 : (2 : Int) ^ (sz : Int).toNat - 1 = ((2 ^ sz - 1 : Nat) : Int) := by have := Nat.two_pow_pos sz; rw [Int.toNat_natCast, ← p2i]; omega
    rw [e3] at S11
    exact fin ⟨.P, lt, sz, pl, _, 2 ^ sz - 1, _, _, _, tp, _⟩ tc5 _ _ _ _ _ ⟨hlo, by show sz ≤ 64; omega, fun q => rfl, fun q => (by cases q)⟩ rfl (.head _) (.tail _ (.tail _ (.head _))) S11
  tm_at "ms"
  refine br_b (kd_eq lit_f K) (fun hk => ?_) (fun hk5 => ?_)
  · obtain rfl : K = .f := by cases K <;> first | rfl | (exact absurd hk (by decide))
    tm_at "ms"
    rename St _ _ _ _ _ _ _ => S11
    clear S10
    refine t_pick3 (D % 3) (isTup_of S11 (.head _)) (by omega) (by omega) (fun q1 => ?_) (by tm_at "m_hs")
    rw [flS_sel]
    tm_at "ms"
    rename St _ _ _ _ _ _ _ => S12
    clear S11
    refine t_pick2 (D / 3 % 2) (isTup_of S12 (.head _)) (by omega) (by omega) (fun q2 => ?_) (by tm_at "m_hs")
    tm_at "ms"
    rename St _ _ _ _ _ _ _ => S13
    clear S12
    refine x_callf0 C S13 (by tm_at "m_mem") (gf_FLOATS w) ?_
    refine c_floats (r'.le (by omega)) S13.G ?_
    intro d od a1 a2 a3 q3 q4 q5 q6 q7 q8 h7 t7 k7 hn7 hd7 hdict i1 i2 i3
    have S14 := S13.stays k7
    clear S13
    tm_at "ms"
    refine t_float (D % 3) hd7 hdict i1 i2 i3 rfl (fun a q9 q10 it => ?_) (by tm_at "m_hs")
    tm_at "ms"
    refine t_pick2 (D / 3 % 2) it (by omega) (by omega) (fun q11 => ?_) (by tm_at "m_hs")
    rw [show sel2 ((flN (D % 3) 0 : Nat) : Int) ((flN (D % 3) 1 : Nat) : Int) (D / 3 % 2) = ((flN (D % 3) (D / 3 % 2) : Nat) : Int) by
      have : D / 3 % 2 = 0 ∨ D / 3 % 2 = 1 := by omega
      rcases this with e | e <;> rw [e] <;> rfl]
    tm_at "ms"
    rename St _ _ _ _ _ _ _ => S15
    exact fin ⟨.f, lt, flS (D % 3), pl, .int (sel2 1 (-2) (D / 3 % 2)) _, flN (D % 3) (D / 3 % 2), _, _, _, tp, _⟩ tc5 _ _ _ _ _ ⟨(flS_ok _).1, (flS_ok _).2, fun q => (by cases q), fun _ => vok_f _ _ _⟩ rfl (.head _) (.tail _ (.tail _ (.tail _ (.tail _ (.head _))))) S15
  tm_at "ms"
  refine br_b (in_rt K) (fun hk => ?_) (fun hk6 => ?_)
  rotate_left
  · obtain rfl : K = .u := by cases K <;> first | rfl | (exact absurd hk1 (by decide)) | (exact absurd hk2 (by decide)) | (exact absurd hk3 (by decide)) | (exact absurd hk4 (by decide)) | (exact absurd hk5 (by decide)) | (exact absurd hk6 (by decide))
    tm_at "ms"
    rename St _ _ _ _ _ _ _ => S11
    exact fin ⟨.u, lt, sz, pl, _, D % 2 ^ sz, _, _, _, tp, _⟩ tc5 _ _ _ _ _ ⟨hlo, by show sz ≤ 64; omega, fun q => (by cases q), fun _ => .u hml⟩ rfl (.head _) (.tail _ (.tail _ (.head _))) S11
  clear hk1 hk2 hk3 hk4 hk5
  tm_at "ms"
  rename St _ _ _ _ _ _ _ => S11
  clear S10
  obtain ⟨W, hW⟩ : ∃ W, W = (sz + 7) / 8 := ⟨_, rfl⟩
  have hW1 : 1 ≤ W := by omega
  have hW2 : W ≤ 3 := by omega
  have hW3 : sz ≤ 8 * W := by omega
  have hW4 : 8 * W < sz + 8 := by omega
  have eL : (2 : Int) ^ (8 * (((sz : Int) + 7) / 8) - (sz : Int)).toNat = ((2 ^ (8 * W - sz) : Nat) : Int) := by
    rw [show (8 * (((sz : Int) + 7) / 8) - (sz : Int)).toNat = 8 * W - sz by omega, p2i]
  have eW : ((sz : Int) + 7) / 8 = (W : Int) := by omega
  rw [eL, eW] at S11
  rw [eL]
  have hN : D % 2 ^ sz * 2 ^ (8 * W - sz) < 2 ^ (8 * W) := by
    have : 2 ^ (8 * W) = 2 ^ sz * 2 ^ (8 * W - sz) := by rw [← Nat.pow_add]; congr 1; omega
    rw [this]
    exact Nat.mul_lt_mul_of_pos_right hml (Nat.two_pow_pos _)
  have hl1 : 1 ≤ 2 ^ (8 * W - sz) := Nat.two_pow_pos _
  have hl2 : 2 ^ (8 * W - sz) ≤ 128 := Nat.pow_le_pow_right (by decide) (show 8 * W - sz ≤ 7 by omega)
  generalize hlw : 2 ^ (8 * W - sz) = lw at S11 hN hl1 hl2
  generalize hN0 : D % 2 ^ sz = N0 at S11 hN
  clear eL eW
  refine v_mul ?_ (by left; omega)
  rw [show (N0 : Int) * (lw : Int) = ((N0 * lw : Nat) : Int) by rw [Int.natCast_mul]]
  refine m_tobytes ?_
  tm_at "ms"
  refine v_tobig (by omega) hN fun q1 q2 => ?_
  tm_at "ms"
  rename St _ _ _ _ _ _ _ => S12
  clear S11
  refine br_b (kd_eq lit_t K) (fun hk => ?_) (fun hk7 => ?_)
  rotate_left
  · obtain rfl : K = .r := by cases K <;> first | rfl | (exact absurd hk (by decide)) | (exact absurd hk7 (by decide))
    tm_at "ms"
    rename St _ _ _ _ _ _ _ => S13
    have e5 : N0 = nb (octs W (N0 * lw)) / 2 ^ (8 * (octs W (N0 * lw)).length - sz) := by
      rw [nb_octs, Nat.mod_eq_of_lt hN, octs_len, hlw, Nat.mul_div_cancel _ hl1]
    have vk : ∀ tk : Tok, VOK .r sz (.bytes (By (octs W (N0 * lw))).toArray tk) N0 := fun tk => by
      have := VOK.r (sz := sz) (l := octs W (N0 * lw)) (t := tk) (octs_lt _ _) (fun e => by have := octs_len W (N0 * lw); rw [e] at this; simp at this; omega) (by rw [octs_len]; omega) (by rw [octs_len]; omega) (by rw [octs_len]; omega)
      rw [← e5] at this; exact this
    exact fin ⟨.r, lt, sz, pl, _, N0, _, _, _, tp, _⟩ tc5 _ _ _ _ _ ⟨hlo, by show sz ≤ 64; omega, fun q => (by cases q), fun _ => vk _⟩ rfl (.head _) (.tail _ (.tail _ (.head _))) S13
  obtain rfl : K = .t := by cases K <;> first | rfl | (exact absurd hk (by decide))
  tm_at "ms"
  refine e_comp (h₀ := h.hide bx) [Str.ofString ".0", Str.ofString "k"] [] (by tm_at "m_asm") (by tm_at "m_scC") (closure_1 rfl Cc) (by tm_at "m_idx") (by tm_at "m_hs") (by tm_at "m_hs") ?_
  refine x_callT C S12 (by tm_at "m_mem") (bi_range w) ?_ (by with_unfolding_all rfl) (by with_unfolding_all rfl)
  tm_at "ms"
  refine call_range_1 ?_
  refine ⟨W, _, _, _, _, fun i its N => N = [(L + 1, o2), (bx, boxO fw (c + 1 + 1 + 1 + 1 + 1) tc5 n)] ∧ IntsAre its ((List.range i).map fun k => ((65 + (D + 7 * k) % 26 : Nat) : Int)) ∧ its.length = i, it_range r'.hd S12 (by omega), by omega, ⟨rfl, .nil, rfl⟩, ?_, ?_, ?_, ?_⟩
  · rintro i its N ⟨rfl, _⟩ p hp
    cases hp
  · rintro i its N ⟨rfl, _, h⟩
    omega
  · rintro g2 C2 cenv D2 vsC i v its N h5 t5 o cc I ec Cc2 hi ⟨ti, rfl⟩ ⟨rfl, hi1, hi2⟩ hvl hg2 S13
    obtain ⟨u0, u1, rfl⟩ : ∃ a b, vsC = [a, b] := by
      rcases vsC with _ | ⟨a, _ | ⟨b, _ | ⟨c, r⟩⟩⟩ <;> simp at hvl
      exact ⟨a, b, rfl⟩
    simp only [List.set_cons_succ, List.set_cons_zero] at S13
    have Cd : Ce cenv (Str.ofString "drawn") (L + 1) := by
      rw [ec]; exact ce_comp Cc rfl rfl (by decide +kernel) (by with_unfolding_all rfl)
    clear S12
    refine f_nil ?_
    rw [if_pos rfl]
    tm_at "ms"
    refine ⟨_, _, _, _, rfl, S13, rfl, ?_, by simp [hi2]⟩
    rw [List.range_succ, List.map_append]
    have e6 : (65 : Int) + ((D : Int) + 7 * (i : Nat)) % 26 = ((65 + (D + 7 * i) % 26 : Nat) : Int) := by omega
    rw [e6]
    exact ints_snoc hi1 _ _
  rintro its N h5 t5 D2 cc ⟨rfl, hi1, hi2⟩ S13
  clear S12
  generalize hls : (List.range W).map (fun k => 65 + (D + 7 * k) % 26) = ls
  have hll : ls.length = W := by rw [← hls]; simp
  have hlt : ∀ c ∈ ls, c < 128 := by
    intro c hc
    rw [← hls] at hc
    obtain ⟨k, _, rfl⟩ := List.mem_map.mp hc
    omega
  have hls2 : (List.range W).map (fun k => ((65 + (D + 7 * k) % 26 : Nat) : Int)) = ls.map fun c => ((c : Nat) : Int) := by rw [← hls, List.map_map]; rfl
  rw [hls2] at hi1
  tm_at "ms"
  refine v_bytesL S13 (isList_of S13 (.head _)) hi1 ?_ (by simp; omega) r'.hd ?_
  · intro m hm
    obtain ⟨c, hc, rfl⟩ := List.mem_map.mp hm
    have := hlt c hc
    omega
  intro h14 t14 tk14 S14
  rw [show (ls.map fun c => ((c : Nat) : Int)).map Int.toNat = ls by rw [List.map_map]; exact (List.map_congr_left fun c _ => Int.toNat_natCast c).trans (List.map_id _)]
  tm_at "ms"
  rename St _ _ _ _ _ _ _ => S15
  clear S13 S14 hi1 hi2
  generalize hN15 : [(D2, listOf its.toArray cc), (L + 1, o2), (bx, boxO fw (c + 1 + 1 + 1 + 1 + 1) tc5 n)] = N15 at S15
  have hbx15 : (bx, boxO fw (c + 1 + 1 + 1 + 1 + 1) tc5 n) ∈ N15 := by rw [← hN15]; exact .tail _ (.tail _ (.head _))
  clear hN15
  refine e_comp (h₀ := h.hide bx) [Str.ofString ".0", Str.ofString "octet"] [Str.ofString "chr"] (by tm_at "m_asm") (by tm_at "m_scC") rfl (by tm_at "m_idx") (by tm_at "m_hs") (by tm_at "m_hs") ?_
  tm_at "ms"
  have hby : ∀ {i : Nat} {u8 : UInt8}, (By ls).toArray[i]? = some u8 → ∃ m, ls[i]? = some m ∧ u8.toNat = m ∧ m < 128 := fun {i u8} e => by
    simp only [List.getElem?_toArray, By, List.getElem?_map] at e
    cases e2 : ls[i]? with
    | none => rw [e2] at e; cases e
    | some m =>
      rw [e2] at e; cases e
      have hm := hlt m (List.mem_of_getElem? e2)
      exact ⟨m, rfl, by simp; omega, hm⟩
  have hbs : (By ls).toArray.size = W := by simp [By_len, hll]
  refine ⟨_, _, _, _, _, fun i its N => N = N15 ∧ ∃ lt : List (List Nat × Tok), its = (lt.map fun p => Value.str (Mine.S p.1) p.2) ∧ lt.map (·.1) = (ls.take i).map fun c => [c], it_bytes r'.hd S15, by rw [hbs]; omega, ⟨rfl, [], rfl, rfl⟩, ?_, ?_, ?_, ?_⟩
  · rintro i its N ⟨rfl, _⟩ p hp
    cases hp
  · rintro i its N ⟨rfl, lt, rfl, h⟩
    have := congrArg List.length h
    simp at this ⊢
    omega
  · rintro g2 C2 cenv D3 vsC i v its N h5 t5 o cc I ec Cc2 hi ⟨u8, ti, hu8, rfl⟩ ⟨rfl, lt, rfl, hlt2⟩ hvl hg2 S16
    obtain ⟨u0, u1, rfl⟩ : ∃ a b, vsC = [a, b] := by
      rcases vsC with _ | ⟨a, _ | ⟨b, _ | ⟨c, r⟩⟩⟩ <;> simp at hvl
      exact ⟨a, b, rfl⟩
    simp only [List.set_cons_succ, List.set_cons_zero] at S16
    obtain ⟨m, hm1, hm2, hm3⟩ := hby hu8
    rw [hm2] at S16
    clear S15
    refine f_nil ?_
    rw [if_pos rfl]
    tm_at "ms"
    refine v_chr (by omega) ?_
    refine ⟨_, _, _, _, rfl, S16, rfl, lt ++ [([m], t5)], by simp, ?_⟩
    rw [List.take_add_one, hm1, List.map_append, hlt2]; simp
  rintro its2 N h16 t16 D3 cc2 ⟨rfl, lt2, rfl, hlt2⟩ S16
  clear S15
  rw [hbs, ← hll, List.take_length] at hlt2
  tm_at "ms"
  refine v_joinL (ls := ls.map fun c => [c]) (isList_of S16 (.head _)) ?_ ?_ fun t17 tk17 => ?_
  · rw [← hlt2, List.map_map]; exact strs_map lt2
  · have : (ls.map fun c => [c]).flatten = ls := flat1 ls
    rw [this, List.length_map]; omega
  rw [flat1]
  tm_at "ms"
  rename St _ _ _ _ _ _ _ => S17
  clear S16
  generalize hN17 : (D3, listOf _ cc2) :: N = N17 at S17
  have hbx17 : (bx, boxO fw (c + 1 + 1 + 1 + 1 + 1) tc5 n) ∈ N17 := by rw [← hN17]; exact .tail _ hbx15
  clear hN17 hbx15
  refine s_forK (z := z) (h₀ := h.hide bx) (ns := [Str.ofString "box", Str.ofString "place", Str.ofString "kind", Str.ofString "order", Str.ofString "size", Str.ofString "number", Str.ofString "value", Str.ofString "whole", Str.ofString "low", Str.ofString "octets", Str.ofString "octet"]) (by tm_at "m_asm") ?_ (by tm_at "m_hs") (by tm_at "m_hs")
  tm_at "ms"
  refine ⟨_, _, _, _, _, fun i vs N => N = N17 ∧ ∃ tn u, vs = [some (.ref bx), some (.int (pl : Int) tp), some (.str (Mine.S [Kd.t.code]) _), some (.str (ordS lt) _), some (.int (sz : Int) _), some (.int (nb (ls.take i) : Nat) tn), some (.str (Mine.S ls) t17), some (.int (W : Int) _), some (.int (lw : Int) _), some (.bytes (By ls).toArray _), u], it_bytes r'.hd S17, ⟨rfl, _, _, rfl⟩, ?_, ?_, ?_⟩
  · rintro i vs N ⟨rfl, _⟩ p hp
    cases hp
  · rintro i v vs N h5 t5 oI I hi ⟨u8, ti, hu8, rfl⟩ ⟨rfl, tn, u, rfl⟩ S18
    obtain ⟨m, hm1, hm2, hm3⟩ := hby hu8
    refine a_name C S18 (by tm_at "m_idx") fun h6 t6 S19 => ?_
    simp only [List.set_cons_succ, List.set_cons_zero] at S19
    rw [hm2] at S19
    clear S17 S18
    tm_at "ms"
    rename St _ _ _ _ _ _ _ => S20
    have e7 : ((nb (ls.take i) : Nat) : Int) * 256 + (m : Nat) = ((nb (ls.take (i + 1)) : Nat) : Int) := by
      rw [List.take_add_one, hm1]
      show _ = ((nb (ls.take i ++ [m]) : Nat) : Int)
      rw [nb_snoc]; omega
    rw [e7] at S20
    exact Turned.mk' S20 ⟨rfl, _, _, rfl⟩
  rintro vs N h5 t5 ⟨rfl, tn, u, rfl⟩ S18
  clear S17
  rw [hbs, ← hll, List.take_length] at S18
  tm_at "ms"
  rename St _ _ _ _ _ _ _ => S19
  have e8 : ((nb ls : Nat) : Int) / (lw : Int) = ((nb ls / 2 ^ (8 * ls.length - sz) : Nat) : Int) := by rw [hll, hlw, Int.natCast_ediv]
  rw [e8] at S19
  have vk : ∀ tk : Tok, VOK .t sz (.str (Mine.S ls) tk) (nb ls / 2 ^ (8 * ls.length - sz)) := fun tk => .t hlt (fun e => by rw [e] at hll; simp at hll; omega) (by omega) (by omega) (by omega)
  exact fin ⟨.t, lt, sz, pl, _, nb ls / 2 ^ (8 * ls.length - sz), _, _, _, tp, _⟩ tc5 _ _ _ _ _ ⟨hlo, by show sz ≤ 64; omega, fun q => (by cases q), fun _ => vk _⟩ rfl (.head _) (.tail _ hbx17) S19
end
end
section
open PySem PySem.W PyProof.Rows PySem.Calls PyProof.V
/-- the rows' tuples -/
def rowsM (ps : List (Addr × Row)) : List (Addr × Obj) := ps.map fun p => (p.1, tupOf p.2.items)
def cntR (ps : List (Addr × Row)) : Nat := (ps.filter fun p => !p.2.k.pad).length
/-- a run's rows -/
structure RunOk (ps : List (Addr × Row)) : Prop where
  ok : ∀ p ∈ ps, p.2.Ok
  pl : ∀ i p, ps[i]? = some p → p.2.pl = cntR (ps.take i)
theorem RunOk.snoc {ps : List (Addr × Row)} (h : RunOk ps) {a : Addr} {R : Row} (hR : R.Ok) (hp : R.pl = cntR ps) : RunOk (ps ++ [(a, R)]) := by
  refine ⟨fun p hp' => ?_, fun i p hi => ?_⟩
  · rcases List.mem_append.mp hp' with q | q
    · exact h.ok p q
    · rw [List.mem_singleton.mp q]; exact hR
  · by_cases hlt : i < ps.length
    · rw [List.getElem?_append_left hlt] at hi
      rw [List.take_append_of_le_length (by omega)]
      exact h.pl i p hi
    · have hi' := (List.getElem?_eq_some_iff.mp hi).1
      rw [List.length_append, List.length_singleton] at hi'
      have e : i = ps.length := by omega
      subst e
      rw [List.getElem?_append_right (Nat.le_refl _), Nat.sub_self] at hi
      cases hi
      rw [List.take_left' rfl]
      exact hp
theorem cntR_snoc (ps : List (Addr × Row)) (a : Addr) (R : Row) : cntR (ps ++ [(a, R)]) = cntR ps + if R.k.pad then 0 else 1 := by
  unfold cntR
  rw [List.filter_append, List.length_append]
  cases h : R.k.pad <;> simp [h]
section
variable {w : World} {A : Around} {E : Value → Shared → Prop} {z : Shared} {h h₀ : Heap} {t : Nat} {L : Addr} {ns gs : List Str} {vs : List (Option Value)} {N : List (Addr × Obj)} {Q : Value → Shared → Prop}
/-- a row at a call -/
theorem x_row (r : Room A 8) (S : St w h₀ L ns vs N h) {bx fw : Addr} {c : Int} {tc : Tok} {n pl : Nat} {tp : Tok} (N' : Tok → List (Addr × Obj)) (u : ∀ tc', UpdN N bx (boxO fw c tc n) (boxO fw (c + 1 + 1 + 1 + 1 + 1) tc' n) (N' tc')) (hf : Few h fw) (hne : fw ≠ bx) (hc0 : 0 ≤ c) (hc1 : c < 90000)
    (k : ∀ (R : Row) tc' a h' t', R.Ok → R.pl = pl → St w h₀ L ns vs ((a, tupOf R.items) :: N' tc') h' → Q (.ref a) (mk z h' t')) :
    (KK w).In (mk z h t).heap ∧ wpAny (model Prg w) A (call (.ref 563) [.ref bx, .int pl tp]) Q E (mk z h t) := by
  have wb := S.W _ (u tc).mem
  have hgs : h₀.StaysIn (h.hide bx) := fun b o e => (Heap.hide_ne h (fun q : b = bx => by rw [q, wb.2.2] at e; cases e)).trans (S.F.keep b o e)
  have hfg : Few (h.hide bx) fw := by
    obtain ⟨vs, hl, r⟩ := hf.few
    exact ⟨vs, hl.at fun o e => (Heap.hide_ne h hne).trans e, r⟩
  refine ⟨S.G.X, c_row r (h.hide bx) (S.G₀.keeps hgs) (fun b o e => Heap.of_hide e) bx fw c tc n wb.1 (Heap.hide_self h bx) hfg hc0 hc1 pl tp fun R tc' a h' t' hR hp hk hb ha hn => ?_⟩
  have S' := S.upd (u tc') hk hb
  exact k R tc' a h' t' hR hp (S.born S' (u tc').keys [(a, tupOf R.items)] (fun p hp => by rw [List.mem_singleton.mp hp]; exact ⟨ha, hn⟩) (by simp))
end
theorem rev3 {a b c : Addr × Obj} {R : List (Addr × Obj)} : (c :: b :: a :: R).Perm (a :: b :: c :: R) := (List.Perm.swap _ _ _).trans ((List.Perm.cons _ (List.Perm.swap _ _ _)).trans (List.Perm.swap _ _ _))
theorem to_end {a : Addr × Obj} {R : List (Addr × Obj)} : (R ++ [a]).Perm (a :: R) := List.perm_append_comm (l₁ := R) (l₂ := [a])
theorem rowsM_snoc (ps : List (Addr × Row)) (a : Addr) (R : Row) : rowsM (ps ++ [(a, R)]) = rowsM ps ++ [(a, tupOf R.items)] := by simp [rowsM]
theorem lit_hand : Str.ofString "01xy" = S [48, 49, 120, 121] := by decide +kernel
section
variable {w : World} {A : Around} {E : Value → Shared → Prop} {z : Shared} {h : Heap} {t : Nat} {QV : Value → Shared → Prop}
set_option maxHeartbeats 4000000 in
theorem c_run (r : Room A 11) (g : Heap) (G : Gl w g) (gs : g.StaysIn h) (bx fw : Addr) (tc : Tok) (n : Nat) (hb : h.get? bx = some (boxO fw 0 tc n)) (hg : g.get? bx = none) (hf : Few g fw)
    (k : ∀ ps l cl hand a th c' tc' h' t', RunOk ps → 1 ≤ ps.length → ps.length ≤ 6 → hand.length ≤ 20 → (∀ b o, b ≠ bx → h.get? b = some o → h'.get? b = some o) → h'.get? bx = some (boxO fw c' tc' n) →
      (∀ p ∈ (l, listOf (ps.map fun p => Value.ref p.1).toArray cl) :: rowsM ps, h'.get? p.1 = some p.2 ∧ h.get? p.1 = none) → (((l, listOf (ps.map fun p => Value.ref p.1).toArray cl) :: rowsM ps).map (·.1)).Nodup → IsTup h' a #[.ref l, .str (S hand) th] → QV (.ref a) (mk z h' t')) :
    wpAny (model Prg w) A (call (.ref 568) [.ref bx]) QV E (mk z h t) := by
  have hgs : g.StaysIn (h.hide bx) := fun b o e => (Heap.hide_ne h (fun q : b = bx => by rw [q, hg] at e; cases e)).trans (gs b o e)
  have hne : fw ≠ bx := by
    obtain ⟨vs, ⟨o, e, _⟩, _⟩ := hf.few
    intro q; rw [q, hg] at e; cases e
  have hfb : Few (h.hide bx) fw := hf.keeps hgs
  refine enterCell (n := 10) (binds := [(Str.ofString "box", .ref bx)]) (h.hide bx) [(bx, boxO fw 0 tc n)] [Str.ofString "rows", Str.ofString "place", Str.ofString "_k", Str.ofString "row", Str.ofString "hand"] [Str.ofString "range", Str.ofString "_law_draw", Str.ofString "_law_row"] (Str.ofString "box") [] (some (.ref bx))
    rfl r (G.keeps hgs) (fun b o e => Heap.of_hide e) (Nat.le_of_eq (Heap.hide_size h bx)) (fun p hp => by rw [List.mem_singleton.mp hp]; exact ⟨hb, Heap.hide_self h bx⟩) (by simp) (by kernel_rfl) rfl (by tm_at "m_scX") trivial
    (fun _ => rfl) rfl rfl (fun x hx => by rw [List.mem_singleton.mp hx]; exact .inr ⟨rfl, rfl⟩) (by rw [initL_nil]; rfl) rfl ?_
  intro A' L h' t' env o he r' hfr C Cc hd S
  have hin : interactive env = false := by rw [he]; with_unfolding_all rfl
  clear he hfr
  dsimp only [initL] at S
  tm_at "ms"
  rename St _ _ _ _ _ _ _ => S1
  clear S
  have S2 := S1.perm rev3
  clear S1
  tm_at "m_forR"
  tm_at "ms"
  refine x_draw (r'.le (by omega)) S2 (fun tc' => [(bx, boxO fw (0 + 1) tc' n), (L + 1, o), (_, listOf ([] : List Value).toArray 0)]) (fun _ => .here) (hfb.keeps S2.F.keep) hne (by omega) (by omega) (by decide) (by decide) ?_
  intro v1 tv1 tc1 h1 t1 l1 u1 _ S3 _
  clear S2
  obtain ⟨j1, rfl⟩ := Int.eq_ofNat_of_zero_le l1
  tm_at "ms"
  refine rfor (fun i vs N => ∃ ps l cl c' tc' tp u1 u2, RunOk ps ∧ ps.length = i ∧ 0 ≤ c' ∧ c' ≤ 1 + 5 * (i : Int) ∧ N = (bx, boxO fw c' tc' n) :: (L + 1, o) :: (l, listOf (ps.map fun p => Value.ref p.1).toArray cl) :: rowsM ps ∧
    vs = [some (.ref l), some (.int (cntR ps : Nat) tp), u1, u2, none]) (1 + j1) (by omega) (by omega) S3 ⟨[], _, _, _, _, _, _, _, ⟨fun p hp => (by cases hp), fun i p hp => (by simp at hp)⟩, rfl, by omega, by omega, rfl, rfl⟩ ?_ ?_
  · rintro i vs N h5 t5 ⟨I, oI⟩ tk hi ⟨ps, l, cl, c', tc', tp, u1, u2, hR, hlen, hc1, hc2, rfl, rfl⟩ S4
    clear S3
    tm_at "m_vs"
    tm_at "ms"
    rename St _ _ _ _ _ _ _ => S5
    refine x_row (r'.le (by omega)) S5 (fun tc'' => (I, oI) :: (bx, boxO fw (c' + 1 + 1 + 1 + 1 + 1) tc'' n) :: (L + 1, o) :: (l, listOf (ps.map fun p => Value.ref p.1).toArray cl) :: rowsM ps) (fun _ => .next .here) (hfb.keeps S5.F.keep) hne (by omega) (by omega) ?_
    intro R tc6 a h6 t6 hRo hRp S6
    clear S5
    tm_at "ms"
    rename St _ _ _ _ _ _ _ => S7
    refine v_append S7 (.next (.next (.next (.next .here)))) (by rw [sizeLine_eq]; simp; omega) ?_
    intro h8 S8
    clear S6 S7
    refine ⟨rfl, ?_⟩
    have ep : (ps.map fun p => Value.ref p.1) ++ [Value.ref a] = (ps ++ [(a, R)]).map fun p => Value.ref p.1 := by simp
    rw [ep] at S8
    tm_at "ms"
    refine br_b (c := !R.k.pad) (by rw [in_pP]) (fun hp => ?_) (fun hp => ?_)
    · tm_at "ms"
      rename St _ _ _ _ _ _ _ => S9
      have hp' : R.k.pad = false := by simpa using hp
      have ec : ((cntR ps : Nat) : Int) + 1 = ((cntR (ps ++ [(a, R)]) : Nat) : Int) := by rw [cntR_snoc, hp']; simp
      rw [ec] at S9
      refine Turned.mk' (S9.perm (N' := (I, oI) :: (bx, boxO fw (c' + 1 + 1 + 1 + 1 + 1) tc6 n) :: (L + 1, o) :: (l, listOf ((ps ++ [(a, R)]).map fun p => Value.ref p.1).toArray (cl + 1)) :: rowsM (ps ++ [(a, R)])) (by rw [rowsM_snoc]; exact to_end (R := (I, oI) :: (bx, _) :: (L + 1, o) :: (l, _) :: rowsM ps))) ⟨ps ++ [(a, R)], l, _, _, _, _, _, _, hR.snoc hRo hRp, by simp [hlen], ?_, ?_, rfl, rfl⟩
      · omega
      · omega
    · tm_at "ms"
      have hp' : R.k.pad = true := by simpa using hp
      have ec : ((cntR ps : Nat) : Int) = ((cntR (ps ++ [(a, R)]) : Nat) : Int) := by rw [cntR_snoc, hp']; simp
      rw [ec] at S8
      refine Turned.mk' (S8.perm (N' := (I, oI) :: (bx, boxO fw (c' + 1 + 1 + 1 + 1 + 1) tc6 n) :: (L + 1, o) :: (l, listOf ((ps ++ [(a, R)]).map fun p => Value.ref p.1).toArray (cl + 1)) :: rowsM (ps ++ [(a, R)])) (by rw [rowsM_snoc]; exact to_end (R := (I, oI) :: (bx, _) :: (L + 1, o) :: (l, _) :: rowsM ps))) ⟨ps ++ [(a, R)], l, _, _, _, _, _, _, hR.snoc hRo hRp, by simp [hlen], ?_, ?_, rfl, rfl⟩
      · omega
      · omega
  rintro vs N h5 t5 ⟨ps, l, cl, c', tc', tp, u1, u2, hR, hlen, hc1, hc2, rfl, rfl⟩ S4
  clear S3
  tm_at "ms"
  refine e_comp (h₀ := h.hide bx) [Str.ofString ".0", Str.ofString "_k"] [Str.ofString "_law_draw"] (by tm_at "m_asm") (by tm_at "m_scC") (closure_2 rfl Cc) (by tm_at "m_idx") (by tm_at "m_hs") (by tm_at "m_hs") ?_
  refine x_callT C S4 (by tm_at "m_mem") (bi_range w) ?_ (by with_unfolding_all rfl) (by with_unfolding_all rfl)
  tm_at "ms"
  refine x_draw (r'.le (by omega)) S4 (fun tc'' => (bx, boxO fw (c' + 1) tc'' n) :: (L + 1, o) :: (l, listOf (ps.map fun p => Value.ref p.1).toArray cl) :: rowsM ps) (fun _ => .here) (hfb.keeps S4.F.keep) hne (by omega) (by omega) (by decide) (by decide) ?_
  intro v6 tv6 tc6 h6 t6 l6 u6 _ S5 _
  clear S4
  obtain ⟨hn, rfl⟩ := Int.eq_ofNat_of_zero_le l6
  tm_at "ms"
  refine call_range_1 ?_
  refine ⟨hn, _, _, _, _, fun i its N => ∃ c' tc' lt, 0 ≤ c' ∧ c' ≤ 100 + (i : Int) ∧ N = (bx, boxO fw c' tc' n) :: (L + 1, o) :: (l, listOf (ps.map fun p => Value.ref p.1).toArray cl) :: rowsM ps ∧ its = (lt.map fun (p : List Nat × Tok) => Value.str (Mine.S p.1) p.2) ∧ lt.length = i ∧ ∀ p ∈ lt, p.1.length = 1, it_range r'.hd S5 (by omega), by omega, ⟨_, _, [], by omega, by omega, rfl, rfl, rfl, fun p hp => (by cases hp)⟩, ?_, ?_, ?_, ?_⟩
  · intro i its N _ p hp
    cases hp
  · rintro i its N ⟨_, _, lt, _, _, rfl, rfl, hl, _⟩
    simp; omega
  · rintro g2 C2 cenv D2 vsC i v its N h7 t7 oI cc I ec Cc2 hi ⟨ti, rfl⟩ ⟨c2, tc2, lt, hc3, hc4, rfl, rfl, hl1, hl2⟩ hvl hg2 S6
    obtain ⟨u0, u1, rfl⟩ : ∃ a b, vsC = [a, b] := by
      rcases vsC with _ | ⟨a, _ | ⟨b, _ | ⟨c, r⟩⟩⟩ <;> simp at hvl
      exact ⟨a, b, rfl⟩
    simp only [List.set_cons_succ, List.set_cons_zero] at S6
    have Cd : Ce cenv (Str.ofString "box") (L + 1) := by
      rw [ec]; exact ce_comp Cc rfl rfl (by decide +kernel) (by with_unfolding_all rfl)
    clear S5
    refine f_nil ?_
    rw [if_pos rfl]
    tm_at "ms"
    refine x_draw (r'.le (by omega)) S6 (fun tc'' => (I, oI) :: (D2, listOf (lt.map fun (p : List Nat × Tok) => Value.str (Mine.S p.1) p.2).toArray cc) :: (bx, boxO fw (c2 + 1) tc'' n) :: (L + 1, o) :: (l, listOf (ps.map fun p => Value.ref p.1).toArray cl) :: rowsM ps) (fun _ => .next (.next .here)) ((hfb.keeps hg2).keeps S6.F.keep) hne (by omega) (by omega) (by decide) (by decide) ?_
    intro v8 tv8 tc8 h8 t8 l8 u8 _ S7 _
    clear S6
    obtain ⟨j8, rfl⟩ := Int.eq_ofNat_of_zero_le l8
    refine t_item j8 lit_hand rfl (by show j8 < 4; omega) (by decide) ?_ (by tm_at "m_hs") (by tm_at "m_hs")
    refine ⟨_, _, _, _, rfl, S7, _, _, lt ++ [([_], _)], by omega, by omega, rfl, by rw [List.map_append]; rfl, by simp [hl1], ?_⟩
    intro p hp
    rcases List.mem_append.mp hp with q | q
    · exact hl2 p q
    · rw [List.mem_singleton.mp q]; rfl
  rintro its N h9 t9 D2 cc ⟨c2, tc2, lt, hc3, hc4, rfl, rfl, hl1, hl2⟩ S6
  clear S5
  have hfl : (lt.map (·.1)).flatten.length = hn := by
    rw [← hl1]
    clear hl1 S6
    induction lt with
    | nil => rfl
    | cons p lt ih =>
      simp only [List.map_cons, List.flatten_cons, List.length_append, List.length_cons]
      rw [ih fun p hp => hl2 p (.tail _ hp), hl2 p (.head _)]; omega
  tm_at "ms"
  refine v_joinL (ls := lt.map (·.1)) (isList_of S6 (.head _)) ?_ ?_ fun t10 tk10 => ?_
  · rw [List.map_map]; exact strs_map lt
  · rw [hfl, List.length_map]; omega
  generalize (lt.map (·.1)).flatten = hand at hfl
  tm_at "ms"
  rename St _ _ _ _ _ _ _ => S7
  have W := S7.W
  have hnd := (List.nodup_cons.mp (List.nodup_cons.mp S7.nd).2).2
  have hnb : ∀ p ∈ (l, listOf (ps.map fun p => Value.ref p.1).toArray cl) :: rowsM ps, p.1 ≠ bx := fun p hp e => (List.nodup_cons.mp hnd).1 (List.mem_map.mpr ⟨p, .tail _ hp, e⟩)
  refine k ps l cl hand _ _ c2 tc2 _ _ hR (by omega) (by omega) (by omega) (fun b o hb' e => S7.F.keep _ _ ((Heap.hide_ne h hb').trans e)) (W _ (.tail _ (.tail _ (.head _)))).1 (fun p hp => ⟨(W p (.tail _ (.tail _ (.tail _ (.tail _ hp))))).1, ?_⟩) (List.nodup_cons.mp (List.nodup_cons.mp hnd).2).2 (isTup_of S7 (.head _))
  rw [← Heap.hide_ne h (hnb p hp)]
  exact (W p (.tail _ (.tail _ (.tail _ (.tail _ hp))))).2.2
end
end
section
open PySem PySem.W PyProof.Rows PySem.Calls PyProof.V
section
variable {w : World} {A : Around} {E : Value → Shared → Prop} {z : Shared} {h h₀ : Heap} {t : Nat} {L : Addr} {env : Env} {s : Shared}
  {ns gs : List Str} {vs vs' : List (Option Value)} {N N' : List (Addr × Obj)} {QV : Value → Shared → Prop} {Q : Flow → Shared → Prop} {QB : Bool → Shared → Prop} {QU : Unit → Shared → Prop} {QL : List Value → Shared → Prop} {value slice : Expr} {rest : List Stmt} {pos : Pos}
theorem v_beq {a b : List UInt8} {ta tb : Tok} (k : QV (.bool (a == b)) s) : wpAny (model Prg w) A (compareOp .Eq (.bytes a.toArray ta) (.bytes b.toArray tb)) QV E s := eq_bytes (by simpa using k)
theorem v_bne {a b : List UInt8} {ta tb : Tok} (k : QV (.bool (a != b)) s) : wpAny (model Prg w) A (compareOp .NotEq (.bytes a.toArray ta) (.bytes b.toArray tb)) QV E s := ne_bytes (by simpa using k)
/-- a call by a name of the top, a star among the arguments behind the first -/
theorem x_callS {x : Str} {p pos : Pos} {a : Addr} {e : Expr} {args : List Expr} (C : Fn env L ns gs) (S : St w h₀ L ns vs N h) (hx : x ∈ gs) (g : GF w x a)
    (k : wpAny (model Prg w) A (spliced (backTo pos (starEach (e :: args) env))) (fun vs s₁ => (KK w).In s₁.heap ∧ wpAny (model Prg w) A (call (.ref a) vs) QV E s₁) E (mk z h t))
    (he : starEach (e :: args) env = (false, eval e env) :: starEach args env) (hp : (backTo pos (starEach args env)).any (·.1) = true) :
    wpAny (model Prg w) A (eval (.Call (.Name x p) (e :: args) [] pos) env) QV E (mk z h t) :=
  Call_Name rfl (x_glob C S hx g.v (callWith_S2 S.G.X g.keep k he hp))
theorem x_star {e : Expr} {p : Pos} {rest : List Expr} {l : Addr} {its : List Value} {c : Nat}
    (k : wpAny (model Prg w) A (eval e env) (fun v s₁ => ∃ h t vs N, v = .ref l ∧ s₁ = mk z h t ∧ St w h₀ L ns vs N h ∧ (l, listOf its.toArray c) ∈ N ∧ its.length ≤ 1000 ∧
      ∀ h', St w h₀ L ns vs N h' → wpAny (model Prg w) A (spliced (backTo pos (starEach rest env))) (fun vs s₃ => QL (its ++ vs) s₃) E (mk z h' t)) E s)
    (he : starEach (.Starred e p :: rest) env = (true, eval e env) :: starEach rest env) : wpAny (model Prg w) A (spliced (backTo pos (starEach (.Starred e p :: rest) env))) QL E s := by
  refine items_star (wpAny_mono k (fun v s₁ q => ?_) fun _ _ x => x) he
  obtain ⟨h, t, vs, N, rfl, rfl, S, hm, hz, q⟩ := q
  exact star_seq (s := mk z h t) (o := listOf its.toArray c) (T := "list") (its := its.toArray) S.F S.W hm rfl rfl (.inl rfl) rfl (by rw [sizeLine_eq]; simp; omega) fun h' F' N' => q h' ⟨F', N', S.G₀, S.nd, S.len⟩
/-- a tuple into names -/
theorem a_unp {elts : List Expr} {kk : Nat} {tpos : Pos} {ps : List (Str × Pos)} {xs : List Str} {tp : Addr} {its : List Value} (r : A.handled = none) (C : Fn env L ns gs) (S : St w h₀ L ns vs N h) (he : Nms elts ps xs) (ht : IsTup h tp its.toArray) (hl : its.length = xs.length) (p : Puts ns vs xs its vs')
    (k : ∀ h' t', St w h₀ L ns vs' N h' → QU () (mk z h' t')) : wpAny (model Prg w) A (assign (.Tuple elts kk tpos) env (.ref tp)) QU E (mk z h t) := by
  refine unpackN_ (s := mk z h t) S.F S.W ht r ?_ ?_ fun h' F' N' => ?_
  · rw [he.each]; simp only [List.length_map, List.size_toArray]; rw [hl, ← he.names]; simp
  · rw [he.each, List.findIdx?_eq_none_iff]; simp
  · rw [he.each, List.map_map]
    exact x_stores C ⟨F', N', S.G₀, S.nd, S.len⟩ (he.names ▸ p) fun h' t' S' => k h' t' S'
/-- the first of a list of ints -/
theorem t_sliceL {l : Addr} {its : List Value} {ns' : List Int} {b : Int} {tb : Tok} (S : St w h₀ L ns vs N h) (hl : h.IsList l its.toArray) (hi : IntsAre its ns') (hz : its.length ≤ 1000)
    (k : ∀ D its' ns'' h', St w h₀ L ns vs ((D, listOf its'.toArray 0) :: N) h' → IntsAre its' ns'' → its'.length ≤ its.length → QV (.ref D) (mk z h' t))
    (hs : subscripted slice false (.ref l) (.ref h.objs.size) = operate [.ref h.objs.size, .ref l] (getItem (.ref l) (.ref h.objs.size))) (ht : ∀ r, letTemporaryGo value (.ref l) r = pure ()) :
    wpAny (model Prg w) A (subscriptTail value slice (.ref l) (.ref (mk z h t).heap.objs.size)) QV E { mk z h t with heap := (mk z h t).heap.push (slObj .none (.int b tb) .none) } := by
  refine slice_list3 (s := mk z h t) S.F S.W hl .none (.int b tb) .none (by simp) (fun h' F' N' => ?_) hs ht (by rw [sizeLine_eq]; simp; omega)
  have hp := hi.pick none (some b) none
  have e1 := length_pickNums_le hi none (some b) none
  have e2 := hp.length
  have e3 := hi.length
  refine k _ _ _ h' ⟨F', ?_, S.G₀, List.nodup_cons.mpr ⟨fun q => ?_, S.nd⟩, S.len⟩ hp (by omega)
  · rw [Array.toArray_toList]; exact N'
  · obtain ⟨p, hp', e⟩ := List.mem_map.mp q
    have := Heap.lt_size (S.W p hp').1
    rw [e] at this
    exact absurd this (by show ¬ h.objs.size + 1 < h.objs.size; omega)
theorem c_list {l : Addr} {its : List Value} (hl : h.IsList l its.toArray) (hz : its.length ≤ 1000) (k : QB (decide (its ≠ [])) (mk z h (t + 1 + 1))) : wpAny (model Prg w) A (truthy (.ref l)) QB E (mk z h t) := by
  refine wpAny_truthy_list (s := mk z h t) hl (by simp; omega) ?_
  have : (!its.toArray.isEmpty) = decide (its ≠ []) := by cases its <;> simp
  rw [this]; exact k
theorem v_strI {n : Nat} {tn : Tok} (hn : n ≤ 64) (k : QV (.str (S (digN n)) t) (mk z h (t + 1))) : wpAny (model Prg w) A (call (.type "str") [.int (n : Int) tn]) QV E (mk z h t) := by
  refine PySem.P.str_of_int (s := mk z h t) ?_ ?_
  · have : ((n : Int)).natAbs = n := rfl
    rw [this]
    rcases Nat.eq_zero_or_pos n with e | e
    · subst e; decide
    · have := (Nat.log2_lt (by omega)).mpr (show n < 2 ^ 10 by omega)
      omega
  · rw [digN_S] at k; exact k
/-- a run at a call -/
theorem x_run (r : Room A 11) (S : St w h₀ L ns vs N h) {bx fw : Addr} {tc : Tok} {n : Nat} (N' : Obj → List (Addr × Obj)) (u : ∀ o', UpdN N bx (boxO fw 0 tc n) o' (N' o')) (hf : Few h fw) (hne : fw ≠ bx)
    (k : ∀ ps l cl hand a th o' h' t', RunOk ps → 1 ≤ ps.length → ps.length ≤ 6 → hand.length ≤ 20 → St w h₀ L ns vs (((l, listOf (ps.map fun p => Value.ref p.1).toArray cl) :: rowsM ps) ++ N' o') h' → IsTup h' a [.ref l, .str (Mine.S hand) th].toArray → QV (.ref a) (mk z h' t')) :
    (KK w).In (mk z h t).heap ∧ wpAny (model Prg w) A (call (.ref 568) [.ref bx]) QV E (mk z h t) := by
  have wb := S.W _ (u (boxO fw 0 tc n)).mem
  have hgs : h₀.StaysIn (h.hide bx) := fun b o e => (Heap.hide_ne h (fun q : b = bx => by rw [q, wb.2.2] at e; cases e)).trans (S.F.keep b o e)
  have hfg : Few (h.hide bx) fw := by
    obtain ⟨vs, hl, r⟩ := hf.few
    exact ⟨vs, hl.at fun o e => (Heap.hide_ne h hne).trans e, r⟩
  refine ⟨S.G.X, c_run r (h.hide bx) (S.G₀.keeps hgs) (fun b o e => Heap.of_hide e) bx fw tc n wb.1 (Heap.hide_self h bx) hfg fun ps l cl hand a th c' tc' h' t' hR h1 h6 hh hk hb hm hnd ht => ?_⟩
  have S' := S.upd (u (boxO fw c' tc' n)) hk hb
  exact k ps l cl hand a th _ h' t' hR h1 h6 hh (S.born S' (u _).keys _ hm hnd) ht
end
end
local macro_rules | `(tactic| tm_at "m_k") => `(tactic| with_reducible first | refine v_beq ?_ | refine v_bne ?_)
section
open PySem PySem.W PyProof.Rows PySem.Calls PyProof.V
def rowGi (R : Row) : Gi := ⟨R.k, R.sz, R.lt, R.pl⟩
def spOf (R : Row) : Sp := ⟨[if R.lt then 60 else 62], R.k, R.sz⟩
def spsOf (ps : List (Addr × Row)) : List Sp := ps.map fun p => spOf p.2
def rowsL (ps : List (Addr × Row)) : List (Gi × Nat) := ps.map fun p => (rowGi p.2, p.2.num)
def numsOfR (ps : List (Addr × Row)) : List Nat := ps.map fun p => p.2.num
def valsOf (ps : List (Addr × Row)) : List Value := (ps.filter fun p => !p.2.k.pad).map fun p => p.2.val
theorem ltOf_row (lt b : Bool) : ltOf lt [if b then 60 else 62] = b := by cases b <;> rfl
theorem giL_rows : ∀ (suf pre : List (Addr × Row)) (lt : Bool), RunOk (pre ++ suf) → giL lt (cntR pre) (spsOf suf) = suf.map fun p => rowGi p.2
  | [], _, _, _ => rfl
  | p :: suf, pre, lt, h => by
    have hp : p.2.pl = cntR pre := by
      have := h.pl pre.length p (by rw [List.getElem?_append_right (Nat.le_refl _), Nat.sub_self]; rfl)
      rwa [List.take_left' rfl] at this
    have h' : RunOk ((pre ++ [p]) ++ suf) := by rw [List.append_assoc]; exact h
    have ih := giL_rows suf (pre ++ [p]) p.2.lt h'
    have hc : cntR (pre ++ [p]) = if p.2.k.pad then cntR pre else cntR pre + 1 := by
      have := cntR_snoc pre p.1 p.2
      rw [show (p.1, p.2) = p from rfl] at this
      rw [this]; split <;> rfl
    rw [hc] at ih
    show ⟨p.2.k, p.2.sz, ltOf lt [if p.2.lt then 60 else 62], cntR pre⟩ :: giL (ltOf lt [if p.2.lt then 60 else 62]) (if p.2.k.pad then cntR pre else cntR pre + 1) (spsOf suf) = rowGi p.2 :: suf.map fun p => rowGi p.2
    rw [ltOf_row, ih]
    unfold rowGi
    rw [hp]
theorem giL_ps {ps : List (Addr × Row)} (h : RunOk ps) : giL false 0 (spsOf ps) = ps.map fun p => rowGi p.2 := giL_rows ps [] false h
theorem zip_ps (ps : List (Addr × Row)) : (ps.map fun p => rowGi p.2).zip (numsOfR ps) = rowsL ps := by
  induction ps with
  | nil => rfl
  | cons p ps ih => simp only [numsOfR, rowsL, List.map_cons, List.zip_cons_cons] at ih ⊢; rw [ih]
theorem spsOf_ok {ps : List (Addr × Row)} (h : RunOk ps) : ∀ s ∈ spsOf ps, s.Ok := fun s hs => by
  obtain ⟨p, hp, rfl⟩ := List.mem_map.mp hs
  have := h.ok p hp
  exact ⟨by show [if p.2.lt then 60 else 62] = [] ∨ [if p.2.lt then 60 else 62] = [60] ∨ [if p.2.lt then 60 else 62] = [62]; cases p.2.lt <;> simp, this.lo, this.hi⟩
theorem vals_len (ps : List (Addr × Row)) : (valsOf ps).length = cntR ps := by simp [valsOf, cntR]
theorem cntA_ps (ps : List (Addr × Row)) : cntA (ps.map fun p => rowGi p.2) = cntR ps := by
  unfold cntA cntR
  rw [List.filter_map, List.length_map]
  rfl
theorem vals_get (ps : List (Addr × Row)) : ∀ (i : Nat) (p : Addr × Row), ps[i]? = some p → p.2.k.pad = false → (valsOf ps)[cntR (ps.take i)]? = some p.2.val := by
  induction ps with
  | nil => intro i p h; simp at h
  | cons q ps ih =>
    intro i p h hp
    cases i with
    | zero =>
      simp at h; subst h
      simp [valsOf, cntR, hp]
    | succ i =>
      simp at h
      have := ih i p h hp
      unfold valsOf cntR at this ⊢
      cases hq : q.2.k.pad
      · simpa [hq] using this
      · simpa [hq] using this
theorem pval_ps {ps : List (Addr × Row)} (h : RunOk ps) (hz : ps.length ≤ 6) (i : Nat) (g : Gi) (m : Nat) (h1 : (ps.map fun p => rowGi p.2)[i]? = some g) (h2 : (numsOfR ps)[i]? = some m) : PVal (valsOf ps) g m := by
  rw [List.getElem?_map] at h1
  unfold numsOfR at h2
  rw [List.getElem?_map] at h2
  cases e : ps[i]? with
  | none => rw [e] at h1; cases h1
  | some p =>
    rw [e] at h1 h2
    cases h1; cases h2
    have ok := h.ok p (List.mem_of_getElem? e)
    have pl := h.pl i p e
    refine ⟨ok.lo, ok.hi, ok.pad, fun hp => ⟨?_, p.2.val, ?_, ok.val hp⟩⟩
    · show p.2.pl < 1000
      rw [pl]
      have : cntR (ps.take i) ≤ (ps.take i).length := List.length_filter_le _ _
      rw [List.length_take] at this
      omega
    · show (valsOf ps)[p.2.pl]? = _
      rw [pl]; exact vals_get ps i p e hp
def txtOf (R : Row) : List Nat := [if R.lt then 60 else 62] ++ [R.k.code] ++ digN R.sz
theorem txt_grp (ps : List (Addr × Row)) : (ps.map fun p => txtOf p.2).flatten = joinG ((spsOf ps).map Sp.grp) := by
  unfold joinG spsOf
  rw [List.map_map, List.map_map]
  congr 1
theorem dig_len {n : Nat} (h : n ≤ 64) : (digN n).length ≤ 3 := (digOk_at 65 (by decide +kernel) n (by omega)).2.1
theorem rowsL_get {ps : List (Addr × Row)} {i : Nat} {p : Addr × Row} (h : ps[i]? = some p) : (rowsL ps)[i]? = some (rowGi p.2, p.2.num) := by unfold rowsL; rw [List.getElem?_map, h]; rfl
theorem rowsL_sz {ps : List (Addr × Row)} (h : RunOk ps) : ∀ q ∈ rowsL ps, q.1.sz ≤ 64 := fun q hq => by
  obtain ⟨p, hp, rfl⟩ := List.mem_map.mp hq
  exact (h.ok p hp).hi
theorem rowsL_len (ps : List (Addr × Row)) : (rowsL ps).length = ps.length := by simp [rowsL]
theorem lit_u1 : Str.ofString "u1" = S (joinG ([(⟨[], .u, 1⟩ : Sp)].map Sp.grp) ++ if false then [60] else []) := by decide +kernel
theorem lit_u1l : Str.ofString "u1<" = S (joinG ([(⟨[], .u, 1⟩ : Sp)].map Sp.grp) ++ if true then [60] else []) := by decide +kernel
theorem lit_u4s4 : Str.ofString "u4s4" = S (joinG ([(⟨[], .u, 4⟩ : Sp), ⟨[], .s, 4⟩].map Sp.grp) ++ if false then [60] else []) := by decide +kernel
theorem u1_ok : ∀ s ∈ [(⟨[], .u, 1⟩ : Sp)], s.Ok := fun s hs => by rw [List.mem_singleton.mp hs]; exact ⟨.inl rfl, by decide, by decide⟩
theorem u4s4_ok : ∀ s ∈ [(⟨[], .u, 4⟩ : Sp), ⟨[], .s, 4⟩], s.Ok := fun s hs => by
  rcases List.mem_cons.mp hs with rfl | hs
  · exact ⟨.inl rfl, by decide, by decide⟩
  · rw [List.mem_singleton.mp hs]; exact ⟨.inl rfl, by decide, by decide⟩
theorem u4s4_res : By (octs (((packL false [] ((giL false 0 [(⟨[], .u, 4⟩ : Sp), ⟨[], .s, 4⟩]).zip [1, 15])).length + 7) / 8) (dval 2 (padL (packL false [] ((giL false 0 [(⟨[], .u, 4⟩ : Sp), ⟨[], .s, 4⟩]).zip [1, 15]))))) = [31] := by decide +kernel
theorem u4s4_pval (t1 t2 : Tok) (i : Nat) (g : Gi) (m : Nat) (h1 : (giL false 0 [(⟨[], .u, 4⟩ : Sp), ⟨[], .s, 4⟩])[i]? = some g) (h2 : [1, 15][i]? = some m) : PVal [.int 1 t1, .int (-1) t2] g m := by
  rcases i with _ | _ | i
  · cases h1; cases h2
    exact ⟨by decide, by decide, fun q => (by cases q), fun _ => ⟨by decide, _, rfl, .u (n := 1) (by decide)⟩⟩
  · cases h1; cases h2
    exact ⟨by decide, by decide, fun q => (by cases q), fun _ => ⟨by decide, _, rfl, .s (by decide) (by decide) (by decide) (by decide)⟩⟩
  · simp [giL] at h1
end
section
open PySem PySem.W PyProof.Rows PySem.Calls
theorem Idx.get? {ns : List Str} {j : Nat} {x : Str} (i : Idx ns j x) : x ∈ ns := List.mem_of_getElem? i.get
theorem swaps_true {env : Env} {L : Addr} {ns gs : List Str} (C : Fn env L ns gs) {y : Str} (hy : y ∈ ns) {elt : Expr} {gens : List Comprehension} {scope : Scope} {pos py : Pos} {line : Nat} (hl : (py.line == pos.line) = true)
    (hn : (scope.names.any fun (n, k) => n == y && (k == .local || k == .cell)) = false) : swapsWith (.ListComp elt gens scope pos) (some (.Name y py)) line env = pure true := by
  show (pure (env.blockKind == .function && env.kindOf y == some .local && py.line == pos.line && !(scope.names.any fun (n, k) => n == y && (k == .local || k == .cell))) : Sem Bool) = pure true
  rw [hl, hn, C.loc y hy]
  unfold Env.blockKind
  rw [C.kind]
  rfl
section
variable {w : World} {A : Around} {E : Value → Shared → Prop} {z : Shared} {h h₀ : Heap} {t : Nat} {L : Addr} {env : Env} {s : Shared}
  {ns gs : List Str} {vs vs' : List (Option Value)} {N N' : List (Addr × Obj)} {QV : Value → Shared → Prop} {Q : Flow → Shared → Prop} {rest : List Stmt}
/-- a comprehension given to a name at once -/
def CompA (w : World) (A : Around) (z : Shared) (h₀ : Heap) (L : Addr) (env : Env) (ns : List Str) (nsC gsC : List Str) (j jy : Nat) (scope : Scope) (cl : List (Str × Addr)) (ifs : List Expr) (elt : Expr) (R : Shared → Prop) (xv : Value) (s₁ : Shared) : Prop :=
  ∃ (n : Nat) (P : Nat → Value → Prop) (old : List (Addr × Obj)) (vs : List (Option Value)) (N : List (Addr × Obj)) (Inv : Nat → List Value → List (Addr × Obj) → Prop),
    wpAny (model Prg w) A (pyIter xv) (Iter0 w A z h₀ L ns vs N old n P) NoE s₁ ∧ n ≤ 1000000 ∧ Inv 0 [] N ∧ (∀ i its N, Inv i its N → ∀ p ∈ old, p ∈ N) ∧ (∀ i its N, Inv i its N → its.length ≤ i) ∧
    (∀ g C cenv D (vsC : List (Option Value)) i v its N h t o c I, cenv = compEnvC scope cl C env → Fn cenv C nsC gsC → i < n → P i v → Inv i its N → vsC.length = nsC.length → h₀.StaysIn g → St w g C nsC (vsC.set j (some v)) ((I, o) :: (D, listOf its.toArray c) :: N) h →
      wpAny (model Prg w) A (forIn ifs true fun c r => if r = true then do let ok ← isTrue c cenv (eval c cenv); pure (ForInStep.yield ok) else pure (ForInStep.yield r))
        (fun ok s₁ => if ok = true then wpAny (model Prg w) A (eval elt cenv) (CTurned w z g C nsC (I, o) D c its (Inv (i + 1))) NoE s₁ else CSkipped w z g C nsC (I, o) D c its (Inv (i + 1)) s₁) NoE (mk z h t)) ∧
    (∀ its N h t D c, Inv n its N → St w h₀ L ns (vs.set jy (some (.ref D))) ((D, listOf its.toArray c) :: N) h → R (mk z h t))
theorem s_compA {elt iter : Expr} {x y : Str} {px py : Pos} {ifs : List Expr} {scope : Scope} {pos spos : Pos} {cl : List (Str × Addr)} (nsC gsC : List Str) {j jy : Nat} (Cf : Fn env L ns gs) (hjy : Idx ns jy y) (Sc : ScC scope env nsC gsC) (hcl : closureFor scope env = pure cl) (hj : Idx nsC j x)
    (hl : (py.line == pos.line) = true) (hn : (scope.names.any fun (n, k) => n == y && (k == .local || k == .cell)) = false)
    (hs : ∀ x, foldedSetIterable iter env x = pure x) (hgo : ∀ I v, letOwnedTupleGo (.Name x px) (.ref I) v = pure ())
    (k : wpAny (model Prg w) A (eval iter env) (CompA w A z h₀ L env ns nsC gsC j jy scope cl ifs elt (fun s => wpAny (model Prg w) A (execs rest env) Q NoE s)) NoE s) :
    wpAny (model Prg w) A (execs (.Assign [.Name y py] (.ListComp elt [⟨.Name x px, iter, ifs, 0⟩] scope pos) spos :: rest) env) Q NoE s := by
  refine s_cons ?_
  rw [exec_Assign_Name_used _ _ _ _ (swaps_true Cf hjy.get? hl hn)]
  refine wpAny_bind (wpAny_standAt (wpAny_bind ?_))
  show wpAny _ A (do let _ ← comprehension (.ListComp elt [⟨.Name x px, iter, ifs, 0⟩] scope pos) scope env _ (newList []) false (eval iter env) (some (assign (.Name y py) env))) _ _ s
  refine wpAny_bind (wpAny_mono (wpAny_comprehension_free (use := some (assign (.Name y py) env)) (Q := fun _ s' => wpAny (model Prg w) A (execs rest env) Q NoE s') rfl hs hcl Sc.kind Sc.names
    (wpAny_mono k (fun xv s₁ q => ?_) fun _ _ e => e)) (fun _ s' hq => wpAny_pure (wpAny_pure hq)) fun _ _ e => e)
  obtain ⟨n, P, old, vs, N, Inv, hit, hn, h0, hold, hlen, step, done⟩ := q
  refine wpAny_mono hit (fun it s₂ q => ?_) fun _ _ x => x
  obtain ⟨I, fp, Stt, h, t, rfl, rfl, W, hI, st, S, hI0, hIL, hIN, hfp⟩ := q
  obtain ⟨oI, hoI⟩ := hI _ _ st
  have S' : St w h₀ L ns vs ((I, oI) :: N) h := ⟨S.F, fun p hp => by
    rcases List.mem_cons.mp hp with rfl | hp
    · exact ⟨hoI, hIL, hI0⟩
    · exact S.W p hp, S.G₀, List.nodup_cons.mpr ⟨fun q => by
      obtain ⟨p, hp, e⟩ := List.mem_map.mp q
      exact hIN p hp e, S.nd⟩, S.len⟩
  obtain ⟨g, Gg, gst, gsz, gN, g0, ⟨oL, gL⟩, back⟩ := S'.ground
  refine wpAny_newObj_type (s := mk z h t) (wpAny_newFunctionEnv Sc.cell (by intro y hy; simp at hy) (fun h₁ hns₁ hsb₁ => ?_) Sc.kind) (by show ([] : List Value).toArray.size ≤ sizeLine; rw [sizeLine_eq]; simp)
  dsimp only at hns₁ hsb₁ ⊢
  have hC : (h.push (listOf ([] : List Value).toArray 0)).objs.size = h.objs.size + 1 := Heap.size_push ..
  have hlt : ∀ {b o}, h.get? b = some o → b ≠ h.objs.size + 1 ∧ b ≠ h.objs.size := fun e => ⟨Nat.ne_of_lt (Nat.lt_succ_of_lt (Heap.lt_size e)), Nat.ne_of_lt (Heap.lt_size e)⟩
  have old' : ∀ b o, h.get? b = some o → h₁.get? b = some o := fun b o e => by
    refine hsb₁.extBut b o ?_ (Heap.get?_push_of_some _ (Heap.get?_push_of_some _ e))
    show b ≠ (h.push (listOf ([] : List Value).toArray 0)).objs.size
    rw [hC]; exact (hlt e).1
  have gnone : ∀ a, h.objs.size ≤ a → g.get? a = none := fun a ha => Heap.get?_none_of_le (by rw [gsz]; exact ha)
  have hDn : h₁.get? h.objs.size = some (listOf ([] : List Value).toArray 0) := by
    refine hsb₁.extBut _ _ ?_ (Heap.get?_push_of_some _ (Heap.get?_push_size _ rfl))
    show h.objs.size ≠ (h.push (listOf ([] : List Value).toArray 0)).objs.size
    rw [hC]; omega
  have Fc : Fn (compEnvC scope cl (h.push (listOf ([] : List Value).toArray 0)).objs.size env) (h.push (listOf ([] : List Value).toArray 0)).objs.size nsC gsC :=
    ⟨Sc.kind, Sc.nodup, Sc.loc, Sc.glo, Sc.dbg, Sc.dbg', rfl, Cf.globals, Cf.builtins, rfl⟩
  have Si : St w g (h.push (listOf ([] : List Value).toArray 0)).objs.size nsC (initL [] nsC) ((h.objs.size, listOf ([] : List Value).toArray 0) :: N) h₁ := by
    refine ⟨⟨by rw [initL_nil]; exact hns₁, fun b o e => old' b o (gst b o e), by rw [gsz, hC]; omega⟩, fun p hp => ?_, Gg, List.nodup_cons.mpr ⟨fun q => ?_, S.nd⟩, initL_len _ _⟩
    · rcases List.mem_cons.mp hp with rfl | hp
      · exact ⟨hDn, by rw [hC]; show h.objs.size ≠ _; omega, gnone _ (Nat.le_refl _)⟩
      · have := gN p (.tail _ hp)
        exact ⟨old' _ _ this.1, by rw [hC]; exact (hlt this.1).1, this.2⟩
    · obtain ⟨p, hp, e⟩ := List.mem_map.mp q
      exact (hlt (S.W p hp).1).2 e
  have st₁ : Stt 0 h₁ := W.frame _ _ _ st fun b _ o e => old' b o e
  have loop : ∀ t', codeAny (model Prg w) A (.compLoop (.ListComp elt [⟨.Name x px, iter, ifs, 0⟩] scope pos) 0 (.ref I) (.ref h.objs.size) (compEnvC scope cl (h.push (listOf ([] : List Value).toArray 0)).objs.size env))
      (compPost (model Prg w) A NoE (some (assign (.Name y py) env)) (fun _ s' => wpAny (model Prg w) A (execs rest env) Q NoE s') (.ref h.objs.size) (h.push (listOf ([] : List Value).toArray 0)).objs.size) (mk z h₁ t') := by
    intro t'
    refine comp_loop Fc W hn hI old (fun b hb => ?_) Inv hold hlen hj (hgo I) Si (gN _ (.head _)).2 (by rw [hC]; exact (hlt hoI).1) (hlt hoI).2 hIN st₁ h0 ?_ ?_
    · rcases hfp b hb with e | ⟨o, e⟩ | e
      · exact .inl e
      · exact .inr (.inl ⟨o, g0 _ _ e⟩)
      · exact .inr (.inr e)
    · intro i v its N h' t vsC o c hi hP hJ S₂
      exact step g _ _ _ _ i v its N h' t o c I rfl Fc hi hP hJ (by have := S₂.len; simpa using this) g0 S₂
    · intro its N h' t c vsC hJ S₂
      have S₃ := back S₂
      have hLC : env.locals ≠ (h.push (listOf ([] : List Value).toArray 0)).objs.size := by
        intro e
        have := (hlt (gst _ _ gL)).1
        rw [hC, Cf.locals] at e; exact this e
      show wpAny (model Prg w) A (assign (.Name y py) env (.ref h.objs.size)) _ _ _
      refine wpAny_assign_Name (wpAny_storeName_local (Cf.loc y hjy.get?) (by rw [Cf.locals]; exact S₃.F.ns) (fun h₂ hn₂ hs₂ => ?_) (by rw [Cf.kind]; rfl))
      have hs₂' : Heap.SameBut L h' h₂ := by rw [← Cf.locals]; exact hs₂
      have S₄ : St w h₀ L ns (vs.set jy (some (.ref h.objs.size))) ((h.objs.size, listOf its.toArray c) :: N) h₂ :=
        ⟨(put_set _ hjy.get S₃.len Cf.nodup).look Cf.nodup ▸ S₃.F.set (by rw [← Cf.locals]; exact hn₂) hs₂', S₃.W.set hs₂', S₃.G₀, S₃.nd, (put_set _ hjy.get S₃.len Cf.nodup).len.trans S₃.len⟩
      refine ⟨_, S₂.F.ns.sameBut hs₂ (Ne.symm hLC), fun h₃ hb => done its N h₃ _ _ c hJ (S₄.but hb ?_ ?_ ?_)⟩
      · intro e; rw [Cf.locals] at hLC; exact hLC e.symm
      · intro p hp e
        exact (S₂.W p hp).2.1 e
      · cases q : h₀.get? (h.push (listOf ([] : List Value).toArray 0)).objs.size with
        | none => rfl
        | some o => have := (hlt (gst _ _ (g0 _ _ q))).1; rw [hC] at this; exact absurd rfl this
  exact codeAny_compStart_list (loop _) (W.self 0 _ _ _ st₁ (loop _))
end
end
section
open PySem PySem.W PyProof.Rows PySem.Calls
section
variable {w : World} {A : Around} {E : Value → Shared → Prop} {z : Shared} {h h₀ : Heap} {t : Nat} {L : Addr}
  {ns gs : List Str} {vs vs' : List (Option Value)} {N : List (Addr × Obj)} {env : Env}
theorem loop_walksT {target : Expr} {body : List Stmt} {R : Result → Shared → Prop} {I : Addr} {fp : List Addr} {n : Nat} {P : Nat → Value → Prop} {Stt : Nat → Heap → Prop}
    (hL : env.locals = L) (W : Walks Prg w A I fp [I] n P Stt) (hI : ∀ i h, Stt i h → ∃ o, h.get? I = some o)
    (old : List (Addr × Obj)) (hfp : ∀ b ∈ fp, b = I ∨ (∃ o, h₀.get? b = some o) ∨ ∃ o, (b, o) ∈ old)
    (Inv : Nat → List (Option Value) → List (Addr × Obj) → Prop) (hold : ∀ i vs N, Inv i vs N → ∀ p ∈ old, p ∈ N)
    (hgo : ∀ i v (s : Shared) (Q : Unit → Shared → Prop) (E : Value → Shared → Prop), Stt i s.heap → Q () s → wpAny (model Prg w) A (letOwnedTupleGo target (.ref I) v) Q E s)
    (S : St w h₀ L ns vs N h) (hnew : h₀.get? I = none) (hIL : I ≠ L) (hIN : ∀ p ∈ N, p.1 ≠ I) (st : Stt 0 h) (h0 : Inv 0 vs N)
    (step : ∀ i v vs N h t o, i < n → P i v → Inv i vs N → St w h₀ L ns vs ((I, o) :: N) h →
      wpAny (model Prg w) A (assign target env v) (fun _ s₁ => wpAny (model Prg w) A (execs body env) (Turned w z h₀ L ns (I, o) (Inv (i + 1))) NoE s₁) NoE (mk z h t))
    (done : ∀ vs N h t, Inv n vs N → St w h₀ L ns vs N h → R (.ok .next) (mk z h t)) :
    codeAny (model Prg w) A (.forLoop target (.ref I) body [] env) R (mk z h t) := by
  subst hL
  refine codeAny_forLoop_any
    (fun k s' => ∃ i vs N h t, s' = mk z h t ∧ Stt i h ∧ St w h₀ env.locals ns vs N h ∧ (∀ p ∈ N, p.1 ≠ I) ∧ Inv i vs N ∧ i ≤ n ∧ k = n + 1 - i) ?_ (n + 1)
    ⟨0, vs, N, h, t, rfl, st, S, hIN, h0, Nat.zero_le _, rfl⟩
  rintro k s' ⟨i, vs, N, h, t, rfl, st, S, hIN, hJ, hi, rfl⟩
  have next : ∀ h₁ : Heap, (∀ b o, b ∉ [I] → h.get? b = some o → h₁.get? b = some o) → St w h₀ env.locals ns vs N h₁ := fun h₁ hk =>
    ⟨⟨S.F.ns.at' fun o e => hk _ o (by simpa using hIL.symm) e, fun b o e => hk b o (by intro q; rw [List.mem_singleton.mp q, hnew] at e; cases e) (S.F.keep b o e), S.F.above⟩,
     fun p hp => ⟨hk _ _ (by simpa using hIN p hp) (S.W p hp).1, (S.W p hp).2⟩, S.G₀, S.nd, S.len⟩
  by_cases hlt : i < n
  · refine W.item i _ _ _ hlt st fun v h₁ tk₁ hP st₁ hk₁ => ?_
    have S₁ := next h₁ hk₁
    obtain ⟨o, ho⟩ := hI _ _ st₁
    have S₂ : St w h₀ env.locals ns vs ((I, o) :: N) h₁ := ⟨S₁.F, fun p hp => by
      rcases List.mem_cons.mp hp with rfl | hp
      · exact ⟨ho, hIL, hnew⟩
      · exact S₁.W p hp, S₁.G₀, List.nodup_cons.mpr ⟨fun q => by
        obtain ⟨p, hp, e⟩ := List.mem_map.mp q
        exact hIN p hp e, S.nd⟩, S₁.len⟩
    refine hgo _ v _ _ _ st₁ (no_raise (wpAny_mono (step i v vs N h₁ tk₁ o hlt hP hJ S₂) (fun _ s₂ h₂ => no_raise (wpAny_mono h₂ (fun f s₃ h₃ => ?_) fun _ _ e => e)) fun _ _ e => e))
    obtain ⟨hf, vs', N', h', t', rfl, S', J'⟩ := h₃
    have fin : ∃ m, m < n + 1 - i ∧ ∃ i vs N h t, mk z h' t' = mk z h t ∧ Stt i h ∧ St w h₀ env.locals ns vs N h ∧ (∀ p ∈ N, p.1 ≠ I) ∧ Inv i vs N ∧ i ≤ n ∧ m = n + 1 - i := by
      refine ⟨n + 1 - (i + 1), by omega, i + 1, vs', N', h', t', rfl, ?_, S'.tail, ?_, J', hlt, rfl⟩
      · refine W.frame _ _ _ st₁ fun b hb o' e => ?_
        rcases hfp b hb with rfl | ⟨o₀, q⟩ | ⟨o₀, q⟩
        · rw [ho] at e; cases e
          exact (S'.W _ (.head _)).1
        · have e1 := S₁.F.keep b o₀ q
          rw [e] at e1; cases e1
          exact S'.F.keep b _ q
        · have e1 := (S₁.W _ (hold i vs N hJ _ q)).1
          rw [show h₁.get? b = some o' from e] at e1; cases e1
          exact (S'.W _ (.tail _ (hold (i + 1) vs' N' J' _ q))).1
      · intro p hp q
        exact (List.nodup_cons.mp S'.nd).1 (List.mem_map.mpr ⟨p, hp, q⟩)
    rcases hf with rfl | rfl
    · exact fin
    · exact fin
  · have hin : i = n := by omega
    subst hin
    refine W.done _ _ _ st fun h₁ tk₁ hk₁ => wpAny_execs_nil ?_
    exact done vs N h₁ tk₁ hJ (next h₁ hk₁)

theorem go_tup {elts : List Expr} {x1 : Nat} {pos : Pos} {I l : Addr} {i : Nat} {v : Value} {s : Shared} {Q : Unit → Shared → Prop} (hit : ∃ o, s.heap.get? I = some o ∧ o.cls = .type "tuple_iterator" ∧ o.data = .fields #[.ref l, .int i 0]) (hQ : Q () s) :
    wpAny (model Prg w) A (letOwnedTupleGo (.Tuple elts x1 pos) (.ref I) v) Q E s := by
  obtain ⟨o, ho, hc, hd⟩ := hit
  cases v with
  | ref T =>
    unfold letOwnedTupleGo
    refine wpAny_bind (wpAny_load ho ?_)
    rw [hc, hd]
    show wpAny _ A (if (["enumerate", "zip", "dict_itemiterator", "dict_reverseitemiterator", "odict_iterator", "itertools.zip_longest", "itertools.pairwise"].contains "tuple_iterator" &&
        (#[.ref l, .int i 0] : Array Value)[0]? == some (rawInt T)) = true then _ else _) Q E s
    rw [if_neg (by
      intro h
      rw [show (["enumerate", "zip", "dict_itemiterator", "dict_reverseitemiterator", "odict_iterator", "itertools.zip_longest", "itertools.pairwise"].contains "tuple_iterator") = false from by decide, Bool.false_and] at h
      cases h)]
    exact wpAny_pure hQ
  | _ => exact wpAny_pure hQ
/-- a for over a tuple of the ledger into several names -/
def ForTup (w : World) (A : Around) (z : Shared) (h₀ : Heap) (L : Addr) (env : Env) (ns : List Str) (target : Expr) (body rest : List Stmt) (Q : Flow → Shared → Prop) (xv : Value) (s₁ : Shared) : Prop :=
  ∃ (l : Addr) (its : List Value) (h : Heap) (t : Nat) (vs : List (Option Value)) (N : List (Addr × Obj)) (Inv : Nat → List (Option Value) → List (Addr × Obj) → Prop),
    xv = .ref l ∧ s₁ = mk z h t ∧ St w h₀ L ns vs N h ∧ (l, tupOf its) ∈ N ∧ Inv 0 vs N ∧ (∀ i vs N, Inv i vs N → (l, tupOf its) ∈ N) ∧
    (∀ i v vs N h t o I, its[i]? = some v → Inv i vs N → St w h₀ L ns vs ((I, o) :: N) h → wpAny (model Prg w) A (assign target env v) (fun _ s₁ => wpAny (model Prg w) A (execs body env) (Turned w z h₀ L ns (I, o) (Inv (i + 1))) NoE s₁) NoE (mk z h t)) ∧
    (∀ vs N h t, Inv its.length vs N → St w h₀ L ns vs N h → wpAny (model Prg w) A (execs rest env) Q NoE (mk z h t))
theorem s_forTup {elts : List Expr} {x1 : Nat} {tpos pos : Pos} {iter : Expr} {body rest : List Stmt} {Q : Flow → Shared → Prop} {s : Shared} (r : A.handled = none) (C : Fn env L ns gs)
    (k : wpAny (model Prg w) A (eval iter env) (ForTup w A z h₀ L env ns (.Tuple elts x1 tpos) body rest Q) NoE s) (hs : ∀ x, foldedSetIterable iter env x = pure x) :
    wpAny (model Prg w) A (execs (.For (.Tuple elts x1 tpos) iter body [] pos :: rest) env) Q NoE s := by
  refine s_cons (wpAny_For (wpAny_mono k (fun xv s₁ q => ?_) fun _ _ x => x) hs)
  obtain ⟨l, its, h, t, vs, N, Inv, rfl, rfl, S, hm, h0, hold, step, done⟩ := q
  have hl : h.IsTuple l its.toArray := ⟨_, (S.W _ hm).1, rfl, _, rfl⟩
  refine wpAny_pyIter_tuple (s := mk z h t) hl ?_
  have S₂ := S.push { cls := .type "tuple_iterator", data := .fields #[.ref l, .int 0 0] }
  have hne : l ≠ h.objs.size := Nat.ne_of_lt (Heap.lt_size (S.W _ hm).1)
  have W := Walks.tuple (prog := Prg) (w := w) r h.objs.size l hne its.toArray
  simp only [List.size_toArray, List.getElem?_toArray] at W
  refine loop_walksT C.locals W (fun i h q => by obtain ⟨⟨o, ho, _⟩, _⟩ := q; exact ⟨o, ho⟩) [(l, tupOf its)] (fun b hb => ?_) Inv (fun i vs N hi p hp => by rw [List.mem_singleton.mp hp]; exact hold i vs N hi)
    (fun i v s Q E hst hQ => go_tup hst.1 hQ) S₂.tail (size_new S) (size_neL S) (size_neN S) ⟨⟨_, (S₂.W _ (.head _)).1, rfl, rfl⟩, ⟨_, (S₂.W _ (.tail _ hm)).1, rfl, _, rfl⟩⟩ h0 (fun i v vs N h t o hi hv hJ S => step i v vs N h t o _ hv hJ S) ?_
  · rcases List.mem_cons.mp hb with rfl | hb
    · exact .inl rfl
    · rw [List.mem_singleton.mp hb]; exact .inr (.inr ⟨_, .head _⟩)
  · intro vs N h t hJ S
    exact done vs N h t hJ S
end
end
section
open PySem PySem.W PyProof.Rows PySem.Calls
theorem room0 : Room callerA 21 := ⟨rfl, ⟨_, rfl⟩, by decide +kernel, by decide +kernel⟩
abbrev lawNs : List Str := [Str.ofString "script", Str.ofString "few", Str.ofString "box", Str.ofString "rows", Str.ofString "hand", Str.ofString "sides", Str.ofString "row", Str.ofString "fmt", Str.ofString "values", Str.ofString "obj", Str.ofString "low_first", Str.ofString "mark", Str.ofString "text", Str.ofString "info", Str.ofString "told"]
abbrev lawGs : List Str := [Str.ofString "_law_run", Str.ofString "CompiledFormat", Str.ofString "_law_letters", Str.ofString "_law_info", Str.ofString "_law_step", Str.ofString "pack_bitstruct", Str.ofString "_law_octets"]
theorem fn_of {env : Env} {L : Addr} {ns gs : List Str} (X : ScX env.scope ns gs) (h1 : env.locals = L) (h2 : env.globals = mainGlobals) (h3 : env.builtins = builtinsNs) : Fn env L ns gs := ⟨X.kind, X.nodup, X.loc, X.glo, X.dbg, X.dbg', h1, h2, h3, rfl⟩
theorem law_start {w : World} {g h : Heap} {z s : Shared} {A : Around} {env : Env} {l : Addr} {vs : List Value} {is : List Int} {body : List Stmt} {Q : Flow → Shared → Prop} {E : Value → Shared → Prop} {m : Str → Option Value} {t : Nat}
    (G : Gl w g) (r : Room A 20) (C : Fn env g.objs.size lawNs lawGs) (F : Fr g g.objs.size h m) (hm : m = look lawNs [some (.ref l), none, none, none, none, none, none, none, none, none, none, none, none, none, none]) (hin : interactive env = false) (hs : s = mk z h t)
    (hl : g.IsList l vs.toArray) (hi : IntsAre vs is) (hz : is.length ≤ 63)
    (k : ∀ (w : World) (A : Around) (env : Env) (z : Shared) (g : Heap) (L l : Addr) (vs : List Value) (is : List Int) (h : Heap) (t : Nat), Room A 20 → Fn env L lawNs lawGs → interactive env = false → g.IsList l vs.toArray → IntsAre vs is → is.length ≤ 63 →
      St w g L lawNs [some (.ref l), none, none, none, none, none, none, none, none, none, none, none, none, none, none] [] h → wpAny (model Prg w) A (execs body env) (fun fl s' => fl = .ret (.bool true) ∧ ∃ h' t' vs N, s' = mk z h' t' ∧ St w g L lawNs vs N h') NoE (mk z h t))
    (fin : ∀ h' t' m', Fr g g.objs.size h' m' → Q (.ret (.bool true)) (mk z h' t')) : wpAny (model Prg w) A (execs body env) Q E s := by
  subst hs
  refine wpAny_mono (k w A env z g g.objs.size l vs is h t r C hin hl hi hz ⟨by rw [← hm]; exact F, News.nil, G, List.nodup_nil, rfl⟩) (fun fl s' q => ?_) fun _ _ q => q.elim
  obtain ⟨rfl, h', t', vs, N, rfl, S⟩ := q
  exact fin h' t' _ S.F
/-- a side of the law: a compiled object, its order, its mark -/
def Side (N : List (Addr × Obj)) (b : Bool) (s : Addr) : Prop :=
  ∃ x dx es l n tk, (s, tupOf [.ref x, .bool b, .str (S (if b then [60] else [])) tk]) ∈ N ∧ (x, instObj 507 dx) ∈ N ∧ (dx, dicO es) ∈ N ∧ CfE es l b n
theorem Side.mono {N N' : List (Addr × Obj)} {b : Bool} {s : Addr} (h : Side N b s) (k : ∀ p ∈ N, p ∈ N') : Side N' b s := by
  obtain ⟨x, dx, es, l, n, tk, a, b', c, d⟩ := h
  exact ⟨x, dx, es, l, n, tk, k _ a, k _ b', k _ c, d⟩
theorem txt_len : ∀ ps : List (Addr × Row), RunOk ps → (ps.map fun p => txtOf p.2).flatten.length ≤ 5 * ps.length := by
  intro ps h
  have : ∀ ps : List (Addr × Row), (∀ p ∈ ps, p.2.Ok) → (ps.map fun p => txtOf p.2).flatten.length ≤ 5 * ps.length := by
    intro ps
    induction ps with
    | nil => intro _; simp
    | cons p ps ih =>
      intro h
      have h1 := ih fun p hp => h p (.tail _ hp)
      have h2 := dig_len (h p (.head _)).hi
      have h3 : (txtOf p.2).length ≤ 5 := by unfold txtOf; simp; omega
      simp only [List.map_cons, List.flatten_cons, List.length_append, List.length_cons]
      omega
  exact this ps h.ok
theorem vals_snoc {ps : List (Addr × Row)} {i : Nat} {p : Addr × Row} (h : ps[i]? = some p) : valsOf (ps.take (i + 1)) = valsOf (ps.take i) ++ if p.2.k.pad then [] else [p.2.val] := by
  unfold valsOf
  rw [List.take_add_one, h, List.filter_append, List.map_append]
  cases hp : p.2.k.pad <;> simp [hp]
theorem row_tup {h : Heap} {a : Addr} {R : Row} (e : h.get? a = some (tupOf R.items)) : IsTup h a [Value.str (S [R.k.code]) R.t1, .str (S [if R.lt then 60 else 62]) R.t2, .int R.sz R.t3, .int R.pl R.t4, R.val, .int R.num R.t5].toArray := ⟨_, e, rfl, _, rfl⟩
theorem ref_get {ps : List (Addr × Row)} {i : Nat} {v : Value} (h : (ps.map fun p => Value.ref p.1)[i]? = some v) : ∃ p, ps[i]? = some p ∧ v = .ref p.1 := by
  rw [List.getElem?_map] at h
  cases e : ps[i]? with
  | none => rw [e] at h; cases h
  | some p => rw [e] at h; cases h; exact ⟨p, rfl, rfl⟩
theorem rowsM_mem {ps : List (Addr × Row)} {i : Nat} {p : Addr × Row} (h : ps[i]? = some p) : (p.1, tupOf p.2.items) ∈ rowsM ps := List.mem_map.mpr ⟨p, List.mem_of_getElem? h, rfl⟩
theorem lit_ltS : Str.ofString "<" = S [60] := by decide +kernel
set_option maxHeartbeats 8000000 in
theorem law_main : PySem.Challenge.rw_eh5010_01.Holds := by
  refine Mine.hd ?_
  k_go0
  rename Frag.In _ _ => KX
  rename Top _ _ _ _ _ _ => T
  rename Fr _ _ _ _ => F
  rename IntsAre _ _ => hI
  rename Heap.IsList _ _ _ => hL
  refine law_start (z := _) (t := _) ⟨KX, _, _, _, _, topRead_of T⟩ (room0.deeper (Nat.le_refl _)) (fn_of (by tm_at "m_scX") rfl rfl rfl) F ((look_init [(Str.ofString "script", .ref _)] lawNs ⟨rfl, trivial⟩ (nodup_of (by kernel_rfl))).trans rfl) (by with_unfolding_all rfl) rfl hL hI (by omega) ?_ ?_
  · clear F hI hL
    intro w A env z g L l vs is h t r' C hin hl hi hz S
    dsimp only [lawNs, lawGs] at C S
    tm_at "ms"
    refine wpAny_mono (Q := fun v s => ∃ fw its c h t, v = .ref fw ∧ s = mk z h t ∧ St w g L lawNs [some (.ref l), none, none, none, none, none, none, none, none, none, none, none, none, none, none] [(fw, listOf its.toArray c)] h ∧ its ≠ [] ∧ its.length ≤ 64 ∧ ∀ v ∈ its, ∃ i t, v = .int i t ∧ 0 ≤ i ∧ i < 1000003) ?_ ?_ (fun _ _ q => q)
    · refine e_or ?_
      refine e_comp (h₀ := g) [Str.ofString ".0", Str.ofString "n"] [] C (by tm_at "m_scC") rfl (by tm_at "m_idx") (by tm_at "m_hs") (by tm_at "m_hs") ?_
      tm_at "ms"
      have hlv := hi.length
      refine t_sliceL S (hl.at fun o e => S.F.keep _ _ e) hi (by omega) ?_ (by tm_at "m_hs") (by tm_at "m_hs")
      intro D its ns2 h2 S2 hi2 hz2
      refine ⟨_, _, _, _, _, fun i its' N => N = [(D, listOf its.toArray 0)] ∧ its'.length = i ∧ ∀ v ∈ its', ∃ i t, v = .int i t ∧ 0 ≤ i ∧ i < 1000003, it_list r'.hd S2 (.head _), by omega, ⟨rfl, rfl, fun v hv => (by cases hv)⟩, ?_, ?_, ?_, ?_⟩
      · rintro i its' N ⟨rfl, _⟩ p hp
        rw [List.mem_singleton.mp hp]; exact .head _
      · rintro i its' N ⟨rfl, e, _⟩
        omega
      · rintro g2 C2 cenv D2 vsC i v its' N h7 t7 oI cc I ec Cc2 hi' hv ⟨rfl, hl1, hl2⟩ hvl hg2 S6
        obtain ⟨u0, u1, rfl⟩ : ∃ a b, vsC = [a, b] := by
          rcases vsC with _ | ⟨a, _ | ⟨b, _ | ⟨c, r⟩⟩⟩ <;> simp at hvl
          exact ⟨a, b, rfl⟩
        simp only [List.set_cons_succ, List.set_cons_zero] at S6
        obtain ⟨m, tm, rfl⟩ : ∃ m tm, v = .int m tm := by
          have : ∀ {vs : List Value} {ns : List Int}, IntsAre vs ns → ∀ v ∈ vs, ∃ m tm, v = .int m tm := by
            intro vs ns h
            induction h with
            | nil => intro v hv; cases hv
            | cons n t _ ih => intro v hv; rcases List.mem_cons.mp hv with rfl | hv; exact ⟨_, _, rfl⟩; exact ih v hv
          exact this hi2 v (List.mem_of_getElem? hv)
        refine f_nil ?_
        rw [if_pos rfl]
        tm_at "ms"
        refine ⟨_, _, _, _, rfl, S6, rfl, by simp [hl1], fun v hv => ?_⟩
        rcases List.mem_append.mp hv with q | q
        · exact hl2 v q
        · rw [List.mem_singleton.mp q]; exact ⟨_, _, rfl, by omega, by omega⟩
      · rintro its' N h7 t7 D2 cc ⟨rfl, hl1, hl2⟩ S6
        refine c_list (isList_of S6 (.head _)) (by omega) ?_
        by_cases he : its' = []
        · refine br_df (by simpa using he) ?_
          refine e_bool1 ?_
          tm_at "ms"
          rename St _ _ _ _ _ _ _ => S7
          refine ⟨_, _, _, _, _, rfl, rfl, S7.sub (fun p hp => by rw [List.mem_singleton.mp hp]; exact .head _) (by simp), by simp, by simp, fun v hv => ?_⟩
          rw [List.mem_singleton.mp hv]; exact ⟨_, _, rfl, by omega, by omega⟩
        · refine br_dt he ?_
          exact ⟨_, _, _, _, _, rfl, rfl, S6.sub (fun p hp => by rw [List.mem_singleton.mp hp]; exact .head _) (by simp), he, by omega, hl2⟩
    rintro _ _ ⟨fw, its, cf, h2, t2, rfl, rfl, S2, hne, hz2, hall⟩
    clear S
    dsimp only [lawNs] at S2
    tm_at "ms"
    rename St _ _ _ _ _ _ _ => S3
    have hf3 : Few _ fw := ⟨its, isList_of S3 (.tail _ (.head _)), hne, hz2, hall⟩
    have hnd3 := S3.nd
    clear S2
    tm_at "m_unp"
    tm_at "ms"
    refine x_run (r'.le (by omega)) S3 (fun o' => [(_, o'), (fw, listOf its.toArray cf)]) (fun _ => .here) hf3 (fun e => by simp [e] at hnd3) ?_
    intro ps lr cl hand a th o' h4 t4 hR hp1 hp6 hhl S4 ht
    clear S3 hf3 hnd3
    refine unp S4 ht rfl (by tm_at "m_puts") ?_
    intro h5 t5 S5
    clear S4
    have S6 := S5.sub (N' := (lr, listOf (ps.map fun p => Value.ref p.1).toArray cl) :: rowsM ps) (fun p hp => List.mem_append_left _ hp) (by have := S5.nd; rw [List.map_append] at this; exact (List.nodup_append.mp this).1)
    clear S5
    tm_at "m"
    refine wpAny_mono (Q := fun v s => ∃ bx sd s1 s2 N h t, v = .ref sd ∧ s = mk z h t ∧ (sd, tupOf [.ref s1, .ref s2]) ∈ N ∧ Side N false s1 ∧ Side N true s2 ∧ (∀ p ∈ (lr, listOf (ps.map fun p => Value.ref p.1).toArray cl) :: rowsM ps, p ∈ N) ∧
      St w g L lawNs [some (.ref l), some (.ref fw), some (.ref bx), some (.ref lr), some (.str (Mine.S hand) th), none, none, none, none, none, none, none, none, none, none] N h) ?_ ?_ (fun _ _ q => q)
    · tm_at "ms"
      refine ⟨S6.G.X, ?_⟩
      rw [lit_u1]
      refine new_CF (r'.le (by omega)) S6.G _ u1_ok (by simp) (by simp) false _ ?_
      intro x1 dx1 l1 M1 xs1 c1 es1 h7 t7 k7 ce1 _ hm1 hnd1
      have S7 := S6.adds k7 [(x1, instObj 507 dx1), (dx1, dicO es1)] (fun p hp => hm1 p (List.mem_append_left (as := [(x1, instObj 507 dx1), (dx1, dicO es1)]) _ hp)) (by simp at hnd1 ⊢; exact fun e => hnd1.1.1 e)
      clear S6 hm1 hnd1
      tm_at "ms"
      rename St _ _ _ _ _ _ _ => S8
      clear S7
      refine ⟨S8.G.X, ?_⟩
      rw [lit_u1l]
      refine new_CF (r'.le (by omega)) S8.G _ u1_ok (by simp) (by simp) true _ ?_
      intro x2 dx2 l2 M2 xs2 c2 es2 h9 t9 k9 ce2 _ hm2 hnd2
      have S9 := S8.adds k9 [(x2, instObj 507 dx2), (dx2, dicO es2)] (fun p hp => hm2 p (List.mem_append_left (as := [(x2, instObj 507 dx2), (dx2, dicO es2)]) _ hp)) (by simp at hnd2 ⊢; exact fun e => hnd2.1.1 e)
      clear S8 hm2 hnd2
      tm_at "ms"
      rename St _ _ _ _ _ _ _ => S10
      clear S9
      rw [lit_nil, lit_ltS] at S10
      refine ⟨_, _, _, _, _, _, _, rfl, rfl, .head _, ?_, ?_, ?_, S10⟩
      · exact ⟨x1, dx1, es1, _, _, t7, by simp, by simp, by simp, ce1⟩
      · exact ⟨x2, dx2, es2, _, _, t9, by simp, by simp, by simp, ce2⟩
      · intro p hp
        exact .tail _ (.tail _ (.tail _ (.tail _ (.tail _ (.tail _ (.tail _ hp))))))
    rintro _ _ ⟨bx, sd, s1, s2, N, h6, t6, rfl, rfl, hsd, hs1, hs2, hmN, S7⟩
    clear S6
    dsimp only [lawNs] at S7
    tm_at "ms"
    rename St _ _ _ _ _ _ _ => S8
    clear S7
    refine e_comp (h₀ := g) [Str.ofString ".0", Str.ofString "row"] [Str.ofString "str"] C (by tm_at "m_scC") rfl (by tm_at "m_idx") (by tm_at "m_hs") (by tm_at "m_hs") ?_
    tm_at "ms"
    refine ⟨_, _, _, _, _, fun i its N' => N' = N ∧ ∃ lt : List (List Nat × Tok), its = (lt.map fun p => Value.str (Mine.S p.1) p.2) ∧ lt.map (·.1) = (ps.take i).map fun p => txtOf p.2, it_list r'.hd S8 (hmN _ (.head _)), by simp; omega, ⟨rfl, [], rfl, rfl⟩, ?_, ?_, ?_, ?_⟩
    · rintro i its' N' ⟨rfl, _⟩ p hp
      rw [List.mem_singleton.mp hp]; exact hmN _ (.head _)
    · rintro i its' N' ⟨rfl, lt, rfl, h⟩
      have := congrArg List.length h
      simp at this ⊢
      omega
    · rintro g2 C2 cenv D2 vsC i v its' N' h7 t7 oI cc I ec Cc2 hi' hv ⟨rfl, lt, rfl, hlt⟩ hvl hg2 S9
      obtain ⟨u0, u1, rfl⟩ : ∃ a b, vsC = [a, b] := by
        rcases vsC with _ | ⟨a, _ | ⟨b, _ | ⟨c, r⟩⟩⟩ <;> simp at hvl
        exact ⟨a, b, rfl⟩
      simp only [List.set_cons_succ, List.set_cons_zero] at S9
      obtain ⟨p, hp, rfl⟩ := ref_get hv
      have htp := row_tup (S9.W _ (.tail _ (.tail _ (hmN _ (.tail _ (rowsM_mem hp)))))).1
      have hdl := dig_len (hR.ok p (List.mem_of_getElem? hp)).hi
      have hz1 : (Mine.S [if p.2.lt then 60 else 62]).length + (Mine.S [p.2.k.code]).length ≤ sizeLine := by rw [S_len, S_len, sizeLine_eq]; simp
      have hz2 : (Mine.S [if p.2.lt then 60 else 62] ++ Mine.S [p.2.k.code]).length + (Mine.S (digN p.2.sz)).length ≤ sizeLine := by rw [S_app, S_len, S_len, sizeLine_eq]; simp; omega
      clear S8
      refine f_nil ?_
      rw [if_pos rfl]
      tm_at "ms"
      refine v_strI (hR.ok p (List.mem_of_getElem? hp)).hi ?_
      tm_at "ms"
      rw [S_app, S_app]
      exact ⟨_, _, _, _, rfl, S9, rfl, lt ++ [(txtOf p.2, _)], by rw [List.map_append]; rfl, by rw [List.take_add_one, hp, List.map_append, hlt]; simp⟩
    rintro its' N' h7 t7 D2 cc ⟨rfl, lt, rfl, hlt⟩ S9
    clear S8
    rw [show (ps.map fun p => Value.ref p.1).length = ps.length by simp, List.take_length] at hlt
    tm_at "ms"
    refine v_joinL (ls := ps.map fun p => txtOf p.2) (isList_of S9 (.head _)) ?_ ?_ fun t10 tk10 => ?_
    · have : (ps.map fun p => Mine.S (txtOf p.2)) = lt.map fun p => Mine.S p.1 := by
        have := congrArg (List.map Mine.S) hlt
        rw [List.map_map, List.map_map] at this
        exact this.symm
      rw [List.map_map, show (ps.map (Mine.S ∘ fun p => txtOf p.2)) = ps.map fun p => Mine.S (txtOf p.2) from rfl, this]
      exact strs_map lt
    · have := txt_len ps hR
      rw [List.length_map]; omega
    rw [txt_grp]
    have S10 := S9.tail
    clear S9
    tm_at "ms"
    rename St _ _ _ _ _ _ _ => S11
    clear S10
    refine s_compA (z := z) (h₀ := g) (ns := lawNs) [Str.ofString ".0", Str.ofString "row"] [] C (by tm_at "m_idx") (by tm_at "m_scC") rfl (by tm_at "m_idx") rfl (by decide +kernel) (by tm_at "m_hs") (by tm_at "m_hs") ?_
    tm_at "ms"
    refine ⟨_, _, _, _, _, fun i its N => N = N' ∧ its = valsOf (ps.take i), it_list r'.hd S11 (hmN _ (.head _)), by simp; omega, ⟨rfl, rfl⟩, ?_, ?_, ?_, ?_⟩
    · rintro i its' N2 ⟨rfl, _⟩ p hp
      rw [List.mem_singleton.mp hp]; exact hmN _ (.head _)
    · rintro i its' N2 ⟨rfl, rfl⟩
      rw [vals_len]
      have : cntR (ps.take i) ≤ (ps.take i).length := List.length_filter_le _ _
      rw [List.length_take] at this; omega
    · rintro g2 C2 cenv D2 vsC i v its' N2 h7 t7 oI cc I ec Cc2 hi' hv ⟨rfl, rfl⟩ hvl hg2 S9
      obtain ⟨u0, u1, rfl⟩ : ∃ a b, vsC = [a, b] := by
        rcases vsC with _ | ⟨a, _ | ⟨b, _ | ⟨c, r⟩⟩⟩ <;> simp at hvl
        exact ⟨a, b, rfl⟩
      simp only [List.set_cons_succ, List.set_cons_zero] at S9
      obtain ⟨p, hp, rfl⟩ := ref_get hv
      have htp := row_tup (S9.W _ (.tail _ (.tail _ (hmN _ (.tail _ (rowsM_mem hp)))))).1
      clear S11
      refine f_one ?_
      tm_at "ms"
      rw [in_pP]
      cases hpd : p.2.k.pad with
      | true =>
        rw [if_neg (by decide)]
        refine ⟨_, _, _, _, rfl, S9, rfl, ?_⟩
        rw [vals_snoc hp, hpd]; simp
      | false =>
        rw [if_pos (by decide)]
        tm_at "ms"
        refine ⟨_, _, _, _, rfl, S9, rfl, ?_⟩
        rw [vals_snoc hp, hpd]; simp
    rintro its' N2 h8 t8 vl vc ⟨rfl, rfl⟩ S12
    clear S11
    rw [show (ps.map fun p => Value.ref p.1).length = ps.length by simp, List.take_length] at S12
    simp only [List.set_cons_succ, List.set_cons_zero] at S12
    refine s_forTup (z := z) (h₀ := g) (ns := lawNs) r'.hd C ?_ (by tm_at "m_hs")
    tm_at "ms"
    have hvl : (vl, listOf (valsOf ps).toArray vc) ∈ (vl, listOf (valsOf ps).toArray vc) :: N2 := .head _
    have hmN3 : ∀ p ∈ (lr, listOf (ps.map fun p => Value.ref p.1).toArray cl) :: rowsM ps, p ∈ (vl, listOf (valsOf ps).toArray vc) :: N2 := fun p hp => .tail _ (hmN p hp)
    have hsd3 : (sd, tupOf [.ref s1, .ref s2]) ∈ (vl, listOf (valsOf ps).toArray vc) :: N2 := .tail _ hsd
    have hs13 : Side ((vl, listOf (valsOf ps).toArray vc) :: N2) false s1 := hs1.mono fun p hp => .tail _ hp
    have hs23 : Side ((vl, listOf (valsOf ps).toArray vc) :: N2) true s2 := hs2.mono fun p hp => .tail _ hp
    generalize (vl, listOf (valsOf ps).toArray vc) :: N2 = N3 at S12 hvl hmN3 hsd3 hs13 hs23
    clear hmN hsd hs1 hs2
    have ic := ic_CF w
    refine ⟨sd, [.ref s1, .ref s2], _, _, _, _, fun i vs N => N = N3 ∧ ∃ u6 u9 u10 u11 u12 u13 u14, vs = [some (.ref l), some (.ref fw), some (.ref bx), some (.ref lr), some (.str (Mine.S hand) th), some (.ref sd), u6, some (.str (Mine.S (joinG ((spsOf ps).map Sp.grp))) t10), some (.ref vl), u9, u10, u11, u12, u13, u14],
      rfl, rfl, S12, hsd3, ⟨rfl, _, _, _, _, _, _, _, rfl⟩, ?_, ?_, ?_⟩
    · rintro i vs N ⟨rfl, _⟩
      exact hsd3
    · rintro i v vs N h13 t13 oI I hv ⟨rfl, u6, u9, u10, u11, u12, u13, u14, rfl⟩ S13
      clear S12
      obtain ⟨b, s, rfl, hside⟩ : ∃ b s, v = .ref s ∧ Side N b s := by
        rcases i with _ | _ | i
        · cases hv; exact ⟨_, _, rfl, hs13⟩
        · cases hv; exact ⟨_, _, rfl, hs23⟩
        · simp at hv
      clear hs13 hs23 hv
      obtain ⟨x, dx, es, li, n, tk, m1, m2, m3, ce⟩ := hside
      obtain ⟨tord, gord⟩ := ce.ord
      refine a_unp r'.hd C S13 (by tm_at "m_nms") (isTup_of S13 (.tail _ m1)) rfl (by tm_at "m_puts") fun h14 t14 S14 => ?_
      clear S13
      tm_at "ms"
      rename St _ _ _ _ _ _ _ => S15
      clear S14
      rw [lit_nil] at S15
      refine s_forK (z := z) (h₀ := g) (ns := lawNs) C ?_ (by tm_at "m_hs") (by tm_at "m_hs")
      tm_at "ms"
      refine ⟨_, _, _, _, _, fun j vs N' => N' = (I, oI) :: N ∧ ∃ u6 u13 u14 tb, vs = [some (.ref l), some (.ref fw), some (.ref bx), some (.ref lr), some (.str (Mine.S hand) th), some (.ref sd), u6, some (.str (Mine.S (joinG ((spsOf ps).map Sp.grp))) t10), some (.ref vl), some (.ref x), some (.bool b), some (.str (Mine.S (if b then [60] else [])) tk), some (.str (Mine.S (packL b [] ((rowsL ps).take j))) tb), u13, u14],
        it_list r'.hd S15 (.tail _ (hmN3 _ (.head _))), ⟨rfl, _, _, _, _, rfl⟩, ?_, ?_, ?_⟩
      · rintro j vs N' ⟨rfl, _⟩ p hp
        rw [List.mem_singleton.mp hp]; exact .tail _ (hmN3 _ (.head _))
      · rintro j v vs N' h16 t16 o2 I2 hj hv ⟨rfl, u6, u13, u14, tb, rfl⟩ S16
        clear S15
        obtain ⟨p, hp, rfl⟩ := ref_get hv
        have ok := hR.ok p (List.mem_of_getElem? hp)
        have hsn := packL_snoc b (rowsL ps) j _ (rowsL_get hp) []
        have hbl : (packL b [] ((rowsL ps).take j)).length ≤ 512 := by
          have := packL_len b ((rowsL ps).take j) [] fun q hq => rowsL_sz hR q (List.mem_of_mem_take hq)
          rw [List.length_take, rowsL_len] at this
          simp only [List.length_nil] at this
          omega
        generalize packL b [] ((rowsL ps).take j) = B at *
        refine a_name C S16 (by tm_at "m_idx") fun h17 t17 S17 => ?_
        simp only [List.set_cons_succ, List.set_cons_zero] at S17
        clear S16
        have htp := row_tup (S17.W _ (.tail _ (.tail _ (hmN3 _ (.tail _ (rowsM_mem hp)))))).1
        tm_at "ms"
        refine br_b (in_pP _) (fun hpd => ?_) (fun hpd => ?_)
        · tm_at "ms"
          refine ⟨S17.G.X, c_letters (r'.le (by omega)) S17.G _ _ _ _ (by have := ok.hi; omega) fun tv h18 t18 k18 => ?_⟩
          have S18 := S17.stays k18
          clear S17
          have hz0 : (Mine.S B).length + (Mine.S (lets p.2.sz p.2.num)).length ≤ sizeLine := by have := ok.hi; rw [S_len, S_len, lets_len, sizeLine_eq]; omega
          tm_at "ms"
          rename St _ _ _ _ _ _ _ => S19
          rw [S_app] at S19
          have e : packL b [] ((rowsL ps).take (j + 1)) = B ++ lets p.2.sz p.2.num := by
            rw [hsn]; unfold grpL; rw [show (rowGi p.2, p.2.num).1.k.pad = true from hpd, if_pos rfl]; rfl
          exact Turned.mk' S19 ⟨rfl, _, _, _, _, by rw [e]⟩
        · tm_at "ms"
          refine ⟨S17.G.X, ?_⟩
          refine c_info (r'.le (by omega)) S17.G p.2 hpd ok.lo ok.hi htp ?_
          intro x3 dx3 es3 h18 t18 k18 ob3 nx3 nd3 nxd3 ie3
          have S18 := S17.adds k18 [(x3, instObj p.2.k.cls dx3), (dx3, dicO es3)] (two ob3 nx3 nd3) (two_nd nxd3)
          clear S17 htp
          tm_at "ms"
          rename St _ _ _ _ _ _ _ => S19
          clear S18
          have htp := row_tup (S19.W _ (.tail _ (.tail _ (.tail _ (.tail _ (hmN3 _ (.tail _ (rowsM_mem hp)))))))).1
          refine v_meth S19 (Ob.of S19 (.tail _ (.tail _ (.tail _ (.tail _ m2)))) (.tail _ (.tail _ (.tail _ (.tail _ m3))))) ic.plain (cf_value w).1 (cf_value w).2.1 ce.value.get ?_
          refine' v_callm ?qS (cf_value w).2.2 ?_ ?qe ?qf
          case qS => exact S19
          case qe => with_unfolding_all rfl
          case qf => with_unfolding_all rfl
          tm_at "ms"
          refine ⟨S19.G.X, ?_⟩
          have ob19 : Ob _ x3 p.2.k.cls dx3 es3 es3.length := Ob.of S19 (.head _) (.tail _ (.head _))
          refine c_packval (r'.le (by omega)) S19.G (Ob.of S19 (.tail _ (.tail _ (.tail _ (.tail _ m2)))) (.tail _ (.tail _ (.tail _ (.tail _ m3))))) gord ob19 ie3 ok.hi p.2.val p.2.num (packC (ok.val hpd) ok.lo ok.hi ob19 ie3) hand _ (by omega) fun tv h20 t20 k20 => ?_
          have S20 := S19.stays k20
          clear S19 htp ob19
          have htp := row_tup (S20.W _ (.tail _ (.tail _ (.tail _ (.tail _ (hmN3 _ (.tail _ (rowsM_mem hp)))))))).1
          tm_at "ms"
          refine ⟨S20.G.X, ?_⟩
          refine c_step (r'.le (by omega)) S20.G p.2 ok.hi htp hand _ (by omega) b fun tv2 h21 t21 k21 => ?_
          have S21 := S20.stays k21
          clear S20 htp
          tm_at "ms"
          refine br_f (bne_self_eq_false _) ?_
          tm_at "ms"
          refine v_meth S21 (Ob.of S21 (.tail _ (.tail _ (.tail _ (.tail _ m2)))) (.tail _ (.tail _ (.tail _ (.tail _ m3))))) ic.plain (cf_value w).1 (cf_value w).2.1 ce.value.get ?_
          refine' v_callm ?rS (cf_value w).2.2 ?_ ?re ?rf
          case rS => exact S21
          case re => with_unfolding_all rfl
          case rf => with_unfolding_all rfl
          have htp := row_tup (S21.W _ (.tail _ (.tail _ (.tail _ (.tail _ (hmN3 _ (.tail _ (rowsM_mem hp)))))))).1
          tm_at "ms"
          refine ⟨S21.G.X, ?_⟩
          have ob21 : Ob _ x3 p.2.k.cls dx3 es3 es3.length := Ob.of S21 (.head _) (.tail _ (.head _))
          refine c_packval (r'.le (by omega)) S21.G (Ob.of S21 (.tail _ (.tail _ (.tail _ (.tail _ m2)))) (.tail _ (.tail _ (.tail _ (.tail _ m3))))) gord ob21 ie3 ok.hi p.2.val p.2.num (packC (ok.val hpd) ok.lo ok.hi ob21 ie3) B _ (by omega) fun tv3 h22 t22 k22 => ?_
          have S22 := S21.stays k22
          clear S21 htp ob21
          tm_at "ms"
          rename St _ _ _ _ _ _ _ => S23
          clear S22
          have htp := row_tup (S23.W _ (.tail _ (.tail _ (.tail _ (.tail _ (hmN3 _ (.tail _ (rowsM_mem hp)))))))).1
          refine ⟨S23.G.X, ?_⟩
          refine c_step (r'.le (by omega)) S23.G p.2 ok.hi htp B _ (by omega) b fun tv4 h24 t24 k24 => ?_
          have S24 := S23.stays k24
          clear S23 htp
          tm_at "ms"
          refine br_f (bne_self_eq_false _) ?_
          tm_at "ms"
          rename St _ _ _ _ _ _ _ => S25
          have e : packL b [] ((rowsL ps).take (j + 1)) = B ++ stepL p.2.k.raw b B.length p.2.sz (if p.2.lt then turnN p.2.sz p.2.num else p.2.num) := by
            rw [hsn]; unfold grpL; rw [show (rowGi p.2, p.2.num).1.k.pad = false from hpd]; rfl
          exact Turned.mk' S25.tail.tail ⟨rfl, _, _, _, _, by rw [e]⟩
      · rintro vs N' h26 t26 ⟨rfl, u6, u13, u14, tb, rfl⟩ S26
        clear S15
        rw [show (ps.map fun p => Value.ref p.1).length = (rowsL ps).length by simp [rowsL], List.take_length] at S26
        have hPl : (packL b [] (rowsL ps)).length ≤ 512 := by
          have := packL_len b (rowsL ps) [] fun q hq => rowsL_sz hR q hq
          rw [rowsL_len] at this
          simp only [List.length_nil] at this
          omega
        have hPb : Bits (packL b [] (rowsL ps)) := packL_bits b _ [] fun c hc => nomatch hc
        have hJl : (joinG ((spsOf ps).map Sp.grp)).length ≤ 100 := by
          have := txt_len ps hR
          rw [txt_grp] at this; omega
        have hz1 : (Mine.S (joinG ((spsOf ps).map Sp.grp))).length + (Mine.S (if b then [60] else [])).length ≤ sizeLine := by rw [S_len, S_len, sizeLine_eq]; split <;> simp <;> omega
        tm_at "ms"
        refine x_callS C S26 (by tm_at "m_mem") (gf_pack w) ?_ (by with_unfolding_all rfl) (by with_unfolding_all rfl)
        tm_at "ms"
        refine x_star (z := z) (h₀ := g) (L := L) (ns := lawNs) (l := vl) (its := valsOf ps) (c := vc) ?_ (by with_unfolding_all rfl)
        tm_at "ms"
        refine ⟨_, _, _, _, rfl, rfl, S26, .tail _ hvl, by rw [vals_len]; have : cntR ps ≤ ps.length := List.length_filter_le _ _; omega, fun h27 S27 => ?_⟩
        clear S26
        tm_at "ms"
        refine ⟨S27.G.X, ?_⟩
        rw [List.append_nil, S_app]
        have hgi := giL_ps hR
        have hlen6 : cntR ps ≤ ps.length := List.length_filter_le _ _
        refine c_pack (r'.le (by omega)) S27.G (spsOf ps) (spsOf_ok hR) (fun e => by have := congrArg List.length e; simp [spsOf] at this; rw [this] at hp1; simp at hp1) (by simp [spsOf]; omega) b _ (nums := numsOfR ps) (its := valsOf ps) (by rw [hgi, cntA_ps, vals_len]; exact Nat.le_refl _) (by rw [vals_len]; omega) (by rw [hgi]; simp [numsOfR]) (fun i g m h1 h2 => pval_ps hR hp6 i g m (by rw [← hgi]; exact h1) h2) fun tv5 h28 t28 k28 => ?_
        rw [hgi, zip_ps]
        have S28 := S27.stays k28
        clear S27
        tm_at "ms"
        refine ⟨S28.G.X, ?_⟩
        refine c_octets (r'.le (by omega)) S28.G _ _ hPb (by omega) fun tv6 h29 t29 k29 => ?_
        have S29 := S28.stays k29
        clear S28
        tm_at "ms"
        refine br_f (bne_self_eq_false _) ?_
        tm_at "ms"
        exact Turned.mk' S29 ⟨rfl, _, _, _, _, _, _, _, rfl⟩
    · rintro vs N h30 t30 ⟨rfl, u6, u9, u10, u11, u12, u13, u14, rfl⟩ S30
      clear S12
      tm_at "ms"
      refine ⟨S30.G.X, ?_⟩
      rw [lit_u4s4]
      refine c_pack (r'.le (by omega)) S30.G _ u4s4_ok (by simp) (by simp) false _ (nums := [1, 15]) (its := [.int 1 _, .int (-1) _]) (show cntA (giL false 0 [(⟨[], .u, 4⟩ : Sp), ⟨[], .s, 4⟩]) ≤ 2 by decide) (by simp) rfl (fun i g m h1 h2 => u4s4_pval _ _ i g m h1 h2) fun tv7 h31 t31 k31 => ?_
      rw [u4s4_res]
      have S31 := S30.stays k31
      clear S30
      tm_at "ms"
      exact ⟨rfl, _, _, _, _, rfl, S31⟩
  · intro h' t' m' F'
    refine goodW_bool F' (by assumption) (raisesW_false (by wrow_none_raised)) ?_
    first | (with_unfolding_all rfl) | (kernel_rfl) | decide
end
end Mine
theorem PySem.Challenge.cw_eh5010_01_holds : PySem.Challenge.rw_eh5010_01.Holds := by
  exact Mine.law_main
