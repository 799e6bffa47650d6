import PyProof.Rows.All
import Wide.All
import OpenK.AllK
import Wide.FinOn
import PySem.Challenge.RW_rt0057_01
open PySem PySem.W PyProof.Rows
set_option Elab.async false
set_option maxRecDepth 100000
set_option maxHeartbeats 8000000
namespace Mine
/-- the text without the rows that name the modules -/
def isName : Stmt → Bool
  | .Assign .. => true
  | _ => false
def view : Program := { PySem.Challenge.pw_rt0057_01 with main := { PySem.Challenge.pw_rt0057_01.main with body := PySem.Challenge.pw_rt0057_01.main.body.filter fun st => !isName st } }
/-- the head's run of the text, from the state that the library's boot tells -/
theorem left_boot {α : Type} {p : Program} {N : Nat} {F : Shared → α} {G : World → α} (e : opening p = plainProg p.main.scope.names) (hN : Nat.ble 600 N = true) (f : ∀ s, fenceModules? p s = some s)
    (h : ∀ (w : World) (os : OsState), (topFrom treeTable p w N ⟨boot_heap w.params, Array.mk [], boot_drawn, boot_toks, os⟩).map F = some (G w)) (w : World) : (openEnds treeTable p w N).map F = some (G w) := by
  obtain ⟨s, hs, hv⟩ := Option.map_eq_some_iff.mp (boot_open e hN f w)
  obtain ⟨a, b, c, d, os⟩ := s
  have h1 : a = boot_heap w.params := congrArg (·.1) hv
  have h2 : b = Array.mk [] := congrArg (·.2.1) hv
  have h3 : c = boot_drawn := congrArg (·.2.2.1) hv
  have h4 : d = boot_toks := congrArg (·.2.2.2) hv
  subst h1 h2 h3 h4
  unfold openEnds
  rw [hs]
  exact h w os
-- the head's own run of the text, whole and in one: the library's road in pieces fills 26 MB of compiled file
set_option hygiene false in
local macro_rules | `(tactic| o_head $H) => `(tactic| refine holds_open (q := view) (loose := []) (Xt := fun s => xlAt view [] s && recOk (RowW.records PySem.Challenge.rw_rt0057_01.row.toRowW) s) (XP := XL view []) (Yf := Hook.obs $H) (Ya := Hook.val $H) (YP := Hook.says $H) (N := 2864) (left_boot (by kernel_rfl) (by kernel_rfl) (fun s => by kernel_rfl) (fun w os => by first | (unfold topFrom; rw [PySem.W.Fast.te14082659384304107361, PySem.W.Fast.te14364793385576792824, PySem.W.Fast.te4187177175401517315]; kernel_rfl) | kernel_rfl)) (Hook.of $H) (Hook.keeps $H) (fun s e => xl_of s (Bool.and_eq_true_iff.mp e).1) XL.keeps (by rfl) (by rfl) (by rfl) (fun s e => recFacts_of (Bool.and_eq_true_iff.mp e).2) (by rfl) (by first | assumption | decide +kernel) (by decide +kernel) ⟨rfl, rfl, rfl, rfl, rfl, by decide +kernel⟩ ?hw ?hc)
open_top hd for PySem.Challenge.rw_rt0057_01
end Mine
open PySem.Calls
set_option linter.all false
namespace Mine

theorem args1 {α : Type} : ∀ {l : List α}, l.length = 1 → ∃ a, l = [a]
  | [a], _ => ⟨a, rfl⟩
theorem args2 {α : Type} : ∀ {l : List α}, l.length = 2 → ∃ a b, l = [a, b]
  | [a, b], _ => ⟨a, b, rfl⟩
theorem args3 {α : Type} : ∀ {l : List α}, l.length = 3 → ∃ a b c, l = [a, b, c]
  | [a, b, c], _ => ⟨a, b, c, rfl⟩
abbrev MM (w : World) : Model := model PySem.Challenge.pw_rt0057_01 w
noncomputable abbrev KK (w : World) : Frag := hd.heap_39 w.params

def Sub (h h' : Heap) : Prop := ∀ b o, h.get? b = some o → h'.get? b = some o
theorem Sub.refl {h : Heap} : Sub h h := fun _ _ e => e
theorem Sub.trans {a b c : Heap} (x : Sub a b) (y : Sub b c) : Sub a c := fun d o e => y d o (x d o e)

theorem hide_get (S : List Addr) (h : Heap) (b : Addr) (o : Obj) : (hideAll h S).get? b = some o ↔ h.get? b = some o ∧ b ∉ S := by
  constructor
  · intro e
    refine ⟨of_hideAll S e, fun hm => ?_⟩
    rw [hideAll_none S hm] at e; cases e
  · rintro ⟨e, hn⟩
    exact hideAll_get S e hn

theorem hide_sub {h h' : Heap} {S S' : List Addr} (k : ∀ b o, b ∉ S → h.get? b = some o → h'.get? b = some o) (hs : ∀ a ∈ S', a ∉ S → h.get? a = none) : Sub (hideAll h S) (hideAll h' S') := fun b o e => by
  obtain ⟨e1, e2⟩ := (hide_get ..).1 e
  refine (hide_get ..).2 ⟨k b o e2 e1, fun hm => ?_⟩
  rw [hs b hm e2] at e1; cases e1
theorem hide_mono {h h' : Heap} {S : List Addr} (k : Sub h h') : Sub (hideAll h S) (hideAll h' S) := hide_sub (fun b o _ e => k b o e) fun a ha hn => absurd ha hn

/-- a fact about a value, kept when the heap grows -/
structure FP where
  holds : Heap → Value → Prop
  stab : ∀ {h h' v}, Sub h h' → holds h v → holds h' v
structure OP where
  holds : Heap → Obj → Prop
  stab : ∀ {h h' o}, Sub h h' → holds h o → holds h' o

inductive AllH (h : Heap) : List Value → List FP → Prop where
  | nil : AllH h [] []
  | cons {v p vs ps} : p.holds h v → AllH h vs ps → AllH h (v :: vs) (p :: ps)
theorem AllH.stab {h h' : Heap} (k : Sub h h') : ∀ {vs ps}, AllH h vs ps → AllH h' vs ps
  | _, _, .nil => .nil
  | _, _, .cons a b => .cons (FP.stab _ k a) (b.stab k)
theorem AllH.length {h : Heap} : ∀ {vs ps}, AllH h vs ps → vs.length = ps.length
  | _, _, .nil => rfl
  | _, _, .cons _ b => congrArg (· + 1) b.length
theorem AllH.get {h : Heap} : ∀ {vs ps} (i : Nat) {p}, AllH h vs ps → ps[i]? = some p → ∃ v, vs[i]? = some v ∧ p.holds h v
  | _, _, i, _, .nil, e => by simp at e
  | _, _, 0, _, .cons a _, e => by simp at e; subst e; exact ⟨_, rfl, a⟩
  | _, _, i + 1, _, .cons _ b, e => by
    simp only [List.getElem?_cons_succ] at e
    obtain ⟨v, h1, h2⟩ := b.get i e
    exact ⟨v, by simpa using h1, h2⟩
theorem AllH.get' {h : Heap} : ∀ {vs ps} (i : Nat) {v}, AllH h vs ps → vs[i]? = some v → ∃ p, ps[i]? = some p ∧ p.holds h v
  | _, _, i, _, .nil, e => by simp at e
  | _, _, 0, _, .cons a _, e => by simp at e; subst e; exact ⟨_, rfl, a⟩
  | _, _, i + 1, _, .cons _ b, e => by
    simp only [List.getElem?_cons_succ] at e
    obtain ⟨v, h1, h2⟩ := b.get' i e
    exact ⟨v, by simpa using h1, h2⟩
theorem AllH.append {h : Heap} : ∀ {vs ps us qs}, AllH h vs ps → AllH h us qs → AllH h (vs ++ us) (ps ++ qs)
  | _, _, _, _, .nil, y => y
  | _, _, _, _, .cons a b, y => .cons a (b.append y)
theorem AllH.snoc {h : Heap} {vs ps v p} (x : AllH h vs ps) (y : p.holds h v) : AllH h (vs ++ [v]) (ps ++ [p]) := x.append (.cons y .nil)
theorem AllH.take {h : Heap} : ∀ {vs ps} (n : Nat), AllH h vs ps → AllH h (vs.take n) (ps.take n)
  | _, _, 0, _ => by simp; exact .nil
  | _, _, _ + 1, .nil => by simp; exact .nil
  | _, _, n + 1, .cons a b => by simp only [List.take_succ_cons]; exact .cons a (b.take n)
theorem AllH.drop {h : Heap} : ∀ {vs ps} (n : Nat), AllH h vs ps → AllH h (vs.drop n) (ps.drop n)
  | _, _, 0, x => by simpa using x
  | _, _, _ + 1, .nil => by simp; exact .nil
  | _, _, n + 1, .cons _ b => by simp only [List.drop_succ_cons]; exact b.drop n
theorem AllH.reverse {h : Heap} : ∀ {vs ps}, AllH h vs ps → AllH h vs.reverse ps.reverse
  | _, _, .nil => .nil
  | _, _, .cons a b => by simp only [List.reverse_cons]; exact b.reverse.snoc a

def TStr (x : Str) : FP := ⟨fun _ v => ∃ t, v = .str x t, fun _ h => h⟩
def TInt (x : Int) : FP := ⟨fun _ v => ∃ t, v = .int x t, fun _ h => h⟩
def TBool (x : Bool) : FP := ⟨fun _ v => v = .bool x, fun _ h => h⟩
def TNone : FP := ⟨fun _ v => v = .none, fun _ h => h⟩
def TRef (a : Addr) : FP := ⟨fun _ v => v = .ref a, fun _ h => h⟩
def TVal (x : Value) : FP := ⟨fun _ v => v = x, fun _ h => h⟩

theorem isList_stab {h h' : Heap} {a items} (k : Sub h h') (x : h.IsList a items) : h'.IsList a items := x.at fun o e => k _ _ e
theorem isTup_stab {h h' : Heap} {a items} (k : Sub h h') (x : IsTup h a items) : IsTup h' a items := let ⟨o, ho, r⟩ := x; ⟨o, k _ _ ho, r⟩
def TLst (ps : List FP) : FP := ⟨fun h v => ∃ a vs, v = .ref a ∧ h.IsList a vs ∧ AllH h vs.toList ps, fun k ⟨a, vs, e, x, y⟩ => ⟨a, vs, e, isList_stab k x, y.stab k⟩⟩
def TTup (ps : List FP) : FP := ⟨fun h v => ∃ a vs, v = .ref a ∧ IsTup h a vs ∧ AllH h vs.toList ps, fun k ⟨a, vs, e, x, y⟩ => ⟨a, vs, e, isTup_stab k x, y.stab k⟩⟩

abbrev TStrs (xs : List Str) : FP := TLst (xs.map TStr)

/-- a list of the function's own, that it may change -/
def OLst (ps : List FP) : OP := ⟨fun h o => ∃ n vs, o = ({ cls := .type "list", data := .seq vs n } : Obj) ∧ AllH h vs.toList ps, fun k ⟨n, vs, e, y⟩ => ⟨n, vs, e, y.stab k⟩⟩

/-! ### states -/
structure Base (w : World) (h : Heap) : Prop where
  kin : (KK w).In h
  top : ∃ mg mb, TopRead view (looseW view []) mg mb h
theorem Base.stab {w h h'} (k : Sub h h') (x : Base w h) : Base w h' := ⟨x.kin.keeps k, let ⟨mg, mb, T⟩ := x.top; ⟨mg, mb, T.keeps k⟩⟩

def Live (S : List Addr) (h : Heap) : Prop := ∀ a ∈ S, ∃ o, h.get? a = some o
theorem Live.stab {S h h'} (k : Sub h h') (x : Live S h) : Live S h' := fun a ha => let ⟨o, e⟩ := x a ha; ⟨o, k _ _ e⟩

def LoadsTo (env : Env) (h : Heap) (x : Str) (v : Value) : Prop :=
  (env.kindOf x = some .local ∧ ∃ m, h.Ns env.locals m ∧ m x = some v) ∨
  (env.kindOf x = some .cell ∧ ∃ c, env.cells.lookup x = some c ∧ h.IsCell c (some v)) ∨
  (env.kindOf x = some .free ∧ (x == ("__classdict__" : Str)) = false ∧ ∃ c, env.cells.lookup x = some c ∧ h.IsCell c (some v))
theorem LoadsTo.stab {env h h' x v} (k : Sub h h') (y : LoadsTo env h x v) : LoadsTo env h' x v := by
  rcases y with ⟨a, m, b, c⟩ | ⟨a, c, b, d⟩ | ⟨a, a', c, b, d⟩
  · exact .inl ⟨a, m, b.keeps k, c⟩
  · exact .inr (.inl ⟨a, c, b, d.keeps k⟩)
  · exact .inr (.inr ⟨a, a', c, b, d.keeps k⟩)

structure Cx where
  w : World
  k : Nat
  env : Env
  S : List Addr
  ρ : List (Str × FP)
  ω : List (Addr × OP)

structure Xs (C : Cx) (s : Shared) : Prop where
  base : Base C.w s.heap
  tok : 0 ≤ s.toks
  kind : C.env.scope.kind = .function
  glob : C.env.globals = mainGlobals
  blt : C.env.builtins = builtinsNs
  live : Live C.S s.heap
  vars : ∀ xp ∈ C.ρ, ∃ v, LoadsTo C.env s.heap xp.1 v ∧ xp.2.holds (hideAll s.heap C.S) v
  own : ∀ aq ∈ C.ω, ∃ o, s.heap.get? aq.1 = some o ∧ aq.2.holds (hideAll s.heap C.S) o

/-- the run went on from s to s': all objects stand as they stood -/
def Kp (s s' : Shared) : Prop := Keeps s s' ∧ s.toks ≤ s'.toks
theorem keeps_sub {s s' : Shared} (k : Kp s s') : Sub s.heap s'.heap := by obtain ⟨⟨h, t, rfl, k⟩, _⟩ := k; exact k
theorem Kp.rfl' {s : Shared} : Kp s s := ⟨⟨s.heap, s.toks, rfl, fun _ _ e => e⟩, Nat.le_refl _⟩
theorem Kp.toks {s : Shared} {n : Nat} (h : s.toks ≤ n := by first | exact Nat.le_succ _ | (dsimp only; omega)) : Kp s { s with toks := n } := ⟨⟨s.heap, n, rfl, fun _ _ e => e⟩, h⟩
theorem Kp.trans' {a b c : Shared} (x : Kp a b) (y : Kp b c) : Kp a c := by
  obtain ⟨⟨h, t, rfl, k⟩, l⟩ := x
  obtain ⟨⟨h', t', rfl, k'⟩, l'⟩ := y
  exact ⟨⟨h', t', rfl, fun d o e => k' d o (k d o e)⟩, Nat.le_trans l l'⟩
theorem Kp.mk' {s : Shared} {h' : Heap} {t : Nat} (k : Sub s.heap h') (h : s.toks ≤ t := by first | exact Nat.le_refl _ | (dsimp only; omega)) : Kp s { s with heap := h', toks := t } := ⟨⟨h', t, rfl, k⟩, h⟩

theorem Xs.keeps {C : Cx} {s s' : Shared} (X : Xs C s) (k : Kp s s') : Xs C s' :=
  have j := keeps_sub k
  ⟨X.base.stab j, Nat.le_trans X.tok k.2, X.kind, X.glob, X.blt, X.live.stab j, fun xp hx => let ⟨v, a, b⟩ := X.vars xp hx; ⟨v, a.stab j, xp.2.stab (hide_mono j) b⟩,
    fun aq ha => let ⟨o, a, b⟩ := X.own aq ha; ⟨o, j _ _ a, aq.2.stab (hide_mono j) b⟩⟩

structure Room (k : Nat) (A : Around) : Prop where
  han : A.handled = none
  dep : A.depth + k < recursionLimit
  uni : A.units + 10 * k + 20 < cLine
theorem Room.deeper {k : Nat} {A : Around} {env : Env} (r : Room (k + 1) A) : Room k (A.deeper env) := ⟨r.han, by have := r.dep; show A.depth + 1 + k < _; omega, by have := r.uni; show A.units + 3 + 10 * k + 20 < _; omega⟩
theorem Room.mono {k k' : Nat} {A : Around} (r : Room k A) (h : k' ≤ k) : Room k' A := ⟨r.han, by have := r.dep; omega, by have := r.uni; omega⟩
theorem Room.in1 {k : Nat} {A : Around} (r : Room (k + 1) A) : Room k A.in1 := ⟨r.han, by have := r.dep; show A.depth + k < _; omega, by have := r.uni; show A.units + 1 + 10 * k + 20 < _; omega⟩
theorem Room.units {k : Nat} {A : Around} (r : Room k A) : A.units < cLine := by have := r.uni; omega
theorem Room.room {k : Nat} {A : Around} (r : Room k A) : A.depth < recursionLimit := by have := r.dep; omega

abbrev NoE : Value → Shared → Prop := fun _ _ => False

/-- from s the tree gives a value of the kind p -/
def Does (C : Cx) (t : Sem Value) (p : FP) (A : Around) (s : Shared) : Prop :=
  wpAny (MM C.w) A t (fun v s' => Kp s s' ∧ p.holds (hideAll s'.heap C.S) v) NoE s

structure Ev (C : Cx) (e : Expr) (p : FP) : Prop where
  go : ∀ A s, Room C.k A → Xs C s → Does C (eval e C.env) p A s
structure Tt (C : Cx) (e : Expr) (b : Bool) : Prop where
  go : ∀ A s, Room C.k A → Xs C s →
    wpAny (MM C.w) A (isTrue e C.env (eval e C.env)) (fun b' s' => Kp s s' ∧ b' = b) NoE s
structure Op1 (C : Cx) (f : Value → Sem Value) (p r : FP) : Prop where
  go : ∀ A s v, Room C.k A → Xs C s → p.holds (hideAll s.heap C.S) v → Does C (f v) r A s
structure Op2 (C : Cx) (f : Value → Value → Sem Value) (p q r : FP) : Prop where
  go : ∀ A s v u, Room C.k A → Xs C s → p.holds (hideAll s.heap C.S) v → q.holds (hideAll s.heap C.S) u → Does C (f v u) r A s

section
variable {C : Cx} {p q r : FP} {e l x y : Expr} {pos np : Pos}

theorem Does.use {A : Around} {s : Shared} {t : Sem Value} {G : Value → Shared → Prop} {E : Value → Shared → Prop} (h : Does C t p A s)
    (k : ∀ v s', Kp s s' → p.holds (hideAll s'.heap C.S) v → G v s') : wpAny (MM C.w) A t G E s :=
  wpAny_mono h (fun v s' ⟨a, b⟩ => k v s' a b) fun _ _ x => x.elim
theorem Does.after {A : Around} {s s₁ : Shared} {t : Sem Value} (k : Kp s s₁) (h : Does C t p A s₁) : wpAny (MM C.w) A t (fun v s' => Kp s s' ∧ p.holds (hideAll s'.heap C.S) v) NoE s₁ :=
  wpAny_mono h (fun _ _ ⟨a, b⟩ => ⟨Kp.trans' k a, b⟩) fun _ _ x => x
theorem upK {α : Type} {M : Model} {A : Around} {s : Shared} {t : Sem α} {P : α → Shared → Prop} {E : Value → Shared → Prop} (h : wpAny M A t (fun v s' => Keeps s s' ∧ P v s') E s) :
    wpAny M A t (fun v s' => Kp s s' ∧ P v s') E s := wpAny_mono (wpAny_toks h) (fun _ _ ⟨a, b, c⟩ => ⟨⟨b, a⟩, c⟩) fun _ _ x => x.2
theorem Does.of_wp {A : Around} {s : Shared} {t : Sem Value} (h : wpAny (MM C.w) A t (fun v s' => Kp s s' ∧ p.holds (hideAll s'.heap C.S) v) NoE s) : Does C t p A s := h

theorem Ev.conv (h : Ev C e p) (k : ∀ h v, p.holds h v → q.holds h v) : Ev C e q := .mk fun A s R X => wpAny_mono (h.go A s R X) (fun _ _ ⟨a, b⟩ => ⟨a, k _ _ b⟩) fun _ _ x => x
theorem Ev.eq (h : Ev C e p) (k : p = q) : Ev C e q := k ▸ h

theorem loads {A : Around} {s : Shared} {env : Env} {x : Str} {v : Value} {Q : Value → Shared → Prop} {E : Value → Shared → Prop} {w : World} (hk : env.scope.kind = .function) (h : LoadsTo env s.heap x v) (hq : Q v s) : wpAny (MM w) A (loadName env x) Q E s := by
  rcases h with ⟨a, m, b, c⟩ | ⟨a, c, b, d⟩ | ⟨a, a', c, b, d⟩
  · exact wpAny_loadName_local hk a b c hq
  · exact wpAny_loadName_cell hk a b d hq
  · exact wpAny_loadName_free hk a b d hq a'

theorem Ev.var {n : Str} (h : (n, p) ∈ C.ρ) (hd : (n == ("__debug__" : Str)) = false := by decide) : Ev C (.Name n pos) p := .mk fun A s _ X => by
  obtain ⟨v, a, b⟩ := X.vars _ h
  exact wpAny_Name (loads X.kind a ⟨Kp.rfl', b⟩) hd

theorem Ev.global {n : Str} {v : Value} (hx : C.env.kindOf n = some .globalImplicit) (e : nsIn (KK C.w) mainGlobals n = some (some v)) (hd : (n == ("__debug__" : Str)) = false := by decide) :
    Ev C (.Name n pos) (TVal v) := .mk fun A s _ X => by
  obtain ⟨mg, mb, T⟩ := X.base.top
  exact Name_function_global X.kind hx (loadGlobal_global (by rw [X.glob]; exact T.g) (mg_of X.base.kin T.g e) ⟨Kp.rfl', rfl⟩) hd
theorem Ev.builtin {n : Str} {v : Value} (hx : C.env.kindOf n = some .globalImplicit) (e : nsIn (KK C.w) mainGlobals n = some none) (hv : bootBuiltins n = some v) (hn : n ≠ "__name__" := by decide)
    (hd : (n == ("__debug__" : Str)) = false := by decide) : Ev C (.Name n pos) (TVal v) := .mk fun A s _ X => by
  obtain ⟨mg, mb, T⟩ := X.base.top
  exact Name_function_global X.kind hx (loadGlobal_builtin (by rw [X.glob]; exact T.g) (mg_none_of X.base.kin T.g e) (by rw [X.blt]; exact T.b) ((T.builtins n hn).trans hv) ⟨Kp.rfl', rfl⟩) hd

theorem Ev.cint {i : Int} {k : Nat} : Ev C (.Constant (.int i) k pos) (TInt i) := .mk fun _ _ _ _ => wpAny_Constant_int ⟨Kp.toks, _, rfl⟩
theorem Ev.cstr {i : Str} {k : Nat} : Ev C (.Constant (.str i) k pos) (TStr i) := .mk fun _ _ _ _ => Constant_str ⟨Kp.toks, _, rfl⟩
theorem Ev.cbool {i : Bool} {k : Nat} : Ev C (.Constant (.bool i) k pos) (TBool i) := .mk fun _ _ _ _ => wpAny_Constant_bool ⟨Kp.rfl', rfl⟩
theorem Ev.cnone {k : Nat} : Ev C (.Constant .none k pos) TNone := .mk fun _ _ _ _ => wpAny_Constant_none ⟨Kp.rfl', rfl⟩

theorem Ev.bin {op : Operator} (h1 : Ev C l p) (h2 : Ev C x q) (h : Op2 C (binaryOp op) p q r) : Ev C (.BinOp l op x pos) r := .mk fun A s R X =>
  wpAny_BinOp ((h1.go A s R X).use fun v s₁ k₁ a => ((h2.go A s₁ R (X.keeps k₁)).use fun u s₂ k₂ b =>
    (h.go A s₂ v u R (X.keeps (Kp.trans' k₁ k₂)) (p.stab (hide_mono (keeps_sub k₂)) a) b).after (Kp.trans' k₁ k₂)))
theorem Ev.un {op : UnaryOp} (h1 : Ev C l p) (h : Op1 C (unaryOp op) p r) : Ev C (.UnaryOp op l pos) r := .mk fun A s R X =>
  wpAny_UnaryOp ((h1.go A s R X).use fun v s₁ k₁ a => (h.go A s₁ v R (X.keeps k₁) a).after k₁)
theorem Ev.cmp {op : CmpOp} (h1 : Ev C l p) (h2 : Ev C x q) (h : Op2 C (compareOp op) p q r) (hm : behindInMarks op x = false := by with_unfolding_all rfl) : Ev C (.Compare l [op] [x] pos) r := .mk fun A s R X =>
  wpAny_Compare1 ((h1.go A s R X).use fun v s₁ k₁ a => ((h2.go A s₁ R (X.keeps k₁)).use fun u s₂ k₂ b =>
    (h.go A s₂ v u R (X.keeps (Kp.trans' k₁ k₂)) (p.stab (hide_mono (keeps_sub k₂)) a) b).after (Kp.trans' k₁ k₂))) hm
theorem Tt.cmp {op : CmpOp} {b : Bool} (h1 : Ev C l p) (h2 : Ev C x q) (h : Op2 C (compareOp op) p q (TBool b)) (hm : behindInMarks op x = false := by with_unfolding_all rfl) : Tt C (.Compare l [op] [x] pos) b := .mk fun A s R X =>
  wpAny_isTrue_Compare1 ((h1.go A s R X).use fun v s₁ k₁ a => ((h2.go A s₁ R (X.keeps k₁)).use fun u s₂ k₂ b' =>
    (h.go A s₂ v u R (X.keeps (Kp.trans' k₁ k₂)) (p.stab (hide_mono (keeps_sub k₂)) a) b').use fun c s₃ k₃ hc => by
      cases hc
      exact wpAny_truthy_bool ⟨Kp.trans' (Kp.trans' k₁ k₂) k₃, rfl⟩)) hm
theorem Tt.not {b : Bool} (h : Tt C x b) : Tt C (.UnaryOp .Not x pos) (!b) := .mk fun A s R X => wpAny_isTrue_Not (wpAny_mono (h.go A s R X) (fun b' s' ⟨k, e⟩ => ⟨k, by rw [e]⟩) fun _ _ x => x)
theorem Tt.of_bool {b : Bool} (h : Ev C e (TBool b)) (hi : ∀ env whole, isTrue e env whole = (do let v ← whole; standAt e.pos; holding [v] (truthy v))) : Tt C e b := .mk fun A s R X => by
  rw [hi]
  refine wpAny_bind ((h.go A s R X).use fun v s₁ k₁ hv => ?_)
  cases hv
  exact wpAny_bind (wpAny_standAt (wpAny_holding (wpAny_truthy_bool ⟨k₁, rfl⟩)))
theorem Tt.and {b c : Bool} (h1 : Tt C x b) (h2 : b = true → Tt C y c) : Tt C (.BoolOp .And [x, y] pos) (b && c) := .mk fun A s R X => by
  show wpAny _ _ (allTrue .And [x, y] C.env) _ _ _
  unfold allTrue
  refine wpAny_bind (wpAny_mono (h1.go A s R X) (fun b' s₁ ⟨k₁, e₁⟩ => ?_) fun _ _ x => x)
  subst e₁
  cases b' with
  | false => exact wpAny_pure ⟨k₁, rfl⟩
  | true =>
    dsimp only
    unfold allTrue
    refine wpAny_bind (wpAny_mono ((h2 rfl).go A s₁ R (X.keeps k₁)) (fun b' s₂ ⟨k₂, e₂⟩ => ?_) fun _ _ x => x)
    subst e₂
    cases b' with
    | false => exact wpAny_pure ⟨Kp.trans' k₁ k₂, rfl⟩
    | true => dsimp only; unfold allTrue; exact wpAny_pure ⟨Kp.trans' k₁ k₂, rfl⟩
theorem Ev.and {b c : Bool} (h1 : Ev C x (TBool b)) (h2 : b = true → Ev C y (TBool c)) : Ev C (.BoolOp .And [x, y] pos) (TBool (b && c)) := .mk fun A s R X => by
  refine wpAny_And2 ((h1.go A s R X).use fun v s₁ k₁ hv => ?_)
  cases hv
  refine wpAny_truthy_bool ?_
  cases b with
  | false => exact ⟨k₁, rfl⟩
  | true => exact ((h2 rfl).go A s₁ R (X.keeps k₁)).after k₁

structure EvL (C : Cx) (pos : Pos) (es : List Expr) (ps : List FP) : Prop where
  go : ∀ A s, Room C.k A → Xs C s →
    wpAny (MM C.w) A (spliced (backTo pos (starEach es C.env))) (fun vs s' => Kp s s' ∧ AllH (hideAll s'.heap C.S) vs ps) NoE s
theorem EvL.nil : EvL C pos [] [] := .mk fun _ _ _ _ => spliced_nil ⟨Kp.rfl', .nil⟩
theorem EvL.cons {es : List Expr} {ps : List FP} (h : Ev C e p) (hr : EvL C pos es ps) (hs : ∀ env, starEach (e :: es) env = (false, eval e env) :: starEach es env := by intro _; rfl) : EvL C pos (e :: es) (p :: ps) := .mk fun A s R X => by
  rw [hs]
  change wpAny _ _ (spliced ((false, eval e C.env) :: backTo pos (starEach es C.env))) _ _ _
  refine spliced_cons ((h.go A s R X).use fun v s₁ k₁ hv => ?_)
  exact wpAny_mono (hr.go A s₁ R (X.keeps k₁)) (fun vs s₂ ⟨k₂, a⟩ => ⟨Kp.trans' k₁ k₂, .cons (p.stab (hide_mono (keeps_sub k₂)) hv) a⟩) fun _ _ x => x

theorem push_sub (h : Heap) (o : Obj) : Sub h (h.push o) := fun _ _ e => Heap.get?_push_of_some _ e
theorem fresh_notin {S : List Addr} {h : Heap} (l : Live S h) : h.objs.size ∉ S := fun hm => by
  obtain ⟨o, e⟩ := l _ hm
  exact Nat.lt_irrefl _ (Heap.lt_size e)
theorem hide_push {S : List Addr} {h : Heap} {o : Obj} (l : Live S h) (hf : o.isFreed = false) : (hideAll (h.push o) S).get? h.objs.size = some o :=
  (hide_get ..).2 ⟨Heap.get?_push_size _ hf, fresh_notin l⟩

theorem Ev.list {es : List Expr} {ps : List FP} (h : EvL C pos es ps) (hz : ps.length ≤ 1000 := by exact Nat.le_of_ble_eq_true rfl) : Ev C (.List es pos) (TLst ps) := .mk fun A s R X => by
  refine List_ (wpAny_mono (h.go A s R X) (fun vs s₁ ⟨k₁, a⟩ => ?_) fun _ _ x => x)
  have hl := a.length
  refine wpAny_newObj_type ?_ (by show vs.toArray.size ≤ sizeLine; rw [List.size_toArray, sizeLine_eq]; omega)
  refine ⟨Kp.trans' k₁ (Kp.mk' (push_sub _ _)), _, vs.toArray, rfl, ⟨_, hide_push (X.live.stab (keeps_sub k₁)) rfl, rfl, _, rfl⟩, ?_⟩
  exact a.stab (hide_mono (push_sub _ _))
theorem Ev.tuple {es : List Expr} {ps : List FP} {k : Nat} (h : EvL C pos es ps) (hz : ps.length ≤ 1000 := by exact Nat.le_of_ble_eq_true rfl) : Ev C (.Tuple es k pos) (TTup ps) := .mk fun A s R X => by
  refine Tuple_ (wpAny_mono (h.go A s R X) (fun vs s₁ ⟨k₁, a⟩ => ?_) fun _ _ x => x)
  have hl := a.length
  refine wpAny_newObj_type ?_ (by show vs.toArray.size ≤ sizeLine; rw [List.size_toArray, sizeLine_eq]; omega)
  refine ⟨Kp.trans' k₁ (Kp.mk' (push_sub _ _)), _, vs.toArray, rfl, ⟨_, hide_push (X.live.stab (keeps_sub k₁)) rfl, rfl, _, rfl⟩, ?_⟩
  exact a.stab (hide_mono (push_sub _ _))

/-! ### calls -/
structure Fn (w : World) (k : Nat) (f : Value) (ps : List FP) (r : FP) : Prop where
  go : ∀ (A : Around) (s : Shared) (vs : List Value) (S : List Addr), Room k A → Base w s.heap → 0 ≤ s.toks → Live S s.heap → AllH (hideAll s.heap S) vs ps →
  wpAny (MM w) A (PySem.call f vs) (fun v s' => Kp s s' ∧ r.holds (hideAll s'.heap S) v) NoE s
theorem Fn.mono {w k k' f ps} (h : Fn w k f ps r) (hk : k ≤ k') : Fn w k' f ps r := .mk fun A s vs S R => h.go A s vs S (R.mono hk)

/-- what may stand at the head of a plain call -/
def Callee (w : World) (v : Value) : Prop := (∃ a, v = .ref a ∧ keepIn (KK w) v = true) ∨ (∃ id, v = .builtin id) ∨ ∃ T, v = .type T

theorem Ev.call {n : Str} {f : Value} {es : List Expr} {ps : List FP} (hn : Ev C (.Name n np) (TVal f)) (hc : Callee C.w f) (ha : EvL C pos (x :: es) ps) (hF : Fn C.w C.k f ps r)
    (he : ∀ env, starEach (x :: es) env = (false, eval x env) :: starEach es env := by intro _; rfl) (hp : (backTo pos (starEach es C.env)).any (·.1) = false := by rfl) : Ev C (.Call (.Name n np) (x :: es) [] pos) r := .mk fun A s R X => by
  refine Call_Name rfl ((hn.go A s R X).use fun fv s₁ k₁ hf => ?_)
  cases hf
  have X₁ := X.keeps k₁
  have fin : ∀ vs s₂, Kp s₁ s₂ → AllH (hideAll s₂.heap C.S) vs ps → wpAny (MM C.w) A (PySem.call f vs) (fun v s' => Kp s s' ∧ r.holds (hideAll s'.heap C.S) v) NoE s₂ := fun vs s₂ k₂ a =>
    wpAny_mono (hF.go A s₂ vs C.S R (X₁.keeps k₂).base (X₁.keeps k₂).tok (X₁.keeps k₂).live a) (fun _ _ ⟨k₃, y⟩ => ⟨Kp.trans' k₁ (Kp.trans' k₂ k₃), y⟩) fun _ _ x => x
  rcases hc with ⟨a, rfl, hk⟩ | ⟨id, rfl⟩ | ⟨T, rfl⟩
  · exact callWith_K X₁.base.kin hk (wpAny_mono (ha.go A s₁ R X₁) (fun vs s₂ ⟨k₂, a⟩ => ⟨(X₁.keeps k₂).base.kin, fin vs s₂ k₂ a⟩) fun _ _ x => x) (he _) hp
  · have h := wpAny_mono (ha.go A s₁ R X₁) (fun vs s₂ ⟨k₂, a⟩ => fin vs s₂ k₂ a) fun _ _ x => x
    rw [he] at h ⊢
    exact callWith_builtin (by show (false || (backTo pos (starEach es C.env)).any (·.1)) = false; rw [hp]; rfl) (evalArgs_plain h)
  · have h := wpAny_mono (ha.go A s₁ R X₁) (fun vs s₂ ⟨k₂, a⟩ => fin vs s₂ k₂ a) fun _ _ x => x
    rw [he] at h ⊢
    exact PyProof.Rows.callWith_type (by show (false || (backTo pos (starEach es C.env)).any (·.1)) = false; rw [hp]; rfl) (evalArgs_plain h)
end
end Mine
namespace Mine

structure Fx where
  w : World
  k : Nat
  s₀ : Shared
  env : Env
  Sc : List Addr

def Fx.own (F : Fx) : List Addr := F.env.locals :: F.env.cells.map (·.2)
def Fx.S (F : Fx) (S₀ : List Addr) (ω : List (Addr × OP)) : List Addr := F.own ++ (ω.map (·.1) ++ S₀)
abbrev Fx.cx (F : Fx) (S₀ : List Addr) (ρ : List (Str × FP)) (ω : List (Addr × OP)) : Cx := ⟨F.w, F.k, F.env, F.S S₀ ω, ρ, ω⟩

structure Fs (F : Fx) (hK : Heap) (S₀ : List Addr) (ρ : List (Str × FP)) (ω : List (Addr × OP)) (s : Shared) : Prop where
  same : Kp F.s₀ s
  base0 : Base F.w F.s₀.heap
  tok : 0 ≤ s.toks
  kind : F.env.scope.kind = .function
  glob : F.env.globals = mainGlobals
  blt : F.env.builtins = builtinsNs
  ns : ∃ m, s.heap.Ns F.env.locals m
  cells : ∀ n c, F.env.cells.lookup n = some c → ∃ v, s.heap.IsCell c v
  live : Live (F.S S₀ ω) s.heap
  nd : (F.own ++ ω.map (·.1)).Nodup
  fresh : ∀ a ∈ F.own ++ ω.map (·.1), hK.get? a = none ∧ F.s₀.heap.get? a = none
  apart : ∀ a ∈ ω.map (·.1), a ∉ S₀
  keep : Sub hK s.heap
  sc : ∀ a ∈ F.Sc, a ∈ S₀
  vars : ∀ xp ∈ ρ, ∃ v, LoadsTo F.env s.heap xp.1 v ∧ xp.2.holds (hideAll s.heap (F.S S₀ ω)) v
  owns : ∀ aq ∈ ω, ∃ o, s.heap.get? aq.1 = some o ∧ aq.2.holds (hideAll s.heap (F.S S₀ ω)) o

section
variable {F : Fx} {hK : Heap} {S₀ : List Addr} {ρ ρ' : List (Str × FP)} {ω ω' : List (Addr × OP)} {s s' : Shared} {A : Around} {Q : Flow → Shared → Prop} {p q r : FP} {e : Expr} {pos : Pos} {rest body : List Stmt}

theorem Fs.base (H : Fs F hK S₀ ρ ω s) : Base F.w s.heap := H.base0.stab (keeps_sub H.same)
theorem Fs.xs (H : Fs F hK S₀ ρ ω s) : Xs (F.cx S₀ ρ ω) s := ⟨H.base, H.tok, H.kind, H.glob, H.blt, H.live, H.vars, H.owns⟩

theorem Fs.step (H : Fs F hK S₀ ρ ω s) (k : Kp s s') : Fs F hK S₀ ρ ω s' :=
  have j := keeps_sub k
  { same := Kp.trans' H.same k, base0 := H.base0, tok := Nat.le_trans H.tok k.2, kind := H.kind, glob := H.glob, blt := H.blt, ns := let ⟨m, h⟩ := H.ns; ⟨m, h.keeps j⟩,
    cells := fun n c e => let ⟨v, h⟩ := H.cells n c e; ⟨v, h.keeps j⟩, live := H.live.stab j, nd := H.nd, fresh := H.fresh, apart := H.apart, keep := H.keep.trans j, sc := H.sc,
    vars := fun xp hx => let ⟨v, a, b⟩ := H.vars xp hx; ⟨v, a.stab j, xp.2.stab (hide_mono j) b⟩,
    owns := fun aq ha => let ⟨o, a, b⟩ := H.owns aq ha; ⟨o, j _ _ a, aq.2.stab (hide_mono j) b⟩ }

theorem Fs.weak (H : Fs F hK S₀ ρ' ω s) (h : ∀ x ∈ ρ, x ∈ ρ') : Fs F hK S₀ ρ ω s := { H with vars := fun xp hx => H.vars xp (h xp hx) }

/-- entries of x struck -/
def drp (x : Str) : List (Str × FP) → List (Str × FP)
  | [] => []
  | e :: r => if e.1 = x then drp x r else e :: drp x r
theorem mem_drp {x : Str} : ∀ {ρ : List (Str × FP)} {y : Str × FP}, y ∈ drp x ρ → y ∈ ρ ∧ y.1 ≠ x
  | e :: r, y, h => by
    unfold drp at h
    split at h
    · have := mem_drp h; exact ⟨.tail _ this.1, this.2⟩
    · rename_i hn
      cases h with
      | head => exact ⟨.head _, hn⟩
      | tail _ h => have := mem_drp h; exact ⟨.tail _ this.1, this.2⟩

theorem own_L (F : Fx) (S₀ ω) : F.env.locals ∈ F.S S₀ ω := List.mem_append_left _ (.head _)
theorem own_c (F : Fx) (S₀ ω) {n c} (h : F.env.cells.lookup n = some c) : c ∈ F.S S₀ ω := List.mem_append_left _ (.tail _ (List.mem_map.mpr ⟨_, mem_of_lookup h, rfl⟩))
theorem cell_name : ∀ {cs : List (Str × Addr)}, (cs.map (·.2)).Nodup → ∀ {n n' : Str} {c : Addr}, (n, c) ∈ cs → (n', c) ∈ cs → n = n'
  | x :: r, hp, n, n', c, h, h' => by
    rw [List.map_cons, List.nodup_cons] at hp
    cases h with
    | head => cases h' with
      | head => rfl
      | tail _ h' => exact absurd (List.mem_map_of_mem h') hp.1
    | tail _ h => cases h' with
      | head => exact absurd (List.mem_map_of_mem h) hp.1
      | tail _ h' => exact cell_name hp.2 h h'

/-- one of the own objects is turned into another -/
theorem Fs.upd {a : Addr} {h' : Heap} {t : Nat} (H : Fs F hK S₀ ρ ω s) (ha : a ∈ F.own ++ ω.map (·.1)) (hs : Heap.SameBut a s.heap h') (ht : s.toks ≤ t)
    (hns : ∃ m, h'.Ns F.env.locals m) (hc : ∀ n c, F.env.cells.lookup n = some c → ∃ v, h'.IsCell c v) (hl : ∃ o, h'.get? a = some o)
    (hv : ∀ xp ∈ ρ', ∃ v, LoadsTo F.env h' xp.1 v ∧ xp.2.holds (hideAll h' (F.S S₀ ω')) v) (hw : ω'.map (·.1) = ω.map (·.1))
    (ho : ∀ aq ∈ ω', ∃ o, h'.get? aq.1 = some o ∧ aq.2.holds (hideAll h' (F.S S₀ ω')) o) : Fs F hK S₀ ρ' ω' { s with heap := h', toks := t } := by
  have hS : F.S S₀ ω' = F.S S₀ ω := by unfold Fx.S; rw [hw]
  have old : ∀ (g : Heap), (∀ b o, g.get? b = some o → s.heap.get? b = some o) → g.get? a = none → ∀ b o, g.get? b = some o → h'.get? b = some o := fun g hg hn b o e =>
    (hs.2 b (fun q => by rw [q, hn] at e; cases e)).trans (hg b o e)
  have f := H.fresh a ha
  obtain ⟨h₀, t₀, e₀, k₀⟩ := H.same.1
  have sub0 : Sub F.s₀.heap h' := old _ (keeps_sub H.same) f.2
  refine { same := ⟨⟨h', t, by rw [e₀], sub0⟩, Nat.le_trans H.same.2 ht⟩, base0 := H.base0, tok := Nat.le_trans H.tok ht, kind := H.kind, glob := H.glob, blt := H.blt, ns := hns, cells := hc, live := ?_, nd := (by rw [hw]; exact H.nd), fresh := (by rw [hw]; exact H.fresh), apart := (by rw [hw]; exact H.apart), keep := old _ H.keep f.1, sc := H.sc, vars := hv, owns := ho }
  · intro b hb
    rw [hS] at hb
    by_cases e : b = a
    · subst e; exact hl
    · obtain ⟨o, ho⟩ := H.live b hb
      exact ⟨o, (hs.2 b e).trans ho⟩

def StoreOk (env : Env) (x : Str) : Prop := env.kindOf x = some .local ∨ (env.kindOf x = some .cell ∧ ∃ c, env.cells.lookup x = some c)

theorem Fs.store {x : Str} {v : Value} {Q : Unit → Shared → Prop} {E : Value → Shared → Prop} (H : Fs F hK S₀ ρ ω s) (hx : StoreOk F.env x) (hp : p.holds (hideAll s.heap (F.S S₀ ω)) v)
    (k : ∀ s', Fs F hK S₀ ((x, p) :: drp x ρ) ω s' → Q () s') : wpAny (MM F.w) A (storeName F.env x v) Q E s := by
  have ndL : ∀ n c, F.env.cells.lookup n = some c → c ≠ F.env.locals := fun n c e q => by
    have h := H.nd
    unfold Fx.own at h
    rw [List.cons_append, List.nodup_cons] at h
    exact h.1 (List.mem_append_left _ (q ▸ List.mem_map.mpr ⟨_, mem_of_lookup e, rfl⟩))
  have ndw : ∀ a ∈ ω.map (·.1), a ∉ F.own := fun a ha hb => by
    have h := H.nd
    rw [List.nodup_append] at h
    exact h.2.2 a hb a ha rfl
  obtain ⟨m, hm⟩ := H.ns
  rcases hx with hl | ⟨hl, c, hc⟩
  · refine wpAny_storeName_local hl hm (fun h' hn hs => k _ ?_) (by rw [H.kind]; rfl)
    have sub : Sub (hideAll s.heap (F.S S₀ ω)) (hideAll h' (F.S S₀ ω)) := hide_sub (fun b o hb e => (hs.2 b (fun q => hb (q ▸ own_L ..))).trans e) fun a ha hn => absurd ha hn
    refine H.upd (a := F.env.locals) (List.mem_append_left _ (.head _)) hs (Nat.le_succ _) ⟨_, hn⟩ (fun n c e => ?_) ?_ (fun xp hxp => ?_) rfl (fun aq ha => ?_)
    · obtain ⟨v', hv'⟩ := H.cells n c e
      exact ⟨v', hv'.sameBut hs (ndL n c e)⟩
    · obtain ⟨o, _, _, ho, _⟩ := hn; exact ⟨o, ho⟩
    · rcases List.mem_cons.mp hxp with rfl | hxp
      · exact ⟨v, .inl ⟨hl, _, hn, by simp⟩, p.stab sub hp⟩
      · obtain ⟨hxp, hne⟩ := mem_drp hxp
        obtain ⟨u, hu, hpu⟩ := H.vars xp hxp
        refine ⟨u, ?_, xp.2.stab sub hpu⟩
        rcases hu with ⟨a, m', b, d⟩ | ⟨a, c, b, d⟩ | ⟨a, a', c, b, d⟩
        · refine .inl ⟨a, _, hn, ?_⟩
          rw [if_neg hne]
          obtain ⟨o1, es1, ep1, e1, e2, _, e4⟩ := b
          obtain ⟨o2, es2, ep2, f1, f2, _, f4⟩ := hm
          rw [e1] at f1; cases f1
          rw [e2] at f2; cases f2
          rw [← f4, e4]; exact d
        · exact .inr (.inl ⟨a, c, b, d.sameBut hs (ndL _ _ b)⟩)
        · exact .inr (.inr ⟨a, a', c, b, d.sameBut hs (ndL _ _ b)⟩)
    · obtain ⟨o, ho, hq⟩ := H.owns aq ha
      exact ⟨o, (hs.2 aq.1 (fun q => ndw aq.1 (List.mem_map_of_mem (f := (·.1)) ha) (by rw [q]; exact .head _))).trans ho, aq.2.stab sub hq⟩
  · obtain ⟨v₀, hv₀⟩ := H.cells x c hc
    refine wpAny_storeName_cell H.kind hl hc hv₀ fun h' hv hs => k _ ?_
    have sub : Sub (hideAll s.heap (F.S S₀ ω)) (hideAll h' (F.S S₀ ω)) := hide_sub (fun b o hb e => (hs.2 b (fun q => hb (q ▸ own_c F S₀ ω hc))).trans e) fun a ha hn => absurd ha hn
    have memc : c ∈ F.own := .tail _ (List.mem_map.mpr ⟨_, mem_of_lookup hc, rfl⟩)
    have cne : ∀ n c', F.env.cells.lookup n = some c' → n ≠ x → c' ≠ c := fun n c' e hn q => hn (cell_name (cs := F.env.cells) (by
      have h := H.nd
      rw [List.nodup_append] at h
      exact (List.nodup_cons.mp h.1).2) (mem_of_lookup e) (q ▸ mem_of_lookup hc))
    refine H.upd (a := c) (t := s.toks) (List.mem_append_left _ memc) hs (Nat.le_refl _) ⟨m, hm.sameBut hs (Ne.symm (ndL _ _ hc))⟩ (fun n c' e => ?_) ?_ (fun xp hxp => ?_) rfl (fun aq ha => ?_)
    · by_cases q : c' = c
      · subst q; exact ⟨_, hv⟩
      · obtain ⟨v', hv'⟩ := H.cells n c' e
        exact ⟨v', hv'.sameBut hs q⟩
    · obtain ⟨o, ho, _⟩ := hv; exact ⟨o, ho⟩
    · rcases List.mem_cons.mp hxp with rfl | hxp
      · exact ⟨v, .inr (.inl ⟨hl, c, hc, hv⟩), p.stab sub hp⟩
      · obtain ⟨hxp, hne⟩ := mem_drp hxp
        obtain ⟨u, hu, hpu⟩ := H.vars xp hxp
        refine ⟨u, ?_, xp.2.stab sub hpu⟩
        rcases hu with ⟨a, m', b, d⟩ | ⟨a, c', b, d⟩ | ⟨a, a', c', b, d⟩
        · exact .inl ⟨a, m', b.sameBut hs (Ne.symm (ndL _ _ hc)), d⟩
        · exact .inr (.inl ⟨a, c', b, d.sameBut hs (cne _ _ b hne)⟩)
        · exact .inr (.inr ⟨a, a', c', b, d.sameBut hs (cne _ _ b hne)⟩)
    · obtain ⟨o, ho, hq⟩ := H.owns aq ha
      exact ⟨o, (hs.2 aq.1 (fun q => ndw aq.1 (List.mem_map_of_mem (f := (·.1)) ha) (by rw [q]; exact memc))).trans ho, aq.2.stab sub hq⟩

theorem noE {α : Type} {M : Model} {t : Sem α} {Q : α → Shared → Prop} {E : Value → Shared → Prop} (h : wpAny M A t Q NoE s) : wpAny M A t Q E s := wpAny_mono h (fun _ _ x => x) fun _ _ x => x.elim

theorem Fs.ev {G : Value → Shared → Prop} {E : Value → Shared → Prop} (H : Fs F hK S₀ ρ ω s) (R : Room F.k A) (h : Ev (F.cx S₀ ρ ω) e p)
    (k : ∀ v s', Fs F hK S₀ ρ ω s' → p.holds (hideAll s'.heap (F.S S₀ ω)) v → G v s') : wpAny (MM F.w) A (eval e F.env) G E s :=
  wpAny_mono (h.go A s R H.xs) (fun v s' ⟨a, b⟩ => k v s' (H.step a) b) fun _ _ x => x.elim

/-- x = e -/
theorem ex_assignF {x : Str} {px : Pos} (H : Fs F hK S₀ ρ ω s) (R : Room F.k A) (h : Ev (F.cx S₀ ρ ω) e p) (hx : StoreOk F.env x)
    (k : ∀ s', Fs F hK S₀ ((x, p) :: drp x ρ) ω s' → wpAny (MM F.w) A (execs rest F.env) Q NoE s')
    (hs : swapsWith e (some (.Name x px)) pos.line F.env = pure false := by rfl) : wpAny (MM F.w) A (execs (.Assign [.Name x px] e pos :: rest) F.env) Q NoE s :=
  wpAny_execs_cons (wpAny_Assign_Name (H.ev R h fun v s' H' hp => H'.store hx hp fun s'' H'' => k s'' H'') hs)
/-- x op= e -/
theorem ex_augF {x : Str} {px : Pos} {op : Operator} (H : Fs F hK S₀ ρ ω s) (R : Room F.k A) (ho : (x, p) ∈ ρ) (h : Ev (F.cx S₀ ρ ω) e q) (hop : Op2 (F.cx S₀ ρ ω) (inplaceOp op) p q r) (hx : StoreOk F.env x)
    (k : ∀ s', Fs F hK S₀ ((x, r) :: drp x ρ) ω s' → wpAny (MM F.w) A (execs rest F.env) Q NoE s') :
    wpAny (MM F.w) A (execs (.AugAssign (.Name x px) op e pos :: rest) F.env) Q NoE s := by
  obtain ⟨v, hv, hp⟩ := H.vars _ ho
  refine wpAny_execs_cons (wpAny_AugAssign_Name (loads H.kind hv (wpAny_mono (h.go A s R H.xs) (fun u s₂ ⟨k₂, b⟩ => ?_) fun _ _ x => x)))
  have H₂ := H.step k₂
  refine wpAny_mono (hop.go A s₂ v u R H₂.xs (p.stab (hide_mono (keeps_sub k₂)) hp) b) (fun z s₃ ⟨k₃, c⟩ => ?_) fun _ _ x => x
  exact (H₂.step k₃).store hx c fun s'' H'' => k s'' H''

theorem ex_returnF {G : Value → Prop} (H : Fs F hK S₀ ρ ω s) (R : Room F.k A) (h : Ev (F.cx S₀ ρ ω) e p) (k : ∀ v s', Fs F hK S₀ ρ ω s' → p.holds (hideAll s'.heap (F.S S₀ ω)) v → Q (.ret v) s') :
    wpAny (MM F.w) A (execs (.Return (some e) pos :: rest) F.env) Q NoE s :=
  wpAny_execs_cons (wpAny_Return_some (H.ev R h fun v s' H' hp => k v s' H' hp))

def ThenF (M : Model) (A : Around) (rest : List Stmt) (env : Env) (Q : Flow → Shared → Prop) (f : Flow) (s' : Shared) : Prop := match f with
  | .next => wpAny M A (execs rest env) Q NoE s'
  | f => Q f s'
theorem ex_end (h : Q .next s) : wpAny (MM F.w) A (execs [] F.env) Q NoE s := wpAny_execs_nil h

theorem ex_ifF {b : Bool} {orelse : List Stmt} (H : Fs F hK S₀ ρ ω s) (R : Room F.k A) (h : Tt (F.cx S₀ ρ ω) e b)
    (k : ∀ s', Fs F hK S₀ ρ ω s' → wpAny (MM F.w) A (execs (if b then body else orelse) F.env) (ThenF (MM F.w) A rest F.env Q) NoE s') :
    wpAny (MM F.w) A (execs (.If e body orelse pos :: rest) F.env) Q NoE s := by
  refine wpAny_execs_cons (wpAny_If (wpAny_mono (h.go A s R H.xs) (fun b' s' ⟨a, c⟩ => ?_) fun _ _ x => x))
  subst c
  have := k s' (H.step a)
  cases b' with
  | true => exact wpAny_mono this (fun f s' hf => by cases f <;> exact hf) fun _ _ x => x
  | false => exact wpAny_mono this (fun f s' hf => by cases f <;> exact hf) fun _ _ x => x
end


section
variable {w : World} {k : Nat} {s₀ : Shared} {env : Env} {Sc : List Addr} {hK : Heap} {S₀ : List Addr} {ρ ρ' : List (Str × FP)} {ω ω' : List (Addr × OP)} {s s' : Shared} {A : Around} {Q : Flow → Shared → Prop} {p q r : FP} {e : Expr} {pos : Pos} {rest body : List Stmt}
/-- a block's run; nothing is raised -/
structure Run (w : World) (A : Around) (t : Sem Flow) (Q : Flow → Shared → Prop) (s : Shared) : Prop where
  go : wpAny (MM w) A t Q NoE s
/-- what is wanted behind a block: the rest, or the flow is handed on -/
def Then (w : World) (A : Around) (rest : List Stmt) (env : Env) (Q : Flow → Shared → Prop) (f : Flow) (s' : Shared) : Prop := match f with
  | .next => Run w A (execs rest env) Q s'
  | f => Q f s'
theorem Run.nil (h : Q .next s) : Run w A (execs [] env) Q s := ⟨wpAny_execs_nil h⟩
theorem Run.mono {t : Sem Flow} {Q' : Flow → Shared → Prop} (h : Run w A t Q s) (hq : ∀ f s, Q f s → Q' f s) : Run w A t Q' s := ⟨wpAny_mono h.go hq fun _ _ x => x⟩
theorem Run.then (h : Run w A (execs body env) (Then w A rest env Q) s) : wpAny (MM w) A (execs body env) (ThenF (MM w) A rest env Q) NoE s := wpAny_mono h.go (fun f s' hf => by cases f <;> first | exact hf | exact hf.go) fun _ _ x => x
/-- x = e -/
theorem ex_assign {x : Str} {px : Pos} (H : Fs ⟨w, k, s₀, env, Sc⟩ hK S₀ ρ ω s) (R : Room k A) (h : Ev (Fx.cx ⟨w, k, s₀, env, Sc⟩ S₀ ρ ω) e p) (hx : StoreOk env x)
    (kk : ∀ s', Fs ⟨w, k, s₀, env, Sc⟩ hK S₀ ((x, p) :: drp x ρ) ω s' → Run w A (execs rest env) Q s')
    (hs : swapsWith e (some (.Name x px)) pos.line env = pure false := by rfl) : Run w A (execs (.Assign [.Name x px] e pos :: rest) env) Q s := ⟨ex_assignF H R h hx (fun s' H' => (kk s' H').go) hs⟩
/-- x op= e -/
theorem ex_aug {x : Str} {px : Pos} {op : Operator} (H : Fs ⟨w, k, s₀, env, Sc⟩ hK S₀ ρ ω s) (R : Room k A) (ho : (x, p) ∈ ρ) (h : Ev (Fx.cx ⟨w, k, s₀, env, Sc⟩ S₀ ρ ω) e q) (hop : Op2 (Fx.cx ⟨w, k, s₀, env, Sc⟩ S₀ ρ ω) (inplaceOp op) p q r) (hx : StoreOk env x)
    (kk : ∀ s', Fs ⟨w, k, s₀, env, Sc⟩ hK S₀ ((x, r) :: drp x ρ) ω s' → Run w A (execs rest env) Q s') :
    Run w A (execs (.AugAssign (.Name x px) op e pos :: rest) env) Q s := ⟨ex_augF H R ho h hop hx fun s' H' => (kk s' H').go⟩
theorem ex_return (H : Fs ⟨w, k, s₀, env, Sc⟩ hK S₀ ρ ω s) (R : Room k A) (h : Ev (Fx.cx ⟨w, k, s₀, env, Sc⟩ S₀ ρ ω) e p) (kk : ∀ v s', Fs ⟨w, k, s₀, env, Sc⟩ hK S₀ ρ ω s' → p.holds (hideAll s'.heap (Fx.S ⟨w, k, s₀, env, Sc⟩ S₀ ω)) v → Q (.ret v) s') :
    Run w A (execs (.Return (some e) pos :: rest) env) Q s := ⟨ex_returnF (G := fun _ => True) H R h kk⟩
theorem ex_if {b : Bool} {orelse : List Stmt} (H : Fs ⟨w, k, s₀, env, Sc⟩ hK S₀ ρ ω s) (R : Room k A) (h : Tt (Fx.cx ⟨w, k, s₀, env, Sc⟩ S₀ ρ ω) e b)
    (kk : ∀ s', Fs ⟨w, k, s₀, env, Sc⟩ hK S₀ ρ ω s' → Run w A (execs (if b then body else orelse) env) (Then w A rest env Q) s') :
    Run w A (execs (.If e body orelse pos :: rest) env) Q s := ⟨ex_ifF H R h fun s' H' => (kk s' H').then⟩
end

/-! ### calls of the text's defs -/
theorem bindL_mem {kindOf : Str → Option NameKind} : ∀ {binds : List (Str × Value)} {m : Str → Option Value} {x : Str} {v : Value}, (binds.map (·.1)).Nodup → (x, v) ∈ binds → kindOf x = some .local → bindL kindOf binds m x = some v
  | (n, u) :: r, m, x, v, hn, hm, hk => by
    have hn' := List.nodup_cons.mp hn
    unfold bindL
    rcases List.mem_cons.mp hm with h | h
    · cases h
      rw [if_pos hk]
      have keep : ∀ (l : List (Str × Value)) (m : Str → Option Value), n ∉ l.map (·.1) → bindL kindOf l m n = m n := by
        intro l
        induction l with
        | nil => intro m _; rfl
        | cons e l ih =>
          intro m hx
          obtain ⟨y, z⟩ := e
          unfold bindL
          simp only [List.map_cons, List.mem_cons, not_or] at hx
          rw [ih _ hx.2]
          split
          · exact if_neg hx.1
          · rfl
      rw [keep _ _ hn'.1]; simp
    · exact bindL_mem hn'.2 h hk
theorem bindC_mem {kindOf : Str → Option NameKind} : ∀ {binds : List (Str × Value)} {m : Str → Option Value} {x : Str} {v : Value}, (binds.map (·.1)).Nodup → (x, v) ∈ binds → kindOf x = some .cell → bindC kindOf binds m x = some v
  | (n, u) :: r, m, x, v, hn, hm, hk => by
    have hn' := List.nodup_cons.mp hn
    unfold bindC
    rcases List.mem_cons.mp hm with h | h
    · cases h
      rw [if_neg (by rw [hk]; decide)]
      have keep : ∀ (l : List (Str × Value)) (m : Str → Option Value), n ∉ l.map (·.1) → bindC kindOf l m n = m n := by
        intro l
        induction l with
        | nil => intro m _; rfl
        | cons e l ih =>
          intro m hx
          obtain ⟨y, z⟩ := e
          unfold bindC
          simp only [List.map_cons, List.mem_cons, not_or] at hx
          rw [ih _ hx.2]
          split
          · rfl
          · exact if_neg hx.1
      rw [keep _ _ hn'.1]; simp
    · exact bindC_mem hn'.2 h hk

/-- a def of the text, as it stands in the heap -/
structure DefAt (w : World) (f : Addr) (fd : FuncData) (body : List Stmt) : Prop where
  look : ∃ oc od sl, (KK w).lookup f = some ⟨oc, od, .func fd, sl⟩
  code : codeIn (KK w) fd.code fd.qualname = true
  body : fd.body = .stmts body
  clo : fd.closure = []
  glob : fd.globals = mainGlobals
  blt : fd.builtins = builtinsNs
  co : fd.scope.isCoroutine = false
  gen : fd.scope.isGenerator = false
  kind : fd.scope.kind = .function
  cn : ((cellsFrom 0 fd.scope.names []).map (·.1)).Nodup

/-- a name of a def's own: it stands in the frame or in a cell -/
def ownName (fd : FuncData) (x : Str) : Bool := fd.scope.names.lookup x == some .local || (fd.scope.names.lookup x == some .cell && ((cellsFrom 0 fd.scope.names []).lookup x).isSome)

theorem cellsFrom_shift : ∀ (names : List (Str × NameKind)) (n : Nat) (acc acc' : List (Str × Addr)) (x : Str), (acc.lookup x).isSome = (acc'.lookup x).isSome → ∀ n', ((cellsFrom n names acc).lookup x).isSome = ((cellsFrom n' names acc').lookup x).isSome
  | [], n, acc, acc', x, h, n' => h
  | (y, k) :: r, n, acc, acc', x, h, n' => by
    unfold cellsFrom
    split
    · rename_i hk
      refine cellsFrom_shift r _ _ _ x ?_ _
      simp only [List.lookup_cons]
      cases x == y <;> simp [h]
    · exact cellsFrom_shift r _ _ _ x h _

theorem storeOk_of {fd : FuncData} {L a : Addr} {x : Str} (h : ownName fd x = true) : StoreOk (callEnvC fd L a) x := by
  unfold ownName at h
  simp only [Bool.or_eq_true, Bool.and_eq_true, beq_iff_eq] at h
  rcases h with h | ⟨h, h'⟩
  · exact .inl h
  · refine .inr ⟨h, ?_⟩
    rw [cellsFrom_shift fd.scope.names 0 [] [] x rfl (L + 1)] at h'
    exact Option.isSome_iff_exists.mp h'

/-- a def's end: what it hands back -/
def Ret (F : Fx) (r : FP) (f : Flow) (s' : Shared) : Prop := Kp F.s₀ s' ∧ r.holds (hideAll s'.heap F.Sc) (match f with | .ret v => v | _ => .none)
theorem Fs.ret {F : Fx} {hK S₀ ρ ω s} {p : FP} {v : Value} (H : Fs F hK S₀ ρ ω s) (hp : p.holds (hideAll s.heap (F.S S₀ ω)) v) : Ret F p (.ret v) s :=
  ⟨H.same, p.stab (hide_sub (fun _ _ _ e => e) fun a ha hn => absurd (List.mem_append_right _ (List.mem_append_right _ (H.sc a ha))) hn) hp⟩

theorem zip_map_fst : ∀ {α β : Type} {l : List α} {l' : List β}, l.length = l'.length → (l.zip l').map (·.1) = l
  | _, _, [], [], _ => rfl
  | _, _, _ :: _, _ :: _, h => by simp only [List.zip_cons_cons, List.map_cons]; rw [zip_map_fst (by simpa using h)]
theorem zip_vals {h : Heap} : ∀ {names : List Str} {vs : List Value} {ps : List FP} {x : Str} {p : FP}, AllH h vs ps → (x, p) ∈ names.zip ps → ∃ v, (x, v) ∈ names.zip vs ∧ p.holds h v
  | [], _, _, _, _, _, hm => by simp at hm
  | n :: ns, _, _, x, p, .nil, hm => by simp at hm
  | n :: ns, v :: vs, q :: qs, x, p, .cons a b, hm => by
    rw [List.zip_cons_cons] at hm
    rcases List.mem_cons.mp hm with h | h
    · cases h; exact ⟨v, by simp, a⟩
    · obtain ⟨u, h1, h2⟩ := zip_vals b h
      exact ⟨u, by rw [List.zip_cons_cons]; exact .tail _ h1, h2⟩

theorem pairwise_nodup : ∀ {cs : List (Str × Addr)}, (cs.Pairwise fun x y => x.2 ≠ y.2) → (cs.map (·.2)).Nodup
  | [], _ => .nil
  | x :: r, h => by
    rw [List.pairwise_cons] at h
    rw [List.map_cons, List.nodup_cons]
    refine ⟨fun hm => ?_, pairwise_nodup h.2⟩
    obtain ⟨y, hy, e⟩ := List.mem_map.mp hm
    exact h.1 y hy e.symm

/-- the frame behind the binding of the arguments -/
theorem enter_fs {w : World} {k : Nat} {f : Addr} {fd : FuncData} {body : List Stmt} {names : List Str} {vs : List Value} {ps : List FP} {S : List Addr} {s s₁ s₂ : Shared} (D : DefAt w f fd body)
    (hb : Base w s.heap) (ht : 0 ≤ s.toks) (hl : Live S s.heap) (ks : Kp s s₁) (hlen : names.length = vs.length) (hnd : names.Nodup) (hown : ∀ x ∈ names, ownName fd x = true) (ha : AllH (hideAll s₁.heap S) vs ps)
    (x : InCallC s₁ (callEnvC fd s₁.heap.objs.size f).locals (bindL (callEnvC fd s₁.heap.objs.size f).kindOf (names.zip vs) fun _ => none) (callEnvC fd s₁.heap.objs.size f).cells
        (bindC (callEnvC fd s₁.heap.objs.size f).kindOf (names.zip vs) fun _ => none) s₂) (ht₂ : s₁.toks ≤ s₂.toks) :
    Fs ⟨w, k, s, callEnvC fd s₁.heap.objs.size f, S⟩ s.heap S (names.zip ps) [] s₂ := by
  have sub : Sub s₁.heap s₂.heap := x.toInCall.keep
  have k12 : Kp s₁ s₂ := ⟨x.done, ht₂⟩
  have cellAt : ∀ n c, (n, c) ∈ (callEnvC fd s₁.heap.objs.size f).cells → s₁.heap.objs.size < c := x.above
  have new : ∀ a, s₁.heap.objs.size ≤ a → s₁.heap.get? a = none := fun a h => by
    cases e : s₁.heap.get? a with
    | none => rfl
    | some o => exact absurd (Heap.lt_size e) (Nat.not_lt.mpr h)
  have new0 : ∀ a, s₁.heap.objs.size ≤ a → s.heap.get? a = none := fun a h => by
    cases e : s.heap.get? a with
    | none => rfl
    | some o => have := keeps_sub ks _ _ e; rw [new a h] at this; cases this
  have ge : ∀ a ∈ (Fx.own ⟨w, k, s, callEnvC fd s₁.heap.objs.size f, S⟩), s₁.heap.objs.size ≤ a := fun a h => by
    rcases List.mem_cons.mp h with rfl | h
    · exact Nat.le_refl _
    · obtain ⟨⟨n, c⟩, hm, rfl⟩ := List.mem_map.mp h
      exact Nat.le_of_lt (cellAt n c hm)
  have nd : (Fx.own ⟨w, k, s, callEnvC fd s₁.heap.objs.size f, S⟩).Nodup := by
    refine List.nodup_cons.mpr ⟨fun h => ?_, pairwise_nodup x.apart⟩
    obtain ⟨⟨n, c⟩, hm, e⟩ := List.mem_map.mp h
    have := cellAt n c hm
    simp only at e
    rw [e] at this
    exact Nat.lt_irrefl _ this
  have look : ∀ n c, (n, c) ∈ (callEnvC fd s₁.heap.objs.size f).cells → ∃ o, s₂.heap.get? c = some o := fun n c hm => by
    obtain ⟨o, ho, _⟩ := x.cell n c (lookup_of_mem_nodup (cellsFrom_names fd.scope.names 0 (s₁.heap.objs.size + 1) [] [] rfl ▸ D.cn) hm)
    exact ⟨o, ho⟩
  have hz := zip_map_fst hlen
  refine { same := Kp.trans' ks k12, base0 := hb, tok := Nat.le_trans ht (Kp.trans' ks k12).2, kind := D.kind, glob := D.glob, blt := D.blt, ns := ⟨_, x.toInCall.ns⟩, cells := fun n c e => ⟨_, x.cell n c e⟩, live := ?_, nd := (by simpa using nd), fresh := (fun a h => ?_), apart := (fun a h => nomatch h), keep := (keeps_sub ks).trans sub, sc := (fun a h => h), vars := (fun xp hxp => ?_), owns := (fun a h => nomatch h) }
  · intro a h
    unfold Fx.S at h
    rcases List.mem_append.mp h with h | h
    · rcases List.mem_cons.mp h with rfl | h
      · obtain ⟨o, _, _, ho, _⟩ := x.toInCall.ns; exact ⟨o, ho⟩
      · obtain ⟨⟨n, c⟩, hm, rfl⟩ := List.mem_map.mp h
        exact look n c hm
    · exact (hl.stab (keeps_sub (Kp.trans' ks k12))) a (by simpa using h)
  · have h' := ge a (by simpa using h)
    exact ⟨new0 a h', new0 a h'⟩
  · obtain ⟨y, p⟩ := xp
    obtain ⟨v, hv, hp⟩ := zip_vals ha hxp
    refine ⟨v, ?_, p.stab (hide_sub (fun b o _ e => sub b o e) fun a ha hn => ?_) hp⟩
    · have hy := hown y (List.of_mem_zip hv).1
      have hnz : ((names.zip vs).map (·.1)).Nodup := by rw [hz]; exact hnd
      rcases storeOk_of (L := s₁.heap.objs.size) (a := f) hy with h | ⟨h, c, hc⟩
      · exact .inl ⟨h, _, x.toInCall.ns, bindL_mem hnz hv h⟩
      · refine .inr (.inl ⟨h, c, hc, ?_⟩)
        have := x.cell y c hc
        rwa [bindC_mem hnz hv h] at this
    · refine new a (ge a ?_)
      unfold Fx.S at ha
      rcases List.mem_append.mp ha with h | h
      · exact h
      · exact absurd (by simpa using h) hn

/-- the arguments bound -/
def Binds (w : World) (fd : FuncData) (names : List Str) (ps ps' : List FP) : Prop := ∀ (A : Around) (s : Shared) (vs : List Value) (S : List Addr), Live S s.heap → AllH (hideAll s.heap S) vs ps →
  wpAny (MM w) A (bindArgs fd ⟨vs, []⟩) (fun binds s₁ => ∃ vs', binds = names.zip vs' ∧ names.length = vs'.length ∧ Kp s s₁ ∧ AllH (hideAll s₁.heap S) vs' ps') NoE s
theorem Binds.plain {w : World} {fd : FuncData} {names : List Str} {ps : List FP} (hlen : names.length = ps.length) (h : ∀ vs : List Value, vs.length = ps.length → bindArgs fd ⟨vs, []⟩ = pure (names.zip vs)) : Binds w fd names ps ps :=
  fun A s vs S _ ha => by
    rw [h vs ha.length]
    exact wpAny_pure ⟨vs, rfl, hlen.trans ha.length.symm, Kp.rfl', ha⟩

theorem Fn.enterG {w : World} {k : Nat} {f : Addr} {fd : FuncData} {body : List Stmt} {names : List Str} {ps ps' : List FP} {r : FP} (D : DefAt w f fd body) (hnd : names.Nodup)
    (hown : ∀ x ∈ names, ownName fd x = true) (hbind : Binds w fd names ps ps')
    (h : ∀ (A : Around) (L : Addr) (S : List Addr) (s₀ s : Shared), Room k A → Fs ⟨w, k, s₀, callEnvC fd L f, S⟩ s₀.heap S (names.zip ps') [] s →
      Run w A (execs body (callEnvC fd L f)) (Ret ⟨w, k, s₀, callEnvC fd L f, S⟩ r) s) : Fn w (k + 1) (.ref f) ps r := .mk fun A s vs S R hb ht hl ha => by
  obtain ⟨oc, od, sl, lk⟩ := D.look
  obtain ⟨mg, mb, T⟩ := hb.top
  refine wpAny_call (codeAny_call_function R.room (hb.kin _ _ lk) rfl D.co D.gen D.body (codeRec_of hb.kin D.code) ?_)
  refine wpAny_mono (hbind _ s vs S hl ha) (fun binds s₁ hbs => ?_) fun _ _ x => x.elim
  obtain ⟨vs', rfl, hlen, ks, ha'⟩ := hbs
  rw [D.clo]
  refine wpAny_with_toks (n := s₁.toks) (Nat.le_refl _) (wpAny_newFunctionEnv_cells D.kind (fun x hx => ?_) fun env he s₂ x ht₂ => ?_)
  · have := hown x.1 (List.of_mem_zip (a := x.1) (b := x.2) hx).1
    rcases storeOk_of (L := s₁.heap.objs.size) (a := f) this with h | ⟨h, c, hc⟩
    · exact .inl h
    · exact .inr ⟨h, by rw [show (cellsFrom (s₁.heap.objs.size + 1) fd.scope.names []).lookup x.1 = some c from hc]; rfl⟩
  · subst he
    refine ⟨(T.nolimit.keeps (keeps_sub ks)).keeps x.toInCall.keep, codeAny_func ?_⟩
    exact wpAny_mono (h _ _ S s s₂ R.deeper (enter_fs D hb ht hl ks hlen hnd hown ha' x ht₂)).go (fun fl s' hr => hr) fun _ _ x => x.elim

theorem Fn.enter {w : World} {k : Nat} {f : Addr} {fd : FuncData} {body : List Stmt} {names : List Str} {ps : List FP} {r : FP} (D : DefAt w f fd body) (hlen : names.length = ps.length) (hnd : names.Nodup)
    (hown : ∀ x ∈ names, ownName fd x = true) (hbind : ∀ vs : List Value, vs.length = ps.length → bindArgs fd ⟨vs, []⟩ = pure (names.zip vs))
    (h : ∀ (A : Around) (L : Addr) (S : List Addr) (s₀ s : Shared), Room k A → Fs ⟨w, k, s₀, callEnvC fd L f, S⟩ s₀.heap S (names.zip ps) [] s →
      Run w A (execs body (callEnvC fd L f)) (Ret ⟨w, k, s₀, callEnvC fd L f, S⟩ r) s) : Fn w (k + 1) (.ref f) ps r := Fn.enterG D hnd hown (Binds.plain hlen hbind) h
end Mine
namespace Mine

def P0 : Params := { strHash := fun _ => 0, shareClass := fun _ => 0, mergeTok := id, idOf := fun _ => 0, idOfShared := fun _ _ => 0, followText := fun _ => false, idOfImm := fun _ => 0 }
noncomputable def fdAt (a : Addr) : FuncData := match (hd.heap_39 P0).lookup a with
  | some ⟨_, _, .func fd, _⟩ => fd
  | _ => default
noncomputable def bodyAt (a : Addr) : List Stmt := match (fdAt a).body with
  | .stmts b => b
  | _ => []

theorem def_28 (w : World) : DefAt w 28 (fdAt 28) (bodyAt 28) := ⟨⟨_, _, _, rfl⟩, by rfl, rfl, rfl, rfl, rfl, rfl, rfl, rfl, by decide⟩

def slt (x y : Str) : Bool := decide (x.cps.toList < y.cps.toList)
def cmp3 (x y : Str) : Int := b2i (slt y x) - b2i (slt x y)

section
variable {C : Cx}
theorem Op2.gt_str {x y : Str} : Op2 C (compareOp .Gt) (TStr x) (TStr y) (TBool (slt y x)) := .mk fun A s v u R X hv hu => by
  obtain ⟨t, rfl⟩ := hv; obtain ⟨t', rfl⟩ := hu
  exact P.gt_str ⟨Kp.rfl', rfl⟩
theorem Op2.lt_str {x y : Str} : Op2 C (compareOp .Lt) (TStr x) (TStr y) (TBool (slt x y)) := .mk fun A s v u R X hv hu => by
  obtain ⟨t, rfl⟩ := hv; obtain ⟨t', rfl⟩ := hu
  exact P.lt_str ⟨Kp.rfl', rfl⟩
theorem Op2.sub_bool {x y : Bool} : Op2 C (binaryOp .Sub) (TBool x) (TBool y) (TInt (b2i x - b2i y)) := .mk fun A s v u R X hv hu => by
  cases hv; cases hu
  exact PyProof.Rows.sub_bool ⟨Kp.toks, _, rfl⟩
end

theorem fn_cmp3 (w : World) (k : Nat) (x y : Str) : Fn w (k + 1) (.ref 28) [TStr x, TStr y] (TInt (cmp3 x y)) := by
  refine Fn.enter (names := [Str.ofString "x", Str.ofString "y"]) (def_28 w) rfl (by decide) (by decide) (fun vs hv => ?_) fun A L S s₀ s R H => ?_
  · obtain ⟨a, b, rfl⟩ := args2 hv; rfl
  · refine ex_return H R (Ev.bin (Ev.cmp (Ev.var (.head _)) (Ev.var (.tail _ (.head _))) Op2.gt_str) (Ev.cmp (Ev.var (.head _)) (Ev.var (.tail _ (.head _))) Op2.lt_str) Op2.sub_bool) fun v s' H' hp => ?_
    exact H'.ret hp
end Mine
namespace Mine

theorem AllH.one {h : Heap} {vs p} (x : AllH h vs [p]) : ∃ v, vs = [v] ∧ p.holds h v := by
  cases x with
  | cons a b => cases b with
    | nil => exact ⟨_, rfl, a⟩
theorem AllH.two {h : Heap} {vs p q} (x : AllH h vs [p, q]) : ∃ v u, vs = [v, u] ∧ p.holds h v ∧ q.holds h u := by
  cases x with
  | cons a b => obtain ⟨u, rfl, c⟩ := b.one; exact ⟨_, u, rfl, a, c⟩
theorem AllH.three {h : Heap} {vs p q r} (x : AllH h vs [p, q, r]) : ∃ v u z, vs = [v, u, z] ∧ p.holds h v ∧ q.holds h u ∧ r.holds h z := by
  cases x with
  | cons a b => obtain ⟨u, z, rfl, c, d⟩ := b.two; exact ⟨_, u, z, rfl, a, c, d⟩

theorem lst_at {h : Heap} {S : List Addr} {v : Value} {ps : List FP} (x : (TLst ps).holds (hideAll h S) v) : ∃ a vs, v = .ref a ∧ h.IsList a vs ∧ a ∉ S ∧ AllH (hideAll h S) vs.toList ps := by
  obtain ⟨a, vs, rfl, ⟨o, ho, r⟩, y⟩ := x
  obtain ⟨h1, h2⟩ := (hide_get ..).1 ho
  exact ⟨a, vs, rfl, ⟨o, h1, r⟩, h2, y⟩
theorem tup_at {h : Heap} {S : List Addr} {v : Value} {ps : List FP} (x : (TTup ps).holds (hideAll h S) v) : ∃ a vs, v = .ref a ∧ IsTup h a vs ∧ a ∉ S ∧ AllH (hideAll h S) vs.toList ps := by
  obtain ⟨a, vs, rfl, ⟨o, ho, r⟩, y⟩ := x
  obtain ⟨h1, h2⟩ := (hide_get ..).1 ho
  exact ⟨a, vs, rfl, ⟨o, h1, r⟩, h2, y⟩

/-- all values of the kind p are of the type T -/
def OfType (p : FP) (T : String) : Prop := ∀ (s : Shared) (S : List Addr) (v : Value), p.holds (hideAll s.heap S) v → s.TypeIs v T
theorem OfType.str {x : Str} : OfType (TStr x) "str" := fun s S v ⟨t, e⟩ => by subst e; exact typeIs_str _ _ _
theorem OfType.lst {ps : List FP} : OfType (TLst ps) "list" := fun s S v h => by obtain ⟨a, vs, rfl, hl, _, _⟩ := lst_at h; exact hl.typeIs
theorem OfType.tup {ps : List FP} : OfType (TTup ps) "tuple" := fun s S v h => by obtain ⟨a, vs, rfl, ⟨o, ho, hc, _⟩, _, _⟩ := tup_at h; exact ⟨o, ho, hc⟩

section
variable {C : Cx} {p q r : FP} {e l x y : Expr} {pos np : Pos} {w : World} {k : Nat} {prog : Program} {A : Around} {E : Value → Shared → Prop} {s : Shared}

/-! #### subscripts -/
theorem Ev.sub {T id : String} (h1 : Ev C l p) (h2 : Ev C x q) (hT : OfType p T) (hl : typeLookup (.type T) "__getitem__" = pure (some (.builtin id))) (hop : Op2 C getItem p q r)
    (hs : ∀ o i, ∃ ops, subscripted x false o i = operate ops (getItem o i) := by intro _ _; exact ⟨_, rfl⟩) : Ev C (.Subscript l x pos) r := .mk fun A s R X =>
  Subscript_ ((h1.go A s R X).use fun v s₁ k₁ a => ((h2.go A s₁ R (X.keeps k₁)).use fun u s₂ k₂ b => by
    have a' := p.stab (hide_mono (keeps_sub k₂)) a
    obtain ⟨ops, hs⟩ := hs v u
    exact tail_any (hT _ _ _ a') hl ((hop.go A s₂ v u R (X.keeps (Kp.trans' k₁ k₂)) a' b).after (Kp.trans' k₁ k₂)) hs))

theorem Op2.item {ps : List FP} {i : Int} {p : FP} (h0 : 0 ≤ i) (hb : i < 2 ^ 63) (hp : ps[i.toNat]? = some p) : Op2 C getItem (TLst ps) (TInt i) p := .mk fun A s v u R X hv hu => by
  obtain ⟨t, rfl⟩ := hu
  obtain ⟨a, vs, rfl, hl, _, hA⟩ := lst_at hv
  obtain ⟨z, hz, hpz⟩ := hA.get i.toNat hp
  exact wpAny_getItem_list hl h0 hb (by simpa using hz) ⟨Kp.rfl', hpz⟩
theorem Ev.item {ps : List FP} {i : Int} {p : FP} (h1 : Ev C l (TLst ps)) (h2 : Ev C x (TInt i)) (h0 : 0 ≤ i) (hb : i < 2 ^ 63) (hp : ps[i.toNat]? = some p)
    (hs : ∀ o i, ∃ ops, subscripted x false o i = operate ops (getItem o i) := by intro _ _; exact ⟨_, rfl⟩) : Ev C (.Subscript l x pos) p := Ev.sub h1 h2 OfType.lst slot_list_getitem.lookup (Op2.item h0 hb hp) hs

def TSlice (lo hi st : Option Int) : FP := ⟨fun h v => ∃ a vl vu vs, v = .ref a ∧ h.IsSliceOf a vl vu vs ∧ IsPart vl lo ∧ IsPart vu hi ∧ IsPart vs st,
  fun k ⟨a, vl, vu, vs, e, ⟨o, ho, r⟩, y⟩ => ⟨a, vl, vu, vs, e, ⟨o, k _ _ ho, r⟩, y⟩⟩
inductive EvP (C : Cx) : Option Expr → Option Int → Prop where
  | none : EvP C none none
  | some {e i} : Ev C e (TInt i) → EvP C (some e) (some i)
theorem EvP.use {o : Option Expr} {i : Option Int} (h : EvP C o i) {G : Value → Shared → Prop} (R : Room C.k A) (X : Xs C s) (k : ∀ v s', Kp s s' → IsPart v i → G v s') : wpAny (MM C.w) A (evalPart o C.env) G NoE s := by
  cases h with
  | none => rw [evalPart_none]; exact wpAny_pure (k _ _ Kp.rfl' .none)
  | some he => exact (wpAny_mono (he.go A s R X) (fun v s' ⟨a, b⟩ => by obtain ⟨t, rfl⟩ := b; exact k _ _ a (.int _ _)) fun _ _ x => x)
theorem Ev.slice {lower upper step : Option Expr} {lo hi st : Option Int} (h1 : EvP C lower lo) (h2 : EvP C upper hi) (h3 : EvP C step st) : Ev C (.Slice lower upper step pos) (TSlice lo hi st) := .mk fun A s R X => by
  refine wpAny_Slice (h1.use R X fun vl s₁ k₁ p1 => h2.use R (X.keeps k₁) fun vu s₂ k₂ p2 => h3.use R (X.keeps (Kp.trans' k₁ k₂)) fun vs s₃ k₃ p3 => ?_)
  have k := Kp.trans' (Kp.trans' k₁ k₂) k₃
  exact ⟨Kp.trans' k (Kp.mk' (push_sub _ _)), _, vl, vu, vs, rfl, ⟨_, hide_push (X.live.stab (keeps_sub k)) rfl, rfl, rfl⟩, p1, p2, p3⟩

theorem Op2.pick {ps ps' : List FP} {lo hi st : Option Int} (hst : st ≠ some 0) (hz : ps.length ≤ 100000) (hp : ∀ h vs, AllH h vs ps → AllH h (slicePick vs.toArray lo hi st).toList ps') : Op2 C getItem (TLst ps) (TSlice lo hi st) (TLst ps') := .mk fun A s v u R X hv hu => by
  obtain ⟨a, vs, rfl, hl, _, hA⟩ := lst_at hv
  obtain ⟨b, vl, vu, vt, rfl, ⟨o, ho, r⟩, p1, p2, p3⟩ := hu
  have hlen := hA.length
  refine wpAny_getItem_list_slice hl ⟨o, of_hideAll _ ho, r⟩ p1 p2 p3 hst ⟨Kp.mk' (push_sub _ _), _, _, rfl, ⟨_, hide_push X.live rfl, rfl, _, rfl⟩, ?_⟩ (by rw [sizeLine_eq]; rw [Array.length_toList] at hlen; omega)
  have := hp _ _ (hA.stab (hide_mono (push_sub s.heap { cls := .type "list", data := .seq (slicePick vs lo hi st) })))
  simpa using this
theorem pick_from {ps : List FP} {i : Int} (h0 : 0 ≤ i) : ∀ h vs, AllH h vs ps → AllH h (slicePick vs.toArray (some i) none none).toList (ps.drop i.toNat) := fun h vs a => by
  obtain ⟨n, rfl⟩ := Int.eq_ofNat_of_zero_le h0
  rw [slicePick_from']; simpa using a.drop n
theorem pick_upto {ps : List FP} {i : Int} (h0 : 0 ≤ i) : ∀ h vs, AllH h vs ps → AllH h (slicePick vs.toArray none (some i) none).toList (ps.take i.toNat) := fun h vs a => by
  obtain ⟨n, rfl⟩ := Int.eq_ofNat_of_zero_le h0
  rw [slicePick_upto']; simpa using a.take n
theorem Ev.from {ps : List FP} {i : Int} {np : Pos} (h1 : Ev C l (TLst ps)) (h2 : Ev C x (TInt i)) (h0 : 0 ≤ i) (hz : ps.length ≤ 100000) : Ev C (.Subscript l (.Slice (some x) none none np) pos) (TLst (ps.drop i.toNat)) :=
  Ev.sub h1 (Ev.slice (.some h2) .none .none) OfType.lst slot_list_getitem.lookup (Op2.pick (by simp) hz (pick_from h0))
theorem Ev.upto {ps : List FP} {i : Int} {np : Pos} (h1 : Ev C l (TLst ps)) (h2 : Ev C x (TInt i)) (h0 : 0 ≤ i) (hz : ps.length ≤ 100000) : Ev C (.Subscript l (.Slice none (some x) none np) pos) (TLst (ps.take i.toNat)) :=
  Ev.sub h1 (Ev.slice .none (.some h2) .none) OfType.lst slot_list_getitem.lookup (Op2.pick (by simp) hz (pick_upto h0))
end
end Mine
namespace Mine
section
variable {C : Cx} {p q r : FP} {e l x y : Expr} {pos np apos : Pos} {w : World} {k : Nat} {prog : Program} {A : Around} {E : Value → Shared → Prop} {s : Shared}

theorem keeps_toks {s : Shared} {n : Nat} : Keeps s { s with toks := n } := ⟨s.heap, n, rfl, fun _ _ e => e⟩
theorem Does.up {t : Sem Value} (h : wpAny (MM C.w) A t (fun v s' => Keeps s s' ∧ p.holds (hideAll s'.heap C.S) v) NoE s) : Does C t p A s := upK h

theorem Op2.add_int {a b : Int} : Op2 C (binaryOp .Add) (TInt a) (TInt b) (TInt (a + b)) := .mk fun A s v u R X ⟨_, hv⟩ ⟨_, hu⟩ => by
  subst hv hu; exact PyProof.Rows.add_int ⟨Kp.toks, _, rfl⟩
theorem Op2.sub_int {a b : Int} : Op2 C (binaryOp .Sub) (TInt a) (TInt b) (TInt (a - b)) := .mk fun A s v u R X ⟨_, hv⟩ ⟨_, hu⟩ => by
  subst hv hu; exact PyProof.Rows.sub_int ⟨Kp.toks, _, rfl⟩
theorem Op2.mod_int {a b : Int} (hb : b ≠ 0) : Op2 C (binaryOp .Mod) (TInt a) (TInt b) (TInt (a.fmod b)) := .mk fun A s v u R X ⟨_, hv⟩ ⟨_, hu⟩ => by
  subst hv hu; exact PyProof.Rows.mod_int hb ⟨Kp.toks, _, rfl⟩
theorem Op2.div_int {a b : Int} (hb : b ≠ 0) (hp : Builtin.divisionGoesByPylong a b = false) : Op2 C (binaryOp .FloorDiv) (TInt a) (TInt b) (TInt (a.fdiv b)) := .mk fun A s v u R X ⟨_, hv⟩ ⟨_, hu⟩ => by
  subst hv hu; exact PyProof.Rows.floordiv_int hb ⟨Kp.toks, _, rfl⟩ (.inl hp)
theorem Op2.iadd_int {a b : Int} : Op2 C (inplaceOp .Add) (TInt a) (TInt b) (TInt (a + b)) := .mk fun A s v u R X ⟨_, hv⟩ ⟨_, hu⟩ => by
  subst hv hu; exact PyProof.Rows.iadd_int ⟨Kp.toks, _, rfl⟩
theorem Op2.eq_int {a b : Int} : Op2 C (compareOp .Eq) (TInt a) (TInt b) (TBool (a == b)) := .mk fun A s v u R X ⟨_, hv⟩ ⟨_, hu⟩ => by
  subst hv hu; exact PyProof.Rows.eq_int ⟨Kp.rfl', rfl⟩
theorem Op2.ne_int {a b : Int} : Op2 C (compareOp .NotEq) (TInt a) (TInt b) (TBool (a != b)) := .mk fun A s v u R X ⟨_, hv⟩ ⟨_, hu⟩ => by
  subst hv hu; exact PyProof.Rows.ne_int ⟨Kp.rfl', rfl⟩
theorem Op2.lt_int {a b : Int} : Op2 C (compareOp .Lt) (TInt a) (TInt b) (TBool (decide (a < b))) := .mk fun A s v u R X ⟨_, hv⟩ ⟨_, hu⟩ => by
  subst hv hu; exact PyProof.Rows.lt_int ⟨Kp.rfl', rfl⟩
theorem Op1.neg_int {a : Int} : Op1 C (unaryOp .USub) (TInt a) (TInt (-a)) := .mk fun A s v R X ⟨_, hv⟩ => by
  subst hv; exact PyProof.Rows.neg_int ⟨Kp.toks, _, rfl⟩
theorem Op2.add_str {a b : Str} (hz : a.length + b.length ≤ 1000000) : Op2 C (binaryOp .Add) (TStr a) (TStr b) (TStr (a ++ b)) := .mk fun A s v u R X ⟨_, hv⟩ ⟨_, hu⟩ => by
  subst hv hu; exact Does.up (PyProof.Rows.add_str (fun t' tk => ⟨keeps_toks, _, rfl⟩) (by rw [sizeLine_eq]; omega))
theorem Op2.iadd_str {a b : Str} (hz : a.length + b.length ≤ 1000000) : Op2 C (inplaceOp .Add) (TStr a) (TStr b) (TStr (a ++ b)) := .mk fun A s v u R X ⟨_, hv⟩ ⟨_, hu⟩ => by
  subst hv hu; exact Does.up (PyProof.Rows.iadd_str (fun t' tk => ⟨keeps_toks, _, rfl⟩) (by rw [sizeLine_eq]; omega))
theorem Op2.in_str {a b : Str} : Op2 C (compareOp .In) (TStr a) (TStr b) (TBool (Txt.contains b a)) := .mk fun A s v u R X ⟨_, hv⟩ ⟨_, hu⟩ => by
  subst hv hu; exact PyProof.Rows.in_str ⟨Kp.rfl', rfl⟩
theorem Op2.eq_str {a b : Str} : Op2 C (compareOp .Eq) (TStr a) (TStr b) (TBool (a == b)) := .mk fun A s v u R X ⟨_, hv⟩ ⟨_, hu⟩ => by
  subst hv hu; exact PyProof.Rows.eq_str ⟨Kp.rfl', rfl⟩
theorem Op2.ne_str {a b : Str} : Op2 C (compareOp .NotEq) (TStr a) (TStr b) (TBool (a != b)) := .mk fun A s v u R X ⟨_, hv⟩ ⟨_, hu⟩ => by
  subst hv hu; exact PyProof.Rows.ne_str ⟨Kp.rfl', rfl⟩
theorem Op2.le_str {a b : Str} : Op2 C (compareOp .LtE) (TStr a) (TStr b) (TBool (!slt b a)) := .mk fun A s v u R X ⟨_, hv⟩ ⟨_, hu⟩ => by
  subst hv hu; exact P.le_str ⟨Kp.rfl', by simp [TBool, slt]⟩
theorem Op2.rev {ps : List FP} (hz : ps.length ≤ 100000) : Op2 C getItem (TLst ps) (TSlice none none (some (-1))) (TLst ps.reverse) :=
  Op2.pick (by simp) hz fun h vs a => by rw [krv_pick]; simpa using a.reverse
theorem Ev.rev {ps : List FP} {k : Nat} {p1 p2 p3 : Pos} (h1 : Ev C l (TLst ps)) (hz : ps.length ≤ 100000) : Ev C (.Subscript l (.Slice none none (some (.UnaryOp .USub (.Constant (.int 1) k p1) p2)) p3) pos) (TLst ps.reverse) :=
  Ev.sub h1 (Ev.slice EvP.none EvP.none (EvP.some (Ev.un Ev.cint Op1.neg_int))) OfType.lst slot_list_getitem.lookup (Op2.rev hz)
theorem Op2.sfrom {a : Str} {i : Int} (hz : a.length ≤ 1000000) : Op2 C getItem (TStr a) (TSlice (some i) none none) (TStr (Txt.slice a (some i) none)) := .mk fun A s v u R X ⟨t, hv⟩ hu => by
  subst hv
  obtain ⟨b, vl, vu, vt, rfl, ⟨o, ho, r⟩, p1, p2, p3⟩ := hu
  cases p1 with | int i t1 => ?_
  cases p2
  cases p3
  refine Does.up (wpAny_getItem_str_slice (l := some (i, t1)) (u := none) (st := none) ⟨o, of_hideAll _ ho, r⟩ rfl (post_val_or_str ⟨Nat.le_trans (Txt.slice_le a _ _) (by rw [sizeLine_eq]; omega), fun t' k => ⟨keeps_toks, _, rfl⟩⟩))

/-! #### methods -/
theorem Ev.meth {T id : String} {name : Str} {es : List Expr} {ps : List FP} (ho : Ev C l p) (ha : EvL C pos (x :: es) ps) (slot : Slot T name id) (pa : PlainAttrs T)
    (hty : typeOf (.builtin id) = pure (.type "method_descriptor")) (hT : OfType p T) (hd : ∀ (s : Shared) (S : List Addr) a, p.holds (hideAll s.heap S) (.ref a) → ∃ ob, s.heap.get? a = some ob ∧ ob.dict = none)
    (hF : Fn C.w C.k (.builtin id) (p :: ps) r)
    (hline : (apos.endLine == pos.line) = true := by rfl) (hbase : ∀ env, attributeBase l name env (eval l env) = eval l env := by intro _; rfl)
    (he : ∀ env, starEach (x :: es) env = (false, eval x env) :: starEach es env := by intro _; rfl) (hp : (backTo pos (starEach es C.env)).any (·.1) = false := by rfl)
    (hfew : ((backTo pos (starEach (x :: es) C.env)).all (fun x => !x.1) && (backToKw pos (keywordEach [] C.env)).all (fun x => x.1.isSome)
      && decide ((x :: es).length + ([] : List Keyword).length + (if ([] : List Keyword).isEmpty then 0 else 1) < 30)) = true := by rfl) :
    Ev C (.Call (.Attribute l name apos) (x :: es) [] pos) r := .mk fun A s R X => by
  refine wpAny_Call_method_lateS (hbase _) hfew hline ((ho.go A s R X).use fun v s₁ k₁ hv => ?_)
  have X₁ := X.keeps k₁
  refine ⟨T, id, pa, slot, hty, hT _ _ _ hv, fun a e => hd _ _ a (e ▸ hv), ?_⟩
  have h := wpAny_mono (ha.go A s₁ R X₁) (fun vs s₂ (y : Kp s₁ s₂ ∧ AllH (hideAll s₂.heap C.S) vs ps) => (wpAny_mono (hF.go A s₂ (v :: vs) C.S R (X₁.keeps y.1).base (X₁.keeps y.1).tok (X₁.keeps y.1).live (.cons (p.stab (hide_mono (keeps_sub y.1)) hv) y.2))
    (fun _ _ (z : _ ∧ _) => (⟨Kp.trans' k₁ (Kp.trans' y.1 z.1), z.2⟩ : Kp s _ ∧ _)) fun _ _ x => x)) fun _ _ x => x
  rw [he] at h ⊢
  exact callWith_builtin (by show (false || (backTo pos (starEach es C.env)).any (·.1)) = false; rw [hp]; rfl) (evalArgs_plain h)
theorem notRef_str {a : Str} : ∀ (s : Shared) (S : List Addr) b, (TStr a).holds (hideAll s.heap S) (.ref b) → ∃ ob, s.heap.get? b = some ob ∧ ob.dict = none := fun s S b ⟨t, e⟩ => by cases e

theorem b_startswith {a b : Str} : Fn w k (.builtin "str.startswith") [TStr a, TStr b] (TBool (Txt.startswith a b)) := .mk fun A s vs S R hb ht hl ha => by
  obtain ⟨v, u, rfl, ⟨_, rfl⟩, ⟨_, rfl⟩⟩ := ha.two
  exact SC.startswith ⟨Kp.rfl', rfl⟩
theorem b_endswith {a b : Str} : Fn w k (.builtin "str.endswith") [TStr a, TStr b] (TBool (Txt.endswith a b)) := .mk fun A s vs S R hb ht hl ha => by
  obtain ⟨v, u, rfl, ⟨_, rfl⟩, ⟨_, rfl⟩⟩ := ha.two
  exact SC.endswith ⟨Kp.rfl', rfl⟩
theorem b_rfind {a b : Str} : Fn w k (.builtin "str.rfind") [TStr a, TStr b] (TInt (Txt.rfind a b)) := .mk fun A s vs S R hb ht hl ha => by
  obtain ⟨v, u, rfl, ⟨_, rfl⟩, ⟨_, rfl⟩⟩ := ha.two
  exact SC.rfind ⟨Kp.toks, _, rfl⟩
theorem Ev.startswith {a b : Str} (ho : Ev C l (TStr a)) (ha : EvL C pos [x] [TStr b]) (hline : (apos.endLine == pos.line) = true := by rfl) (hbase : ∀ env, attributeBase l "startswith" env (eval l env) = eval l env := by intro _; rfl)
    (he : ∀ env, starEach [x] env = (false, eval x env) :: starEach [] env := by intro _; rfl)
    (hfew : ((backTo pos (starEach [x] C.env)).all (fun x => !x.1) && (backToKw pos (keywordEach [] C.env)).all (fun x => x.1.isSome)
      && decide ([x].length + ([] : List Keyword).length + (if ([] : List Keyword).isEmpty then 0 else 1) < 30)) = true := by rfl) : Ev C (.Call (.Attribute l "startswith" apos) [x] [] pos) (TBool (Txt.startswith a b)) :=
  Ev.meth ho ha F.slot_str_startswith F.plainAttrs_str F.type_str_startswith OfType.str notRef_str b_startswith hline hbase he rfl hfew
theorem Ev.endswith {a b : Str} (ho : Ev C l (TStr a)) (ha : EvL C pos [x] [TStr b]) (hline : (apos.endLine == pos.line) = true := by rfl) (hbase : ∀ env, attributeBase l "endswith" env (eval l env) = eval l env := by intro _; rfl)
    (he : ∀ env, starEach [x] env = (false, eval x env) :: starEach [] env := by intro _; rfl)
    (hfew : ((backTo pos (starEach [x] C.env)).all (fun x => !x.1) && (backToKw pos (keywordEach [] C.env)).all (fun x => x.1.isSome)
      && decide ([x].length + ([] : List Keyword).length + (if ([] : List Keyword).isEmpty then 0 else 1) < 30)) = true := by rfl) : Ev C (.Call (.Attribute l "endswith" apos) [x] [] pos) (TBool (Txt.endswith a b)) :=
  Ev.meth ho ha F.slot_str_endswith F.plainAttrs_str F.type_str_endswith OfType.str notRef_str b_endswith hline hbase he rfl hfew
theorem Ev.rfind {a b : Str} (ho : Ev C l (TStr a)) (ha : EvL C pos [x] [TStr b]) (hline : (apos.endLine == pos.line) = true := by rfl) (hbase : ∀ env, attributeBase l "rfind" env (eval l env) = eval l env := by intro _; rfl)
    (he : ∀ env, starEach [x] env = (false, eval x env) :: starEach [] env := by intro _; rfl)
    (hfew : ((backTo pos (starEach [x] C.env)).all (fun x => !x.1) && (backToKw pos (keywordEach [] C.env)).all (fun x => x.1.isSome)
      && decide ([x].length + ([] : List Keyword).length + (if ([] : List Keyword).isEmpty then 0 else 1) < 30)) = true := by rfl) : Ev C (.Call (.Attribute l "rfind" apos) [x] [] pos) (TInt (Txt.rfind a b)) :=
  Ev.meth ho ha F.slot_str_rfind F.plainAttrs_str F.type_str_rfind OfType.str notRef_str b_rfind hline hbase he rfl hfew
/-- text.replace(y, z), both written -/
theorem replace_does {a : Str} {y z : Str} {k1 k2 : Nat} {q1 q2 : Pos} (ho : Ev C l (TStr a)) (hyz : (y == z) = false) (hx : a.length ≤ 1000) (hz : z.length ≤ 14) {A : Around} {s : Shared} (R : Room C.k A) (X : Xs C s) (ht : 0 < s.toks) (hline : (apos.endLine == pos.line) = true := by rfl) (hbase : ∀ env, attributeBase l "replace" env (eval l env) = eval l env := by intro _; rfl) :
    Does C (eval (.Call (.Attribute l "replace" apos) [.Constant (.str y) k1 q1, .Constant (.str z) k2 q2] [] pos) C.env) (TStr (Txt.replace a y z)) A s := by
  refine wpAny_Call_method_lateS (hbase _) rfl hline ((ho.go A s R X).use fun v s₁ k₁ hv => ?_)
  have X₁ := X.keeps k₁
  obtain ⟨t, rfl⟩ := hv
  refine ⟨"str", "str.replace", F.plainAttrs_str, F.slot_str_replace, F.type_str_replace, typeIs_str _ _ _, (fun b e => nomatch e), ?_⟩
  refine callWith_builtin rfl (evalArgs_plain (spliced_cons (Constant_str (k := k1) (pos := q1) (spliced_cons (Constant_str (k := k2) (pos := q2) (spliced_nil ?_))))))
  have ht := Nat.lt_of_lt_of_le ht k₁.2
  refine wpAny_with_toks (n := s₁.toks) (by dsimp only; omega) (SC.replaceW (u := s₁.toks) (v := s₁.toks + 1) (Nat.ne_of_gt ht) (Nat.succ_ne_zero _) (Nat.ne_of_lt (Nat.lt_succ_self _)) hyz (by omega) hz fun t' k hk => ⟨Kp.trans' k₁ ?_, _, rfl⟩)
  exact Kp.toks hk
/-- "y" in text; behind it a text has been made -/
theorem tt_in {a y : Str} {n : Str} {k0 : Nat} {p0 p1 : Pos} (h : (n, TStr a) ∈ C.ρ) {A : Around} {s : Shared} (R : Room C.k A) (X : Xs C s) (hd : (n == ("__debug__" : Str)) = false := by decide) :
    wpAny (MM C.w) A (isTrue (.Compare (.Constant (.str y) k0 p0) [.In] [.Name n p1] pos) C.env (eval (.Compare (.Constant (.str y) k0 p0) [.In] [.Name n p1] pos) C.env)) (fun b' s' => Kp s s' ∧ 0 < s'.toks ∧ b' = Txt.contains a y) NoE s :=
  wpAny_isTrue_Compare1 (Constant_str (k := k0) (pos := p0) (((Ev.var h hd).go A _ R (X.keeps Kp.toks)).use fun u s₂ k₂ b' =>
    ((Op2.in_str (C := C)).go A s₂ _ u R (X.keeps (Kp.trans' Kp.toks k₂)) ⟨_, rfl⟩ b').use fun c s₃ k₃ hc => by
      cases hc
      exact wpAny_truthy_bool ⟨Kp.trans' (Kp.trans' Kp.toks k₂) k₃, Nat.lt_of_lt_of_le (Nat.succ_pos _) (Nat.le_trans k₂.2 k₃.2), rfl⟩)) (by with_unfolding_all rfl)
end
end Mine
namespace Mine
theorem ofS_inj {a b : String} : Str.ofString a = Str.ofString b ↔ a = b := by
  constructor
  · intro h
    rw [Str.ofString_eq_toList, Str.ofString_eq_toList] at h
    have h1 : a.toList.map Char.toNat = b.toList.map Char.toNat := by injection h with h; simpa using h
    have h2 : a.toList = b.toList := by
      refine List.map_inj_right (f := Char.toNat) (fun x y e => ?_) |>.mp h1
      exact Char.ext (UInt32.toNat_inj.mp e)
    exact String.toList_inj.mp h2
  · rintro rfl; rfl
local macro_rules | `(tactic| o_facts $Y) => `(tactic| simp only [drp, ofS_inj, String.reduceEq, if_false, if_true, List.zip_cons_cons, List.zip_nil_left, List.zip_nil_right] at $Y:ident)
local macro_rules | `(tactic| walk_at "mem") => `(tactic| first | with_reducible exact List.mem_cons_self | (with_reducible refine List.mem_cons_of_mem _ ?_; walk_at "mem"))

theorem def_101 (w : World) : DefAt w 101 (fdAt 101) (bodyAt 101) := ⟨⟨_, _, _, rfl⟩, by rfl, rfl, rfl, rfl, rfl, rfl, rfl, rfl, by decide⟩
theorem def_115 (w : World) : DefAt w 115 (fdAt 115) (bodyAt 115) := ⟨⟨_, _, _, rfl⟩, by rfl, rfl, rfl, rfl, rfl, rfl, rfl, rfl, by decide⟩
theorem def_122 (w : World) : DefAt w 122 (fdAt 122) (bodyAt 122) := ⟨⟨_, _, _, rfl⟩, by rfl, rfl, rfl, rfl, rfl, rfl, rfl, rfl, by decide⟩
theorem def_129 (w : World) : DefAt w 129 (fdAt 129) (bodyAt 129) := ⟨⟨_, _, _, rfl⟩, by rfl, rfl, rfl, rfl, rfl, rfl, rfl, rfl, by decide⟩
theorem g_101 (w : World) : nsIn (KK w) mainGlobals (Str.ofString "fspath") = some (some (.ref 101)) := by rfl
theorem g_115 (w : World) : nsIn (KK w) mainGlobals (Str.ofString "_get_sep") = some (some (.ref 115)) := by rfl
theorem k_101 (w : World) : keepIn (KK w) (.ref 101) = true := by rfl
theorem k_115 (w : World) : keepIn (KK w) (.ref 115) = true := by rfl
theorem n_type (w : World) : nsIn (KK w) mainGlobals (Str.ofString "type") = some none := by rfl
theorem n_issub (w : World) : nsIn (KK w) mainGlobals (Str.ofString "issubclass") = some none := by rfl
theorem n_isin (w : World) : nsIn (KK w) mainGlobals (Str.ofString "isinstance") = some none := by rfl
theorem n_str (w : World) : nsIn (KK w) mainGlobals (Str.ofString "str") = some none := by rfl
theorem n_bytes (w : World) : nsIn (KK w) mainGlobals (Str.ofString "bytes") = some none := by rfl
theorem bb_type : bootBuiltins (Str.ofString "type") = some (.type "type") := by kernel_rfl
theorem bb_issub : bootBuiltins (Str.ofString "issubclass") = some (.builtin "issubclass") := by kernel_rfl
theorem bb_isin : bootBuiltins (Str.ofString "isinstance") = some (.builtin "isinstance") := by kernel_rfl
theorem bb_str : bootBuiltins (Str.ofString "str") = some (.type "str") := by kernel_rfl
theorem bb_bytes : bootBuiltins (Str.ofString "bytes") = some (.type "bytes") := by kernel_rfl
section
variable {C : Cx} {w : World} {k : Nat} {prog : Program} {A : Around} {E : Value → Shared → Prop} {s : Shared}
theorem isub_str_str : isSubtype (.type "str") (.type "str") = pure true := by rw [isSubtype_type]; kernel_rfl
theorem kind_isn : builtinKind "issubclass.nested" = none := by decide +kernel
theorem plain_isn : plainId "issubclass.nested" = true := by decide +kernel
theorem args_isn (a b c : Value) : argsOk "issubclass.nested" ⟨[a, b, c], []⟩ := by unfold argsOk; kernel_rfl

theorem isn_str {j : Int} {tk : Tok} {Q : Fin → Shared → Prop} (hq : Q (.done (.ret (.bool true))) s) :
    wpAny (model prog w) A (Builtin.«issubclass.nested» ⟨[.type "str", .type "str", .int j tk], []⟩) Q E s := by
  have hself := isub_str_str
  have hm := F.isi_meta_str
  repeat (any_goals (first | assumption | (rw [hself]) | wp_step))

theorem isn_tuple {tp : Addr} {c : Value} {tk : Tok} {items : Array Value} {Q : Fin → Shared → Prop} (htp : IsTup s.heap tp items) (hi : items.toList = [.type "str", c])
    (hq : ∀ tk', Q (.done (.ret (.bool true))) { s with toks := tk' }) : wpAny (model prog w) A (Builtin.«issubclass.nested» ⟨[.type "str", .ref tp, .int 0 tk], []⟩) Q E s := by
  obtain ⟨o, ho, hc, n, hd⟩ := htp
  obtain ⟨oc, od, odd, osl⟩ := o
  simp only at hc hd
  subst hc hd
  obtain ⟨h, g, d, t, os⟩ := s
  have hT2 : (⟨h, g, d, t, os⟩ : Shared).TypeIs (.ref tp) "tuple" := ⟨_, ho, rfl⟩
  have f1 := F.isi_sub_tuple
  repeat (any_goals (first | assumption | wp_step))
  refine wpAny_arrayLoop ?_
  simp only [Option.getD_some, hi]
  rw [List.forIn_cons]
  refine wpAny_bind (wpAny_bind (call_function_meets kind_isn plain_isn (entry := F.entry_issubclass_nested) (args_isn _ _ _) (S := fun _ R s => R (.ok (.ret (.bool true))) s) (fun _ _ _ _ _ hs => isn_str hs) ?_))
  show wpAny _ _ (truthy (.bool true) >>= _) _ _ _
  refine wpAny_bind (m := truthy (.bool true)) (wpAny_pure ?_)
  refine wpAny_bind (wpAny_pure (wpAny_pure (wpAny_pure ?_)))
  repeat (any_goals (first | assumption | wp_step))
  exact hq _

theorem b_issub {q : FP} : Fn w k (.builtin "issubclass") [TVal (.type "str"), TTup [TVal (.type "str"), q]] (TBool true) := .mk fun A s vs S R hb ht hl ha => by
  obtain ⟨v, u, rfl, rfl, h2⟩ := ha.two
  obtain ⟨a, vs, rfl, hT, _, hA⟩ := tup_at h2
  obtain ⟨x, y, hv, rfl, _⟩ := hA.two
  exact upK (call_issubclass (S := fun _ R s => IsTup s.heap a vs ∧ ∀ tk', R (.ok (.ret (.bool true))) { s with toks := tk' }) (fun _ _ _ _ s hs => issubclass_outer (isn_tuple hs.1 hv hs.2)) ⟨hT, fun tk' => ⟨keeps_toks, rfl⟩⟩)
theorem b_type_str {a : Str} : Fn w k (.type "type") [TStr a] (TVal (.type "str")) := .mk fun A s vs S R hb ht hl ha => by
  obtain ⟨v, rfl, ⟨t, rfl⟩⟩ := ha.one
  exact call_type_of (Tx := "str") (typeIs_str _ _ _) (by decide +kernel) ⟨Kp.rfl', rfl⟩
theorem b_isin_bytes {a : Str} : Fn w k (.builtin "isinstance") [TStr a, TVal (.type "bytes")] (TBool false) := .mk fun A s vs S R hb ht hl ha => by
  obtain ⟨v, u, rfl, ⟨t, rfl⟩, rfl⟩ := ha.two
  exact IsiPair.str_bytes ⟨Kp.toks, rfl⟩
end

theorem fn_fspath (w : World) (k : Nat) (x : Str) : Fn w (k + 1) (.ref 101) [TStr x] (TStr x) := by
  refine Fn.enter (names := [Str.ofString "path"]) (def_101 w) rfl (by decide) (by decide) (fun vs hv => ?_) fun A L S s₀ s R H => ?_
  · obtain ⟨a, rfl⟩ := args1 hv; rfl
  · o_facts H
    refine ex_assign H R (Ev.call (Ev.builtin rfl (n_type _) bb_type) (.inr (.inr ⟨_, rfl⟩)) (EvL.cons (Ev.var (by walk_at "mem")) EvL.nil) b_type_str) (storeOk_of (by decide)) fun s₁ H₁ => ?_
    o_facts H₁
    refine ex_if (b := true) H₁ R (Tt.of_bool (Ev.call (Ev.builtin rfl (n_issub _) bb_issub) (.inr (.inl ⟨_, rfl⟩)) (EvL.cons (Ev.var (by walk_at "mem")) (EvL.cons (Ev.tuple (EvL.cons (Ev.builtin rfl (n_str _) bb_str) (EvL.cons (Ev.builtin rfl (n_bytes _) bb_bytes) EvL.nil))) EvL.nil)) b_issub) (fun _ _ => rfl)) fun s₂ H₂ => ?_
    refine ex_return H₂ R (Ev.var (by walk_at "mem")) fun v s' H' hp => ?_
    exact H'.ret hp
end Mine
namespace Mine

/-- e is walked: n items, the i-th of the kind q i -/
structure Src (C : Cx) (n : Nat) (q : Nat → FP) (e : Expr) : Prop where
  go : ∀ (A : Around) (s : Shared), Room C.k A → Xs C s →
  wpAny (MM C.w) A (eval e C.env) (fun xv s₁ => wpAny (MM C.w) A (pyIter xv) (fun it s₂ => ∃ I fp wr P St, it = .ref I ∧ Walks PySem.Challenge.pw_rt0057_01 C.w A I fp wr n P St ∧ St 0 s₂.heap ∧ Kp s s₂ ∧
    (∀ j h, St j h → ∀ b ∈ fp, ∃ o, h.get? b = some o) ∧ (∀ b ∈ wr, s.heap.get? b = none) ∧ (∀ b ∈ fp, b ∉ C.S) ∧ ∀ i v, P i v → (q i).holds (hideAll s₂.heap (wr ++ C.S)) v) NoE s₁) NoE s

theorem Src.lst {C : Cx} {e : Expr} {ps : List FP} {q : Nat → FP} (h : Ev C e (TLst ps)) (hq : ∀ i p, ps[i]? = some p → p = q i) : Src C ps.length q e := .mk fun A s R X =>
  (h.go A s R X).use fun v s₁ k₁ hv => by
    obtain ⟨a, vs, rfl, hl, hn, hA⟩ := lst_at hv
    have X₁ := X.keeps k₁
    have fresh : s₁.heap.get? s₁.heap.objs.size = none := by
      cases e : s₁.heap.get? s₁.heap.objs.size with
      | none => rfl
      | some o => exact absurd (Heap.lt_size e) (Nat.lt_irrefl _)
    have hne : a ≠ s₁.heap.objs.size := fun e => by obtain ⟨o, ho, _⟩ := hl; rw [e, fresh] at ho; cases ho
    refine wpAny_pyIter_list hl ?_
    have W := Walks.list (prog := PySem.Challenge.pw_rt0057_01) (w := C.w) R.han s₁.heap.objs.size a hne vs
    have hlen := hA.length
    rw [Array.length_toList] at hlen
    rw [hlen] at W
    refine ⟨_, _, _, _, _, rfl, W, ⟨⟨_, Heap.get?_push_size _ rfl, rfl, rfl⟩, hl.push _⟩, Kp.trans' k₁ (Kp.mk' (push_sub _ _)), fun j h hs b hb => ?_, fun b hb => ?_, fun b hb => ?_, fun i v hp => ?_⟩
    · simp only [List.mem_cons, List.mem_nil_iff, or_false] at hb
      rcases hb with rfl | rfl
      · obtain ⟨o, ho, _⟩ := hs.1; exact ⟨o, ho⟩
      · obtain ⟨o, ho, _⟩ := hs.2; exact ⟨o, ho⟩
    · simp only [List.mem_cons, List.mem_nil_iff, or_false] at hb
      subst hb
      cases e : s.heap.get? s₁.heap.objs.size with
      | none => rfl
      | some o => have := keeps_sub k₁ _ _ e; rw [fresh] at this; cases this
    · simp only [List.mem_cons, List.mem_nil_iff, or_false] at hb
      rcases hb with rfl | rfl
      · exact fresh_notin X₁.live
      · exact hn
    · obtain ⟨p, hp', hh⟩ := hA.get' i (by simpa using hp)
      rw [← hq i p hp']
      refine p.stab (hide_sub (fun b o _ e => push_sub _ _ _ _ e) fun b hb hn => ?_) hh
      rcases List.mem_append.mp hb with hb | hb
      · simp only [List.mem_cons, List.mem_nil_iff, or_false] at hb
        subst hb; exact fresh
      · exact absurd hb hn

theorem Src.tup {C : Cx} {e : Expr} {ps : List FP} {q : Nat → FP} (h : Ev C e (TTup ps)) (hq : ∀ i p, ps[i]? = some p → p = q i) : Src C ps.length q e := .mk fun A s R X =>
  (h.go A s R X).use fun v s₁ k₁ hv => by
    obtain ⟨a, vs, rfl, hl, hn, hA⟩ := tup_at hv
    have X₁ := X.keeps k₁
    have fresh : s₁.heap.get? s₁.heap.objs.size = none := by
      cases e : s₁.heap.get? s₁.heap.objs.size with
      | none => rfl
      | some o => exact absurd (Heap.lt_size e) (Nat.lt_irrefl _)
    have hne : a ≠ s₁.heap.objs.size := fun e => by obtain ⟨o, ho, _⟩ := hl; rw [e, fresh] at ho; cases ho
    refine wpAny_pyIter_tuple hl ?_
    have W := Walks.tuple (prog := PySem.Challenge.pw_rt0057_01) (w := C.w) R.han s₁.heap.objs.size a hne vs
    have hlen := hA.length
    rw [Array.length_toList] at hlen
    rw [hlen] at W
    refine ⟨_, _, _, _, _, rfl, W, ⟨⟨_, Heap.get?_push_size _ rfl, rfl, rfl⟩, let ⟨o, ho, r⟩ := hl; ⟨o, push_sub _ _ _ _ ho, r⟩⟩, Kp.trans' k₁ (Kp.mk' (push_sub _ _)), fun j h hs b hb => ?_, fun b hb => ?_, fun b hb => ?_, fun i v hp => ?_⟩
    · simp only [List.mem_cons, List.mem_nil_iff, or_false] at hb
      rcases hb with rfl | rfl
      · obtain ⟨o, ho, _⟩ := hs.1; exact ⟨o, ho⟩
      · obtain ⟨o, ho, _⟩ := hs.2; exact ⟨o, ho⟩
    · simp only [List.mem_cons, List.mem_nil_iff, or_false] at hb
      subst hb
      cases e : s.heap.get? s₁.heap.objs.size with
      | none => rfl
      | some o => have := keeps_sub k₁ _ _ e; rw [fresh] at this; cases this
    · simp only [List.mem_cons, List.mem_nil_iff, or_false] at hb
      rcases hb with rfl | rfl
      · exact fresh_notin X₁.live
      · exact hn
    · obtain ⟨p, hp', hh⟩ := hA.get' i (by simpa using hp)
      rw [← hq i p hp']
      refine p.stab (hide_sub (fun b o _ e => push_sub _ _ _ _ e) fun b hb hn => ?_) hh
      rcases List.mem_append.mp hb with hb | hb
      · simp only [List.mem_cons, List.mem_nil_iff, or_false] at hb
        subst hb; exact fresh
      · exact absurd hb hn

section
variable {F : Fx} {hK : Heap} {S₀ : List Addr} {ρ ρ' : List (Str × FP)} {ω ω' : List (Addr × OP)} {s s' : Shared} {A : Around} {Q : Flow → Shared → Prop}

/-- some objects outside (an iterator and the like) are turned; they are among the hidden -/
theorem Fs.turn {wr : List Addr} {h' : Heap} {t : Nat} (H : Fs F hK S₀ ρ ω s) (hw : ∀ b ∈ wr, b ∈ S₀) (h0 : ∀ b ∈ wr, hK.get? b = none ∧ F.s₀.heap.get? b = none) (ho : ∀ b ∈ wr, b ∉ F.own ++ ω.map (·.1))
    (hl : ∀ b ∈ wr, ∃ o, h'.get? b = some o) (hk : ∀ b o, b ∉ wr → s.heap.get? b = some o → h'.get? b = some o) (ht : s.toks ≤ t) : Fs F hK S₀ ρ ω { s with heap := h', toks := t } := by
  have sub : ∀ g : Heap, (∀ b ∈ wr, g.get? b = none) → Sub g s.heap → Sub g h' := fun g hg hs b o e => hk b o (fun hb => by rw [hg b hb] at e; cases e) (hs b o e)
  have hS : ∀ b ∈ wr, b ∈ F.S S₀ ω := fun b hb => List.mem_append_right _ (List.mem_append_right _ (hw b hb))
  have hsub : Sub (hideAll s.heap (F.S S₀ ω)) (hideAll h' (F.S S₀ ω)) := hide_sub (fun b o hb e => hk b o (fun hm => hb (hS b hm)) e) fun a ha hn => absurd ha hn
  obtain ⟨h₀, t₀, e₀, k₀⟩ := H.same.1
  have at' : ∀ b, b ∈ F.own ++ ω.map (·.1) → ∀ o, s.heap.get? b = some o → h'.get? b = some o := fun b hb o e => hk b o (fun hm => ho b hm hb) e
  have hL : F.env.locals ∈ F.own ++ ω.map (·.1) := List.mem_append_left _ (.head _)
  have hC : ∀ n c, F.env.cells.lookup n = some c → c ∈ F.own ++ ω.map (·.1) := fun n c e => List.mem_append_left _ (.tail _ (List.mem_map.mpr ⟨_, mem_of_lookup e, rfl⟩))
  exact { same := ⟨⟨h', t, by rw [e₀], sub _ (fun b hb => (h0 b hb).2) (keeps_sub H.same)⟩, Nat.le_trans H.same.2 ht⟩, base0 := H.base0, tok := Nat.le_trans H.tok ht, kind := H.kind, glob := H.glob, blt := H.blt,
          ns := (let ⟨m, hm⟩ := H.ns; ⟨m, hm.at' fun o e => at' _ hL o e⟩), cells := (fun n c e => let ⟨v, o, ho, r⟩ := H.cells n c e; ⟨v, o, at' _ (hC n c e) o ho, r⟩),
          live := (fun b hb => by
            by_cases hm : b ∈ wr
            · exact hl b hm
            · obtain ⟨o, e⟩ := H.live b hb; exact ⟨o, hk b o hm e⟩), nd := H.nd, fresh := H.fresh, apart := H.apart, keep := sub _ (fun b hb => (h0 b hb).1) H.keep, sc := H.sc,
          vars := (fun xp hx => by
            obtain ⟨v, a, b⟩ := H.vars xp hx
            refine ⟨v, ?_, xp.2.stab hsub b⟩
            rcases a with ⟨a, m, b, c⟩ | ⟨a, c, b, o, d, e⟩ | ⟨a, a', c, b, o, d, e⟩
            · exact .inl ⟨a, m, b.at' fun o e => at' _ hL o e, c⟩
            · exact .inr (.inl ⟨a, c, b, o, at' _ (hC _ _ b) o d, e⟩)
            · exact .inr (.inr ⟨a, a', c, b, o, at' _ (hC _ _ b) o d, e⟩)),
          owns := (fun aq ha => by
            obtain ⟨o, e, b⟩ := H.owns aq ha
            exact ⟨o, at' _ (List.mem_append_right _ (List.mem_map_of_mem (f := (·.1)) ha)) o e, aq.2.stab hsub b⟩) }

theorem Fs.turnShow {wr : List Addr} {h' : Heap} {t : Nat} (H : Fs F hK (wr ++ S₀) ρ ω s) (hc : ∀ a ∈ F.Sc, a ∈ S₀) (hw : ∀ b ∈ wr, b ∉ S₀) (h0 : ∀ b ∈ wr, hK.get? b = none ∧ F.s₀.heap.get? b = none) (ho : ∀ b ∈ wr, b ∉ F.own ++ ω.map (·.1))
    (hk : ∀ b o, b ∉ wr → s.heap.get? b = some o → h'.get? b = some o) (ht : s.toks ≤ t) : Fs F hK S₀ ρ ω { s with heap := h', toks := t } := by
  have sub : ∀ g : Heap, (∀ b ∈ wr, g.get? b = none) → Sub g s.heap → Sub g h' := fun g hg hs b o e => hk b o (fun hb => by rw [hg b hb] at e; cases e) (hs b o e)
  have hS : ∀ b ∈ wr, b ∈ F.S (wr ++ S₀) ω := fun b hb => List.mem_append_right _ (List.mem_append_right _ (List.mem_append_left _ hb))
  have hsub : Sub (hideAll s.heap (F.S (wr ++ S₀) ω)) (hideAll h' (F.S S₀ ω)) := hide_sub (fun b o hb e => hk b o (fun hm => hb (hS b hm)) e) fun a ha hn => by
    unfold Fx.S at ha hn
    simp only [List.mem_append, not_or] at ha hn
    rcases ha with h | h | h
    · exact absurd h hn.1
    · exact absurd h hn.2.1
    · exact absurd h hn.2.2.2
  obtain ⟨h₀, t₀, e₀, k₀⟩ := H.same.1
  have at' : ∀ b, b ∈ F.own ++ ω.map (·.1) → ∀ o, s.heap.get? b = some o → h'.get? b = some o := fun b hb o e => hk b o (fun hm => ho b hm hb) e
  have hL : F.env.locals ∈ F.own ++ ω.map (·.1) := List.mem_append_left _ (.head _)
  have hC : ∀ n c, F.env.cells.lookup n = some c → c ∈ F.own ++ ω.map (·.1) := fun n c e => List.mem_append_left _ (.tail _ (List.mem_map.mpr ⟨_, mem_of_lookup e, rfl⟩))
  exact { same := ⟨⟨h', t, by rw [e₀], sub _ (fun b hb => (h0 b hb).2) (keeps_sub H.same)⟩, Nat.le_trans H.same.2 ht⟩, base0 := H.base0, tok := Nat.le_trans H.tok ht, kind := H.kind, glob := H.glob, blt := H.blt,
          ns := (let ⟨m, hm⟩ := H.ns; ⟨m, hm.at' fun o e => at' _ hL o e⟩), cells := (fun n c e => let ⟨v, o, ho, r⟩ := H.cells n c e; ⟨v, o, at' _ (hC n c e) o ho, r⟩),
          live := (fun b hb => by
            have hb' : b ∈ F.S (wr ++ S₀) ω ∧ b ∉ wr := by
              unfold Fx.S at hb ⊢
              simp only [List.mem_append] at hb ⊢
              rcases hb with h | h | h
              · exact ⟨.inl h, fun hm => ho b hm (List.mem_append_left _ h)⟩
              · exact ⟨.inr (.inl h), fun hm => ho b hm (List.mem_append_right _ h)⟩
              · exact ⟨.inr (.inr (.inr h)), fun hm => hw b hm h⟩
            obtain ⟨o, e⟩ := H.live b hb'.1
            exact ⟨o, hk b o hb'.2 e⟩), nd := H.nd, fresh := H.fresh, apart := (fun a ha hm => H.apart a ha (List.mem_append_right _ hm)), keep := sub _ (fun b hb => (h0 b hb).1) H.keep, sc := hc,
          vars := (fun xp hx => by
            obtain ⟨v, a, b⟩ := H.vars xp hx
            refine ⟨v, ?_, xp.2.stab hsub b⟩
            rcases a with ⟨a, m, b, c⟩ | ⟨a, c, b, o, d, e⟩ | ⟨a, a', c, b, o, d, e⟩
            · exact .inl ⟨a, m, b.at' fun o e => at' _ hL o e, c⟩
            · exact .inr (.inl ⟨a, c, b, o, at' _ (hC _ _ b) o d, e⟩)
            · exact .inr (.inr ⟨a, a', c, b, o, at' _ (hC _ _ b) o d, e⟩)),
          owns := (fun aq ha => by
            obtain ⟨o, e, b⟩ := H.owns aq ha
            exact ⟨o, at' _ (List.mem_append_right _ (List.mem_map_of_mem (f := (·.1)) ha)) o e, aq.2.stab hsub b⟩) }

theorem Fs.hideMore {S₁ : List Addr} {s₁ : Shared} (H : Fs F hK S₀ ρ ω s) (k : Kp s s₁) (hl : Live S₁ s₁.heap) (hn : ∀ b ∈ S₁, s.heap.get? b = none) : Fs F hK (S₁ ++ S₀) ρ ω s₁ := by
  have j := keeps_sub k
  have hsub : Sub (hideAll s.heap (F.S S₀ ω)) (hideAll s₁.heap (F.S (S₁ ++ S₀) ω)) := hide_sub (fun b o _ e => j b o e) fun a ha hm => by
    unfold Fx.S at ha hm
    simp only [List.mem_append, not_or] at ha hm
    rcases ha with h | h | h | h
    · exact absurd h hm.1
    · exact absurd h hm.2.1
    · exact hn a h
    · exact absurd h hm.2.2
  have H' := H.step k
  exact { H' with
    live := (fun b hb => by
      unfold Fx.S at hb
      simp only [List.mem_append] at hb
      rcases hb with h | h | h | h
      · exact H'.live b (List.mem_append_left _ h)
      · exact H'.live b (List.mem_append_right _ (List.mem_append_left _ h))
      · exact hl b h
      · exact H'.live b (List.mem_append_right _ (List.mem_append_right _ h)))
    apart := (fun a ha hm => by
      rcases List.mem_append.mp hm with h | h
      · obtain ⟨⟨b, q⟩, hb, rfl⟩ := List.mem_map.mp ha
        obtain ⟨o, e, _⟩ := H.owns _ hb
        have e' := hn _ h
        simp only at e e'
        rw [e'] at e; cases e
      · exact H.apart a ha h)
    sc := (fun a ha => List.mem_append_right _ (H.sc a ha))
    vars := (fun xp hx => let ⟨v, a, b⟩ := H.vars xp hx; ⟨v, a.stab j, xp.2.stab hsub b⟩)
    owns := (fun aq ha => let ⟨o, a, b⟩ := H.owns aq ha; ⟨o, j _ _ a, aq.2.stab hsub b⟩) }

theorem Fs.showMore {S₁ : List Addr} (H : Fs F hK S₁ ρ ω s) (hs : ∀ a ∈ S₀, a ∈ S₁) (hc : ∀ a ∈ F.Sc, a ∈ S₀) : Fs F hK S₀ ρ ω s := by
  have hsub : Sub (hideAll s.heap (F.S S₁ ω)) (hideAll s.heap (F.S S₀ ω)) := hide_sub (fun b o _ e => e) fun a ha hm => by
    unfold Fx.S at ha hm
    simp only [List.mem_append, not_or] at ha hm
    rcases ha with h | h | h
    · exact absurd h hm.1
    · exact absurd h hm.2.1
    · exact absurd (hs a h) hm.2.2
  exact { H with
    live := (fun b hb => by
      unfold Fx.S at hb
      simp only [List.mem_append] at hb
      rcases hb with h | h | h
      · exact H.live b (List.mem_append_left _ h)
      · exact H.live b (List.mem_append_right _ (List.mem_append_left _ h))
      · exact H.live b (List.mem_append_right _ (List.mem_append_right _ (hs b h))))
    apart := (fun a ha hm => H.apart a ha (hs a hm)), sc := hc
    vars := (fun xp hx => let ⟨v, a, b⟩ := H.vars xp hx; ⟨v, a, xp.2.stab hsub b⟩)
    owns := (fun aq ha => let ⟨o, a, b⟩ := H.owns aq ha; ⟨o, a, aq.2.stab hsub b⟩) }

theorem Fs.rebase (H : Fs F hK S₀ ρ ω s) : Fs F (hideAll s.heap (F.own ++ ω.map (·.1))) S₀ ρ ω s :=
  { H with keep := fun b o e => ((hide_get ..).1 e).1, fresh := fun a ha => ⟨hideAll_none _ ha, (H.fresh a ha).2⟩ }
theorem Fs.unbase {hK' : Heap} {s₁ : Shared} {ρ₁ ω₁} (H : Fs F hK S₀ ρ₁ ω₁ s₁) (hw : ω₁.map (·.1) = ω.map (·.1)) (H' : Fs F (hideAll s₁.heap (F.own ++ ω₁.map (·.1))) S₀ ρ ω s) : Fs F hK S₀ ρ ω s :=
  { H' with keep := (fun b o e => H'.keep b o ((hide_get ..).2 ⟨H.keep b o e, fun hm => by have := (H.fresh b hm).1; rw [e] at this; cases this⟩)), fresh := (fun a ha => ⟨(H.fresh a (by rw [hw]; exact ha)).1, (H'.fresh a ha).2⟩) }

/-- a for: what holds after i turns is ρf i d, ωf i d, for some d with Pd i d; behind a break ρb d, ωb d -/
theorem ex_forF {D : Type} {n : Nat} {q : Nat → FP} {x : Str} {px pos : Pos} {iter : Expr} {body rest : List Stmt} (Pd : Nat → D → Prop) (ρf : Nat → D → List (Str × FP)) (ωf : Nat → D → List (Addr × OP))
    (Pb : D → Prop) (ρb : D → List (Str × FP)) (ωb : D → List (Addr × OP)) (d₀ : D)
    (H : Fs F hK S₀ (ρf 0 d₀) (ωf 0 d₀) s) (R : Room F.k A) (hd : Pd 0 d₀) (hsrc : Src (F.cx S₀ (ρf 0 d₀) (ωf 0 d₀)) n q iter) (hx : StoreOk F.env x) (hω : ∀ i d, (ωf i d).map (·.1) = (ωf 0 d₀).map (·.1)) (hωb : ∀ d, (ωb d).map (·.1) = (ωf 0 d₀).map (·.1))
    (turn : ∀ i d hK' S' s', i < n → Pd i d → Fs F hK' S' ((x, q i) :: drp x (ρf i d)) (ωf i d) s' →
      wpAny (MM F.w) A (execs body F.env) (fun f s'' => match f with
        | .next | .cont => ∃ d', Pd (i + 1) d' ∧ Fs F hK' S' (ρf (i + 1) d') (ωf (i + 1) d') s''
        | .brk => ∃ d', Pb d' ∧ Fs F hK' S' (ρb d') (ωb d') s''
        | .ret v => Q (.ret v) s'') NoE s')
    (fin : ∀ d s', Pd n d → Fs F hK S₀ (ρf n d) (ωf n d) s' → wpAny (MM F.w) A (execs rest F.env) Q NoE s')
    (brk : ∀ d s', Pb d → Fs F hK S₀ (ρb d) (ωb d) s' → wpAny (MM F.w) A (execs rest F.env) Q NoE s')
    (hs : ∀ x, foldedSetIterable iter F.env x = pure x := by intro _; rfl) :
    wpAny (MM F.w) A (execs (.For (.Name x px) iter body [] pos :: rest) F.env) Q NoE s := by
  refine wpAny_execs_cons (wpAny_For ?_ hs)
  refine wpAny_mono (hsrc.go A s R H.xs) (fun xv s₁ h₁ => wpAny_mono h₁ (fun it s₂ h₂ => ?_) fun _ _ x => x) fun _ _ x => x
  obtain ⟨I, fp, wr, P, St, rfl, W, hst, k₂, hlv, hfr, hfS, hP⟩ := h₂
  have wfp : ∀ b ∈ wr, b ∈ fp := W.sub
  have fresh0 : ∀ b ∈ wr, hK.get? b = none ∧ F.s₀.heap.get? b = none := fun b hb => by
    have h := hfr b hb
    constructor
    · cases e : hK.get? b with
      | none => rfl
      | some o => have := H.keep b o e; rw [h] at this; cases this
    · cases e : F.s₀.heap.get? b with
      | none => rfl
      | some o => have := keeps_sub H.same b o e; rw [h] at this; cases this
  have own : ∀ b ∈ fp, b ∉ F.own ++ (ωf 0 d₀).map (·.1) := fun b hb hm => hfS b hb (by
    show b ∈ F.S S₀ (ωf 0 d₀)
    unfold Fx.S
    rcases List.mem_append.mp hm with h | h
    · exact List.mem_append_left _ h
    · exact List.mem_append_right _ (List.mem_append_left _ h))
  have H₂ := H.hideMore k₂ (S₁ := wr) (fun b hb => hlv _ _ hst b (wfp b hb)) hfr
  -- what the items are asked of
  have items : ∀ (s' : Shared), (∀ b o, b ∉ wr ++ (F.own ++ (ωf 0 d₀).map (·.1)) → s₂.heap.get? b = some o → s'.heap.get? b = some o) → ∀ i v, P i v → (q i).holds (hideAll s'.heap (F.S (wr ++ S₀) (ωf 0 d₀))) v := fun s' hk i v hv => by
    refine (q i).stab (hide_sub (fun b o hb e => hk b o (fun hm => hb ?_) e) fun a ha hn => ?_) (hP i v hv)
    · rcases List.mem_append.mp hm with h | h
      · exact List.mem_append_left _ h
      · refine List.mem_append_right _ ?_
        show b ∈ F.S S₀ (ωf 0 d₀)
        unfold Fx.S
        rcases List.mem_append.mp h with h | h
        · exact List.mem_append_left _ h
        · exact List.mem_append_right _ (List.mem_append_left _ h)
    · exfalso
      apply hn
      unfold Fx.S at ha
      simp only [List.mem_append] at ha
      rcases ha with h | h | h | h
      · exact List.mem_append_right _ (List.mem_append_left _ h)
      · exact List.mem_append_right _ (List.mem_append_right _ (List.mem_append_left _ h))
      · exact List.mem_append_left _ h
      · exact List.mem_append_right _ (List.mem_append_right _ (List.mem_append_right _ h))
  have back : ∀ {s' : Shared} {ρ ω}, Fs F hK (wr ++ S₀) ρ ω s' → Fs F hK S₀ ρ ω s' := fun h => h.showMore (fun a ha => List.mem_append_right _ ha) H.sc
  refine codeAny_forLoop (fun m s' => ∃ i d, m = n - i ∧ i ≤ n ∧ Pd i d ∧ Fs F hK (wr ++ S₀) (ρf i d) (ωf i d) s' ∧ St i s'.heap ∧
      (∀ b o, b ∉ wr ++ (F.own ++ (ωf 0 d₀).map (·.1)) → s₂.heap.get? b = some o → s'.heap.get? b = some o)) ?_ n
    ⟨0, d₀, rfl, Nat.zero_le _, hd, H₂, hst, fun _ _ _ e => e⟩
  rintro m s' ⟨i, d, rfl, hi, hpd, H', hst', hk'⟩
  have ownd : ∀ b ∈ wr, b ∉ F.own ++ (ωf i d).map (·.1) := fun b hb => by rw [hω]; exact own b (wfp b hb)
  rcases Nat.lt_or_ge i n with hlt | hge
  · refine wpAny_with_toks (Nat.le_refl _) (W.item i s' _ _ hlt hst' fun v h' tk hv hst'' hkk => ?_)
    intro htk
    have H₃ := H'.turn (h' := h') (t := tk) (fun b hb => List.mem_append_left _ hb) fresh0 ownd (fun b hb => hlv _ _ hst'' b (wfp b hb)) (fun b o hb e => hkk b o hb e) htk
    refine noE (wpAny_assign_Name (H₃.rebase.store hx (p := q i) ?_ fun s₄ H₄ => noE (wpAny_mono (turn i d _ _ s₄ hlt hpd H₄) (fun f s₅ hf => ?_) fun _ _ x => x)))
    · have := items { s' with heap := h', toks := tk } (fun b o hb e => hkk b o (fun hm => hb (List.mem_append_left _ hm)) (hk' b o hb e)) i v hv
      unfold Fx.S at this ⊢
      rw [hω]
      exact this
    · have step : ∀ {ρ' ω'}, ω'.map (·.1) = (ωf 0 d₀).map (·.1) → Fs F (hideAll h' (F.own ++ (ωf i d).map (·.1))) (wr ++ S₀) ρ' ω' s₅ → Fs F hK (wr ++ S₀) ρ' ω' s₅ := fun hw h => H₃.unbase (hK' := hK) (by rw [hω, hw]) h
      have kept : ∀ {ρ' ω'}, Fs F (hideAll h' (F.own ++ (ωf i d).map (·.1))) (wr ++ S₀) ρ' ω' s₅ → ∀ b o, b ∉ F.own ++ (ωf 0 d₀).map (·.1) → h'.get? b = some o → s₅.heap.get? b = some o := fun h b o hb e => h.keep b o ((hide_get ..).2 ⟨e, by rw [hω]; exact hb⟩)
      cases f with
      | ret v => exact hf
      | brk => obtain ⟨d', hp', h⟩ := hf; exact brk d' s₅ hp' (back (step (hωb d') h))
      | next =>
        obtain ⟨d', hp', h⟩ := hf
        exact ⟨n - (i + 1), by omega, i + 1, d', rfl, hlt, hp', step (hω _ _) h, W.frame _ _ _ hst'' fun b hb o e => kept h b o (own b hb) e,
          fun b o hb e => kept h b o (fun hm => hb (List.mem_append_right _ hm)) (hkk b o (fun hm => hb (List.mem_append_left _ hm)) (hk' b o hb e))⟩
      | cont =>
        obtain ⟨d', hp', h⟩ := hf
        exact ⟨n - (i + 1), by omega, i + 1, d', rfl, hlt, hp', step (hω _ _) h, W.frame _ _ _ hst'' fun b hb o e => kept h b o (own b hb) e,
          fun b o hb e => kept h b o (fun hm => hb (List.mem_append_right _ hm)) (hkk b o (fun hm => hb (List.mem_append_left _ hm)) (hk' b o hb e))⟩
  · obtain rfl : i = n := Nat.le_antisymm hi hge
    refine wpAny_with_toks (Nat.le_refl _) (W.done s' _ _ hst' fun h' tk hkk => ?_)
    intro htk
    have H₃ := H'.turnShow (h' := h') (t := tk) H.sc (fun b hb hm => by
      obtain ⟨o, e⟩ := H.live b (List.mem_append_right _ (List.mem_append_right _ hm))
      rw [hfr b hb] at e; cases e) fresh0 ownd (fun b o hb e => hkk b o hb e) htk
    exact noE (wpAny_execs_nil (fin d _ hpd H₃))
end

section
variable {w : World} {k : Nat} {s₀ : Shared} {env : Env} {Sc : List Addr} {hK : Heap} {S₀ : List Addr} {s s' : Shared} {A : Around} {Q : Flow → Shared → Prop}
theorem ex_for {D : Type} {n : Nat} {q : Nat → FP} {x : Str} {px pos : Pos} {iter : Expr} {body rest : List Stmt} (Pd : Nat → D → Prop) (ρf : Nat → D → List (Str × FP)) (ωf : Nat → D → List (Addr × OP))
    (Pb : D → Prop) (ρb : D → List (Str × FP)) (ωb : D → List (Addr × OP)) (d₀ : D)
    (H : Fs ⟨w, k, s₀, env, Sc⟩ hK S₀ (ρf 0 d₀) (ωf 0 d₀) s) (R : Room k A) (hd : Pd 0 d₀) (hsrc : Src (Fx.cx ⟨w, k, s₀, env, Sc⟩ S₀ (ρf 0 d₀) (ωf 0 d₀)) n q iter) (hx : StoreOk env x) (hω : ∀ i d, (ωf i d).map (·.1) = (ωf 0 d₀).map (·.1)) (hωb : ∀ d, (ωb d).map (·.1) = (ωf 0 d₀).map (·.1))
    (turn : ∀ i d hK' S' s', i < n → Pd i d → Fs ⟨w, k, s₀, env, Sc⟩ hK' S' ((x, q i) :: drp x (ρf i d)) (ωf i d) s' →
      Run w A (execs body env) (fun f s'' => match f with
        | .next | .cont => ∃ d', Pd (i + 1) d' ∧ Fs ⟨w, k, s₀, env, Sc⟩ hK' S' (ρf (i + 1) d') (ωf (i + 1) d') s''
        | .brk => ∃ d', Pb d' ∧ Fs ⟨w, k, s₀, env, Sc⟩ hK' S' (ρb d') (ωb d') s''
        | .ret v => Q (.ret v) s'') s')
    (fin : ∀ d s', Pd n d → Fs ⟨w, k, s₀, env, Sc⟩ hK S₀ (ρf n d) (ωf n d) s' → Run w A (execs rest env) Q s')
    (brk : ∀ d s', Pb d → Fs ⟨w, k, s₀, env, Sc⟩ hK S₀ (ρb d) (ωb d) s' → Run w A (execs rest env) Q s')
    (hs : ∀ x, foldedSetIterable iter env x = pure x := by intro _; rfl) :
    Run w A (execs (.For (.Name x px) iter body [] pos :: rest) env) Q s :=
  ⟨ex_forF Pd ρf ωf Pb ρb ωb d₀ H R hd hsrc hx hω hωb (fun i d hK' S' s' h1 h2 h3 => (turn i d hK' S' s' h1 h2 h3).go) (fun d s' h1 h2 => (fin d s' h1 h2).go) (fun d s' h1 h2 => (brk d s' h1 h2).go) hs⟩
end
end Mine
local macro_rules | `(tactic| walk_at "mem") => `(tactic| first | with_reducible exact List.mem_cons_self | (with_reducible refine List.mem_cons_of_mem _ ?_; walk_at "mem"))
local macro_rules | `(tactic| o_facts $Y) => `(tactic| simp only [Mine.drp, Mine.ofS_inj, String.reduceEq, if_false, if_true, List.zip_cons_cons, List.zip_nil_left, List.zip_nil_right] at $Y:ident)
namespace Mine

theorem n_range (w : World) : nsIn (KK w) mainGlobals (Str.ofString "range") = some none := by rfl
theorem bb_range : bootBuiltins (Str.ofString "range") = some (.type "range") := by kernel_rfl

theorem Src.range {C : Cx} {x : Expr} {n : Nat} {np pos : Pos} (hx : Ev C x (TInt (n : Int))) (hk : C.env.kindOf (Str.ofString "range") = some .globalImplicit) (hn : n ≤ 1000)
    (he : ∀ env, starEach [x] env = (false, eval x env) :: starEach [] env := by intro _; rfl) : Src C n (fun i => TInt (i : Int)) (.Call (.Name (Str.ofString "range") np) [x] [] pos) := .mk fun A s R X => by
  have hnm : Ev C (.Name (Str.ofString "range") np) (TVal (.type "range")) := Ev.builtin hk (n_range _) bb_range
  refine Call_Name rfl ((hnm.go A s R X).use fun fv s₁ k₁ hf => ?_)
  cases hf
  have X₁ := X.keeps k₁
  rw [he]
  refine PyProof.Rows.callWith_type rfl (evalArgs_plain (spliced_cons ((hx.go A s₁ R X₁).use fun v s₂ k₂ hv => spliced_nil ?_)))
  obtain ⟨t, rfl⟩ := hv
  have X₂ := X₁.keeps k₂
  have k12 := Kp.trans' k₁ k₂
  have h63 : (n : Int) < 1001 := by omega
  have hsz : Builtin.Range.rangeSize 0 (n : Int) 1 = n := by
    unfold Builtin.Range.rangeSize
    rw [if_pos (by decide)]
    split <;> omega
  have hsm : Builtin.Range.small 0 (n : Int) 1 = true := by
    unfold Builtin.Range.small
    rw [hsz]
    unfold Builtin.Range.rangeFitsLong
    simp only [Bool.and_eq_true, decide_eq_true_eq, Bool.or_eq_true, beq_iff_eq]
    refine ⟨⟨⟨⟨⟨by decide, by decide⟩, by omega, by omega⟩, by decide, by decide⟩, by omega, by omega⟩, .inr ?_⟩
    rw [if_pos (by decide)]
    simp only [Bool.and_eq_true, decide_eq_true_eq]
    omega
  refine call_range_1 ?_
  have hr : IsRange (s₂.heap.push { cls := .type "range", data := .fields #[.int 0 s₂.toks, .int n t, .int 1 (s₂.toks + 1)] }) s₂.heap.objs.size 0 n 1 s₂.toks t (s₂.toks + 1) := Heap.get?_push_size _ rfl
  refine wpAny_pyIter_range hr hsm ?_
  have W := Walks.range (prog := PySem.Challenge.pw_rt0057_01) (w := C.w) R.han (s₂.heap.objs.size + 1) 0 1 n
  rw [hsz]
  generalize hH : s₂.heap.push { cls := .type "range", data := .fields #[.int 0 s₂.toks, .int n t, .int 1 (s₂.toks + 1)] } = H2
  have hsize : H2.objs.size = s₂.heap.objs.size + 1 := by rw [← hH, Heap.size_push]
  have sub2 : Sub s₂.heap H2 := hH ▸ push_sub _ _
  dsimp only
  rw [hsize]
  refine ⟨_, _, _, _, _, rfl, W, ?_, Kp.trans' k12 (Kp.mk' (sub2.trans (push_sub _ _)) (Nat.le_add_right _ 2)), fun j h hs b hb => ?_, fun b hb => ?_, fun b hb => ?_, fun i v hp => ?_⟩
  · show (H2.push _).get? _ = _
    rw [← hsize, Heap.get?_push_size _ rfl]
    simp [rawInt]
  · simp only [List.mem_cons, List.mem_nil_iff, or_false] at hb
    subst hb; exact ⟨_, hs⟩
  · simp only [List.mem_cons, List.mem_nil_iff, or_false] at hb
    subst hb
    cases e : s.heap.get? (s₂.heap.objs.size + 1) with
    | none => rfl
    | some o => have h : s₂.heap.objs.size + 1 < s₂.heap.objs.size := Heap.lt_size (keeps_sub k12 _ _ e); exact absurd h (by omega)
  · simp only [List.mem_cons, List.mem_nil_iff, or_false] at hb
    subst hb
    intro hm
    obtain ⟨o, e⟩ := X₂.live _ hm
    have h : s₂.heap.objs.size + 1 < s₂.heap.objs.size := Heap.lt_size e
    exact absurd h (by omega)
  · obtain ⟨t', rfl⟩ := hp
    exact ⟨t', by simp⟩
end Mine
namespace Mine

section
variable {C : Cx} {x y : Expr} {pos : Pos}
theorem Tt.or {b c : Bool} (h1 : Tt C x b) (h2 : b = false → Tt C y c) : Tt C (.BoolOp .Or [x, y] pos) (b || c) := .mk fun A s R X => by
  refine wpAny_isTrue_BoolOp (wpAny_allTrue_Or_cons (wpAny_mono (h1.go A s R X) (fun b' s₁ ⟨k₁, e₁⟩ => ?_) fun _ _ x => x))
  subst e₁
  cases b' with
  | true => exact ⟨k₁, rfl⟩
  | false =>
    refine wpAny_allTrue_Or_cons (wpAny_mono ((h2 rfl).go A s₁ R (X.keeps k₁)) (fun b' s₂ ⟨k₂, e₂⟩ => ?_) fun _ _ x => x)
    subst e₂
    cases b' with
    | true => exact ⟨Kp.trans' k₁ k₂, rfl⟩
    | false => exact wpAny_allTrue_Or_nil ⟨Kp.trans' k₁ k₂, rfl⟩
theorem Tt.str {e : Expr} {a : Str} (h : Ev C e (TStr a)) (hz : a.length ≤ 1000000) (hi : ∀ env whole, isTrue e env whole = (do let v ← whole; standAt e.pos; holding [v] (truthy v)) := by intro _ _; rfl) : Tt C e ((a.length : Int) != 0) := .mk fun A s R X => by
  rw [hi]
  refine wpAny_bind ((h.go A s R X).use fun v s₁ k₁ hv => ?_)
  obtain ⟨t, rfl⟩ := hv
  exact wpAny_bind (wpAny_standAt (wpAny_holding (P.truthy_str (by omega) ⟨Kp.trans' k₁ (Kp.toks (Nat.le_add_right _ 2)), rfl⟩)))
end

section
variable {F : Fx} {hK : Heap} {S₀ : List Addr} {ρ ρ' : List (Str × FP)} {ω ω' : List (Addr × OP)} {s s' : Shared} {A : Around} {Q : Flow → Shared → Prop} {rest body : List Stmt} {pos : Pos}
theorem ex_try {w : World} {k : Nat} {s₀ : Shared} {env : Env} {Sc : List Addr} {h₀ : ExceptHandler} {hs : List ExceptHandler} (H : Fs ⟨w, k, s₀, env, Sc⟩ hK S₀ ρ ω s) (kk : Run w A (execs body env) (Then w A rest env Q) s) : Run w A (execs (.Try body (h₀ :: hs) [] [] pos :: rest) env) Q s := by
  refine ⟨wpAny_execs_cons (wpAny_Try_except (wpAny_mono kk.go (fun f s' hf => ?_) fun _ _ x => x.elim))⟩
  cases f with
  | next => exact wpAny_execs_nil hf.go
  | _ => exact hf
end

theorem fn_sep (w : World) (k : Nat) (x : Str) : Fn w (k + 1) (.ref 115) [TStr x] (TStr (Str.ofString "/")) := by
  refine Fn.enter (names := [Str.ofString "path"]) (def_115 w) rfl (by decide) (by decide) (fun vs hv => ?_) fun A L S s₀ s R H => ?_
  · obtain ⟨a, rfl⟩ := args1 hv; rfl
  · o_facts H
    refine ex_if (b := false) H R (Tt.of_bool (Ev.call (Ev.builtin rfl (n_isin _) bb_isin) (.inr (.inl ⟨_, rfl⟩)) (EvL.cons (Ev.var (by walk_at "mem")) (EvL.cons (Ev.builtin rfl (n_bytes _) bb_bytes) EvL.nil)) b_isin_bytes) (fun _ _ => rfl)) fun s₂ H₂ => ?_
    refine ex_return H₂ R Ev.cstr fun v s' H' hp => ?_
    exact H'.ret hp

def joinP (a b : Str) : Str := if (Txt.startswith b (Str.ofString "/") || !((a.length : Int) != 0)) = true then b else if Txt.endswith a (Str.ofString "/") = true then a ++ b else a ++ (Str.ofString "/" ++ b)

theorem binds_122 (w : World) {p q : FP} : Binds w (fdAt 122) [Str.ofString "a", Str.ofString "p"] [p, q] [p, TTup [q]] := fun A s vs S hl ha => by
  obtain ⟨v, u, rfl, h1, h2⟩ := ha.two
  have e : bindArgs (fdAt 122) ⟨[v, u], []⟩ = (newTuple [u] >>= fun t => pure [(Str.ofString "a", v), (Str.ofString "p", t)]) := by rfl
  rw [e]
  refine wpAny_bind (wpAny_newObj_type ?_ (by show (1 : Nat) ≤ sizeLine; decide))
  refine wpAny_pure ⟨[v, .ref s.heap.objs.size], rfl, rfl, Kp.mk' (push_sub _ _), ?_⟩
  refine .cons (p.stab (hide_mono (push_sub _ _)) h1) (.cons ⟨_, #[u], rfl, ⟨_, hide_push hl rfl, rfl, _, rfl⟩, .cons (q.stab (hide_mono (push_sub _ _)) h2) .nil⟩ .nil)

theorem fn_join (w : World) (k : Nat) (a b : Str) (hz : a.length + b.length ≤ 10000) : Fn w (k + 5) (.ref 122) [TStr a, TStr b] (TStr (joinP a b)) := by
  refine Fn.enterG (names := [Str.ofString "a", Str.ofString "p"]) (def_122 w) (by decide) (by decide) (binds_122 w) fun A L S s₀ s R H => ?_
  o_facts H
  refine ex_assign H R (Ev.call (Ev.global rfl (g_101 _)) (.inl ⟨_, rfl, k_101 _⟩) (EvL.cons (Ev.var (by walk_at "mem")) EvL.nil) (fn_fspath w _ a)) (storeOk_of (by decide)) fun s₁ H₁ => ?_
  o_facts H₁
  refine ex_assign H₁ R (Ev.call (Ev.global rfl (g_115 _)) (.inl ⟨_, rfl, k_115 _⟩) (EvL.cons (Ev.var (by walk_at "mem")) EvL.nil) (fn_sep w _ a)) (storeOk_of (by decide)) fun s₂ H₂ => ?_
  o_facts H₂
  refine ex_assign H₂ R (Ev.var (by walk_at "mem")) (storeOk_of (by decide)) fun s₃ H₃ => ?_
  o_facts H₃
  refine ex_try H₃ ?_
  refine ex_for (D := Unit) (q := fun _ => TStr b) (fun _ _ => True) (fun i _ => [(Str.ofString "path", TStr (if i = 0 then a else joinP a b)), (Str.ofString "sep", TStr (Str.ofString "/")), (Str.ofString "p", TTup [TStr b])]) (fun _ _ => []) (fun _ => False) (fun _ => []) (fun _ => []) ()
    (H₃.weak (by simp)) R trivial (Src.tup (Ev.var (by walk_at "mem")) (fun i p hp => ?_)) (storeOk_of (by decide)) (fun _ _ => rfl) (fun _ => rfl) (fun i d hK' S' s' hi _ H' => ?_) (fun d s' _ H' => ?_) (fun d s' h => h.elim)
  · rcases i with _ | i <;> simp at hp
    exact hp.symm
  · obtain rfl : i = 0 := by simpa using hi
    simp only [if_true] at H'
    o_facts H'
    refine ex_assign H' R (Ev.call (Ev.global rfl (g_101 _)) (.inl ⟨_, rfl, k_101 _⟩) (EvL.cons (Ev.var (by walk_at "mem")) EvL.nil) (fn_fspath w _ b)) (storeOk_of (by decide)) fun s₁ H₁ => ?_
    o_facts H₁
    have fin : ∀ (s₃ : Shared) (r : Str) {ρ}, r = joinP a b → (∀ x ∈ [(Str.ofString "path", TStr r), (Str.ofString "sep", TStr (Str.ofString "/")), (Str.ofString "p", TTup [TStr b])], x ∈ ρ) → Fs ⟨w, k + 4, s₀, callEnvC (fdAt 122) L 122, S⟩ hK' S' ρ [] s₃ →
        ∃ d' : Unit, True ∧ Fs ⟨w, k + 4, s₀, callEnvC (fdAt 122) L 122, S⟩ hK' S' [(Str.ofString "path", TStr (if 0 + 1 = 0 then a else joinP a b)), (Str.ofString "sep", TStr (Str.ofString "/")), (Str.ofString "p", TTup [TStr b])] [] s₃ :=
      fun s₃ r ρ hr hsub h => ⟨(), trivial, by subst hr; exact h.weak hsub⟩
    refine ex_if H₁ R (Tt.or (Tt.of_bool (Ev.startswith (Ev.var (by walk_at "mem")) (EvL.cons (Ev.var (by walk_at "mem")) EvL.nil)) (fun _ _ => rfl)) fun _ => Tt.not (Tt.str (Ev.var (by walk_at "mem")) (by omega))) fun s₂ H₂ => ?_
    cases hc : (Txt.startswith b (Str.ofString "/") || !((a.length : Int) != 0)) with
    | true =>
      refine ex_assign H₂ R (Ev.var (by walk_at "mem")) (storeOk_of (by decide)) fun s₃ H₃ => ?_
      o_facts H₃
      refine Run.nil (Run.nil (fin s₃ b (by unfold joinP; rw [if_pos hc]) (by simp) H₃))
    | false =>
      refine ex_if H₂ R (Tt.of_bool (Ev.endswith (Ev.var (by walk_at "mem")) (EvL.cons (Ev.var (by walk_at "mem")) EvL.nil)) (fun _ _ => rfl)) fun s₃ H₃ => ?_
      cases hd : Txt.endswith a (Str.ofString "/") with
      | true =>
        refine ex_aug H₃ R (by walk_at "mem") (Ev.var (by walk_at "mem")) (Op2.iadd_str (by omega)) (storeOk_of (by decide)) fun s₄ H₄ => ?_
        o_facts H₄
        refine Run.nil (Run.nil (Run.nil (fin s₄ (a ++ b) (by unfold joinP; rw [hc, if_neg Bool.false_ne_true, if_pos hd]) (by simp) H₄)))
      | false =>
        have h1 : (Str.ofString "/").length = 1 := by decide
        refine ex_aug H₃ R (by walk_at "mem") (Ev.bin (Ev.var (by walk_at "mem")) (Ev.var (by walk_at "mem")) (Op2.add_str (by omega))) (Op2.iadd_str (by rw [Str.length_append]; omega)) (storeOk_of (by decide)) fun s₄ H₄ => ?_
        o_facts H₄
        refine Run.nil (Run.nil (Run.nil (fin s₄ _ (by unfold joinP; rw [hc, hd]; try rfl) (by simp) H₄)))
  · refine Run.nil ?_
    refine ex_return H' R (Ev.var (by walk_at "mem")) fun v s' H' hp => ?_
    exact H'.ret hp

def baseP (p : Str) : Str := Txt.slice p (some (Txt.rfind p (Str.ofString "/") + 1)) none
theorem fn_base (w : World) (k : Nat) (p : Str) (hz : p.length ≤ 10000) : Fn w (k + 5) (.ref 129) [TStr p] (TStr (baseP p)) := by
  refine Fn.enter (names := [Str.ofString "p"]) (def_129 w) rfl (by decide) (by decide) (fun vs hv => ?_) fun A L S s₀ s R H => ?_
  · obtain ⟨a, rfl⟩ := args1 hv; rfl
  o_facts H
  refine ex_assign H R (Ev.call (Ev.global rfl (g_101 _)) (.inl ⟨_, rfl, k_101 _⟩) (EvL.cons (Ev.var (by walk_at "mem")) EvL.nil) (fn_fspath w _ p)) (storeOk_of (by decide)) fun s₁ H₁ => ?_
  o_facts H₁
  refine ex_assign H₁ R (Ev.call (Ev.global rfl (g_115 _)) (.inl ⟨_, rfl, k_115 _⟩) (EvL.cons (Ev.var (by walk_at "mem")) EvL.nil) (fn_sep w _ p)) (storeOk_of (by decide)) fun s₂ H₂ => ?_
  o_facts H₂
  refine ex_assign H₂ R (Ev.bin (Ev.rfind (Ev.var (by walk_at "mem")) (EvL.cons (Ev.var (by walk_at "mem")) EvL.nil)) Ev.cint Op2.add_int) (storeOk_of (by decide)) fun s₃ H₃ => ?_
  o_facts H₃
  refine ex_return H₃ R (Ev.sub (Ev.var (by walk_at "mem")) (Ev.slice (EvP.some (Ev.var (by walk_at "mem"))) EvP.none EvP.none) OfType.str F.slot_str_getitem.lookup (Op2.sfrom (by omega))) fun v s' H' hp => ?_
  exact H'.ret hp
end Mine
namespace Mine

def rep1 (a y z : Str) : Str := if Txt.contains a y = true then Txt.replace a y z else a
def esc (reps : List (Str × Str)) (a : Str) : Str := reps.foldl (fun a yz => rep1 a yz.1 yz.2) a
def escOk : List (Str × Str) → Str → Bool
  | [], a => true
  | (y, z) :: r, a => decide (a.length ≤ 1000) && escOk r (rep1 a y z)

section
variable {w : World} {k : Nat} {s₀ : Shared} {env : Env} {Sc : List Addr} {hK : Heap} {S₀ : List Addr} {s : Shared} {A : Around} {Q : Flow → Shared → Prop} {rest : List Stmt}
theorem ex_rep {a y z : Str} {k0 k1 k2 : Nat} {p0 p1 p2 p3 p4 p5 p6 p7 p8 p9 : Pos} (H : Fs ⟨w, k, s₀, env, Sc⟩ hK S₀ [(Str.ofString "text", TStr a)] [] s) (R : Room k A) (hz : a.length ≤ 1000) (hx : StoreOk env (Str.ofString "text"))
    (kk : ∀ s', Fs ⟨w, k, s₀, env, Sc⟩ hK S₀ [(Str.ofString "text", TStr (rep1 a y z))] [] s' → Run w A (execs rest env) Q s') (hyz : (y == z) = false := by decide +kernel) (hzz : z.length ≤ 14 := by decide +kernel) (hline : (p4.endLine == p7.line) = true := by rfl) :
    Run w A (execs (.If (.Compare (.Constant (.str y) k0 p0) [.In] [.Name (Str.ofString "text") p1] p2) [.Assign [.Name (Str.ofString "text") p3] (.Call (.Attribute (.Name (Str.ofString "text") p5) (Str.ofString "replace") p4) [.Constant (.str y) k1 p6, .Constant (.str z) k2 p9] [] p7) p8] [] pos  :: rest) env) Q s := by
  refine ⟨wpAny_execs_cons (wpAny_If (wpAny_mono (tt_in (a := a) (by walk_at "mem") R H.xs) (fun b' s₁ ⟨k₁, ht, hb⟩ => ?_) fun _ _ x => x))⟩
  have H₁ := H.step k₁
  subst hb
  cases hc : Txt.contains a y with
  | false =>
    have e : rep1 a y z = a := by unfold rep1; rw [hc]; rfl
    rw [e] at kk
    exact wpAny_execs_nil (kk s₁ H₁).go
  | true =>
    have e : rep1 a y z = Txt.replace a y z := by unfold rep1; rw [if_pos hc]
    rw [e] at kk
    refine wpAny_execs_cons (wpAny_Assign_Name (wpAny_mono (replace_does (Ev.var (by walk_at "mem")) hyz hz hzz R H₁.xs ht hline) (fun v s₂ ⟨k₂, hv⟩ => ?_) fun _ _ x => x.elim) rfl)
    refine (H₁.step k₂).store hx hv fun s₃ H₃ => ?_
    o_facts H₃
    exact wpAny_execs_nil (kk s₃ H₃).go
end

abbrev S' (x : String) : Str := Str.ofString x
def reps0 : List (Str × Str) := [(S' "&", S' "&amp;"), (S' "<", S' "&lt;"), (S' ">", S' "&gt;")]
def reps1 : List (Str × Str) := [(S' "&", S' "&amp;"), (S' "<", S' "&lt;"), (S' ">", S' "&gt;"), (S' "\r", S' "&#xD;")]
def reps2 : List (Str × Str) := [(S' "&", S' "&amp;"), (S' "<", S' "&lt;"), (S' ">", S' "&gt;"), (S' "\"", S' "&quot;"), (S' "\r", S' "&#13;"), (S' "\n", S' "&#10;"), (S' "\t", S' "&#09;")]
def reps3 : List (Str × Str) := [(S' "&", S' "&amp;"), (S' "<", S' "&lt;"), (S' "\"", S' "&quot;"), (S' "\t", S' "&#x9;"), (S' "\n", S' "&#xA;"), (S' "\r", S' "&#xD;")]
def reps4 : List (Str × Str) := [(S' "&", S' "&amp;"), (S' ">", S' "&gt;"), (S' "\"", S' "&quot;")]

theorem def_148 (w : World) : DefAt w 148 (fdAt 148) (bodyAt 148) := ⟨⟨_, _, _, rfl⟩, by rfl, rfl, rfl, rfl, rfl, rfl, rfl, rfl, by decide⟩
theorem def_155 (w : World) : DefAt w 155 (fdAt 155) (bodyAt 155) := ⟨⟨_, _, _, rfl⟩, by rfl, rfl, rfl, rfl, rfl, rfl, rfl, rfl, by decide⟩
theorem def_162 (w : World) : DefAt w 162 (fdAt 162) (bodyAt 162) := ⟨⟨_, _, _, rfl⟩, by rfl, rfl, rfl, rfl, rfl, rfl, rfl, rfl, by decide⟩
theorem def_169 (w : World) : DefAt w 169 (fdAt 169) (bodyAt 169) := ⟨⟨_, _, _, rfl⟩, by rfl, rfl, rfl, rfl, rfl, rfl, rfl, rfl, by decide⟩
theorem def_176 (w : World) : DefAt w 176 (fdAt 176) (bodyAt 176) := ⟨⟨_, _, _, rfl⟩, by rfl, rfl, rfl, rfl, rfl, rfl, rfl, rfl, by decide⟩

theorem escOk_cons {y z a : Str} {r : List (Str × Str)} (h : escOk ((y, z) :: r) a = true) : a.length ≤ 1000 ∧ escOk r (rep1 a y z) = true := by
  unfold escOk at h
  simpa using h

theorem fn_esc0 (w : World) (k : Nat) (a : Str) (hz : escOk reps0 a = true) : Fn w (k + 1) (.ref 148) [TStr a] (TStr (esc reps0 a)) := by
  refine Fn.enter (names := [Str.ofString "text"]) (def_148 w) rfl (by decide) (by decide) (fun vs hv => ?_) fun A L S s₀ s R H => ?_
  · obtain ⟨a, rfl⟩ := args1 hv; rfl
  o_facts H
  have z0 := escOk_cons hz
  have z1 := escOk_cons z0.2
  have z2 := escOk_cons z1.2
  refine ex_try H ?_
  refine ex_rep H R z0.1 (storeOk_of (by decide)) fun s H => ?_
  refine ex_rep H R z1.1 (storeOk_of (by decide)) fun s H => ?_
  refine ex_rep H R z2.1 (storeOk_of (by decide)) fun s H => ?_
  refine ex_return H R (Ev.var (by walk_at "mem")) fun v s' H' hp => ?_
  exact H'.ret hp
theorem fn_esc1 (w : World) (k : Nat) (a : Str) (hz : escOk reps1 a = true) : Fn w (k + 1) (.ref 169) [TStr a] (TStr (esc reps1 a)) := by
  refine Fn.enter (names := [Str.ofString "text"]) (def_169 w) rfl (by decide) (by decide) (fun vs hv => ?_) fun A L S s₀ s R H => ?_
  · obtain ⟨a, rfl⟩ := args1 hv; rfl
  o_facts H
  have z0 := escOk_cons hz
  have z1 := escOk_cons z0.2
  have z2 := escOk_cons z1.2
  have z3 := escOk_cons z2.2
  refine ex_try H ?_
  refine ex_rep H R z0.1 (storeOk_of (by decide)) fun s H => ?_
  refine ex_rep H R z1.1 (storeOk_of (by decide)) fun s H => ?_
  refine ex_rep H R z2.1 (storeOk_of (by decide)) fun s H => ?_
  refine ex_rep H R z3.1 (storeOk_of (by decide)) fun s H => ?_
  refine ex_return H R (Ev.var (by walk_at "mem")) fun v s' H' hp => ?_
  exact H'.ret hp
theorem fn_esc2 (w : World) (k : Nat) (a : Str) (hz : escOk reps2 a = true) : Fn w (k + 1) (.ref 155) [TStr a] (TStr (esc reps2 a)) := by
  refine Fn.enter (names := [Str.ofString "text"]) (def_155 w) rfl (by decide) (by decide) (fun vs hv => ?_) fun A L S s₀ s R H => ?_
  · obtain ⟨a, rfl⟩ := args1 hv; rfl
  o_facts H
  have z0 := escOk_cons hz
  have z1 := escOk_cons z0.2
  have z2 := escOk_cons z1.2
  have z3 := escOk_cons z2.2
  have z4 := escOk_cons z3.2
  have z5 := escOk_cons z4.2
  have z6 := escOk_cons z5.2
  refine ex_try H ?_
  refine ex_rep H R z0.1 (storeOk_of (by decide)) fun s H => ?_
  refine ex_rep H R z1.1 (storeOk_of (by decide)) fun s H => ?_
  refine ex_rep H R z2.1 (storeOk_of (by decide)) fun s H => ?_
  refine ex_rep H R z3.1 (storeOk_of (by decide)) fun s H => ?_
  refine ex_rep H R z4.1 (storeOk_of (by decide)) fun s H => ?_
  refine ex_rep H R z5.1 (storeOk_of (by decide)) fun s H => ?_
  refine ex_rep H R z6.1 (storeOk_of (by decide)) fun s H => ?_
  refine ex_return H R (Ev.var (by walk_at "mem")) fun v s' H' hp => ?_
  exact H'.ret hp
theorem fn_esc3 (w : World) (k : Nat) (a : Str) (hz : escOk reps3 a = true) : Fn w (k + 1) (.ref 176) [TStr a] (TStr (esc reps3 a)) := by
  refine Fn.enter (names := [Str.ofString "text"]) (def_176 w) rfl (by decide) (by decide) (fun vs hv => ?_) fun A L S s₀ s R H => ?_
  · obtain ⟨a, rfl⟩ := args1 hv; rfl
  o_facts H
  have z0 := escOk_cons hz
  have z1 := escOk_cons z0.2
  have z2 := escOk_cons z1.2
  have z3 := escOk_cons z2.2
  have z4 := escOk_cons z3.2
  have z5 := escOk_cons z4.2
  refine ex_try H ?_
  refine ex_rep H R z0.1 (storeOk_of (by decide)) fun s H => ?_
  refine ex_rep H R z1.1 (storeOk_of (by decide)) fun s H => ?_
  refine ex_rep H R z2.1 (storeOk_of (by decide)) fun s H => ?_
  refine ex_rep H R z3.1 (storeOk_of (by decide)) fun s H => ?_
  refine ex_rep H R z4.1 (storeOk_of (by decide)) fun s H => ?_
  refine ex_rep H R z5.1 (storeOk_of (by decide)) fun s H => ?_
  refine ex_return H R (Ev.var (by walk_at "mem")) fun v s' H' hp => ?_
  exact H'.ret hp
theorem fn_esc4 (w : World) (k : Nat) (a : Str) (hz : escOk reps4 a = true) : Fn w (k + 1) (.ref 162) [TStr a] (TStr (esc reps4 a)) := by
  refine Fn.enter (names := [Str.ofString "text"]) (def_162 w) rfl (by decide) (by decide) (fun vs hv => ?_) fun A L S s₀ s R H => ?_
  · obtain ⟨a, rfl⟩ := args1 hv; rfl
  o_facts H
  have z0 := escOk_cons hz
  have z1 := escOk_cons z0.2
  have z2 := escOk_cons z1.2
  refine ex_try H ?_
  refine ex_rep H R z0.1 (storeOk_of (by decide)) fun s H => ?_
  refine ex_rep H R z1.1 (storeOk_of (by decide)) fun s H => ?_
  refine ex_rep H R z2.1 (storeOk_of (by decide)) fun s H => ?_
  refine ex_return H R (Ev.var (by walk_at "mem")) fun v s' H' hp => ?_
  exact H'.ret hp
end Mine
namespace Mine

/-- a name of the function's, as the comprehension sees it -/
def Caught (env : Env) (scope : Scope) (cl : List (Str × Addr)) (y : Str) : Prop :=
  scope.names.lookup y = some .free ∧ (env.kindOf y = some .cell ∨ env.kindOf y = some .free) ∧ cl.lookup y = env.cells.lookup y ∧ (y == ("__classdict__" : Str)) = false

theorem relabel_free {env : Env} : ∀ {names : List (Str × NameKind)} {y : Str}, names.lookup y = some .free →
    (names.map fun (n, k) => if (k == NameKind.free && env.scope.kind == .function && env.kindOf n == some .cell) then (n, NameKind.cell) else (n, k)).lookup y =
      some (if (env.scope.kind == .function && env.kindOf y == some .cell) = true then .cell else .free)
  | [], _, h => by simp at h
  | (n, k) :: r, y, h => by
    have ih := @relabel_free env r y
    show List.lookup y ((if (k == NameKind.free && env.scope.kind == .function && env.kindOf n == some .cell) = true then (n, NameKind.cell) else (n, k)) :: _) = _
    cases hx : y == n with
    | true =>
      simp only [List.lookup_cons, hx] at h
      cases h
      obtain rfl : y = n := by simpa using hx
      cases hc : (env.scope.kind == .function && env.kindOf y == some .cell) with
      | true => simp [List.lookup_cons, hc]
      | false => simp [List.lookup_cons, hc]
    | false =>
      simp only [List.lookup_cons, hx] at h
      by_cases hc : (k == NameKind.free && env.scope.kind == .function && env.kindOf n == some .cell) = true
      · rw [if_pos hc]; simp only [List.lookup_cons, hx]; exact ih h
      · rw [if_neg hc]; simp only [List.lookup_cons, hx]; exact ih h

theorem Caught.loads {env : Env} {scope : Scope} {cl : List (Str × Addr)} {y : Str} {Cc : Addr} {h : Heap} {v : Value} (c : Caught env scope cl y) (hk : env.scope.kind = .function) (l : LoadsTo env h y v) : LoadsTo (compEnvC scope cl Cc env) h y v := by
  obtain ⟨h1, h2, h3, h4⟩ := c
  have hl : ∃ c, cl.lookup y = some c ∧ h.IsCell c (some v) := by
    rcases l with ⟨a, _⟩ | ⟨a, c, b, d⟩ | ⟨a, a', c, b, d⟩
    · rcases h2 with h | h <;> rw [a] at h <;> cases h
    · exact ⟨c, h3.trans b, d⟩
    · exact ⟨c, h3.trans b, d⟩
  have hkd : (compEnvC scope cl Cc env).kindOf y = some (if (env.scope.kind == .function && env.kindOf y == some .cell) = true then .cell else .free) := relabel_free h1
  split at hkd
  · exact .inr (.inl ⟨hkd, hl⟩)
  · exact .inr (.inr ⟨hkd, h4, hl⟩)

/-- the place where a comprehension's tests and elements are reckoned -/
abbrev Cx.comp (C : Cx) (scope : Scope) (cl : List (Str × Addr)) (Cc : Addr) (S' : List Addr) (ρ : List (Str × FP)) : Cx := ⟨C.w, C.k, compEnvC scope cl Cc C.env, S', ρ, []⟩

structure TtIfs (C : Cx) (ifs : List Expr) (b : Bool) : Prop where
  go : ∀ A s, Room C.k A → Xs C s →
    wpAny (MM C.w) A (forIn ifs true fun c r => if r = true then do let ok ← isTrue c C.env (eval c C.env); pure (ForInStep.yield ok) else pure (ForInStep.yield r)) (fun b' s' => Kp s s' ∧ b' = b) NoE s
theorem TtIfs.nil {C : Cx} : TtIfs C [] true := .mk fun A s _ _ => wpAny_tests_nil ⟨Kp.rfl', rfl⟩
theorem TtIfs.one {C : Cx} {c : Expr} {b : Bool} (h : Tt C c b) : TtIfs C [c] b := .mk fun A s R X => wpAny_tests_one (h.go A s R X)

section
variable {C : Cx} {n : Nat} {q r : Nat → FP} {b : Nat → Bool} {ρ : List (Str × FP)} {elt iter : Expr} {x : Str} {px pos : Pos} {ifs : List Expr} {scope : Scope} {cl : List (Str × Addr)} {A : Around} {s : Shared}

/-- how a comprehension's heap stands behind its turns -/
structure CompEnd (C : Cx) (s s' : Shared) (D Cc : Addr) (ps : List FP) : Prop where
  same : Kp s s'
  newD : s.heap.get? D = none
  newC : s.heap.get? Cc = none
  ne : D ≠ Cc
  ns : ∃ m, s'.heap.Ns Cc m
  lst : ∃ ys, s'.heap.PlainList D ys ∧ ∀ h', (∀ b o, b ≠ Cc → s'.heap.get? b = some o → h'.get? b = some o) → AllH (hideAll h' (Cc :: C.S)) ys.toList ps

theorem fresh_size (h : Heap) (a : Addr) (ha : h.objs.size ≤ a) : h.get? a = none := by
  cases e : h.get? a with
  | none => rfl
  | some o => exact absurd (Heap.lt_size e) (Nat.not_lt.mpr ha)

theorem comp_core (R : Room C.k A) (X : Xs C s) (hsrc : Src C n q iter) (hcell : ∀ y ∈ scope.names, y.2 ≠ .cell) (hkind : scope.kind = .function) (hx : scope.names.lookup x = some .local)
    (hρ : ∀ yp ∈ ρ, yp ∈ C.ρ ∧ Caught C.env scope cl yp.1) (hn : n ≤ 100000)
    (ht : ∀ i Cc S', i < n → TtIfs (C.comp scope cl Cc S' ((x, q i) :: ρ)) ifs (b i))
    (he : ∀ i Cc S', i < n → b i = true → Ev (C.comp scope cl Cc S' ((x, q i) :: ρ)) elt (r i)) {RR : Value → Addr → Result → Shared → Prop}
    (hRR : ∀ D Cc s', CompEnd C s s' D Cc (((List.range n).filter b).map r) → RR (.ref D) Cc (.ok .next) s') :
    wpAny (MM C.w) A (eval iter C.env) (fun xv s₁ => wpAny (MM C.w) A (pyIter xv) (fun it s₂ => wpAny (MM C.w) A (newList []) (fun acc s₃ =>
      wpAny (MM C.w) A (newFunctionEnv scope C.env.globals cl [] C.env.qual none .none (some C.env)) (fun cenv s₄ =>
        codeAny (MM C.w) A (.compStart (.ListComp elt [⟨.Name x px, iter, ifs, 0⟩] scope pos) 0 it acc { cenv with scope := relabel scope C.env }) (RR acc cenv.locals) s₄) NoE s₃) NoE s₂) NoE s₁) NoE s := by
  refine wpAny_mono (hsrc.go A s R X) (fun xv s₁ h₁ => wpAny_mono h₁ (fun it s₂ h₂ => ?_) fun _ _ x => x) fun _ _ x => x
  obtain ⟨I, fp, wr, P, St, rfl, W, hst, k₂, hlv, hfr, hfS, hP⟩ := h₂
  have wfp : ∀ b ∈ wr, b ∈ fp := W.sub
  have X₂ := X.keeps k₂
  refine wpAny_newObj_type (wpAny_newFunctionEnv hcell (by intro y hy; simp at hy) (fun h₁ hns₁ hsb₁ => ?_) hkind)
  dsimp only at hns₁ hsb₁ ⊢
  generalize hD : s₂.heap.objs.size = D at hns₁ hsb₁ ⊢
  generalize hH2 : s₂.heap.push { cls := .type "list", dict := none, data := .seq ([] : List Value).toArray } = H2 at hns₁ hsb₁ ⊢
  have hsz2 : H2.objs.size = D + 1 := by rw [← hH2, Heap.size_push, hD]
  generalize hC : H2.objs.size = Cc at hns₁ hsb₁ ⊢
  have hCD : Cc = D + 1 := by rw [← hC, hsz2]
  have hDC : D ≠ Cc := by rw [hCD]; exact Nat.ne_of_lt (Nat.lt_succ_self _)
  have newD2 : s₂.heap.get? D = none := fresh_size _ _ (by rw [hD]; exact Nat.le_refl _)
  have newC2 : s₂.heap.get? Cc = none := fresh_size _ _ (by rw [hD, hCD]; exact Nat.le_succ _)
  have old : ∀ b o, s₂.heap.get? b = some o → h₁.get? b = some o := fun b o e => by
    refine hsb₁.extBut b o (fun h => by rw [h, newC2] at e; cases e) (Heap.get?_push_of_some _ ?_)
    rw [← hH2]; exact Heap.get?_push_of_some _ e
  have hacc : h₁.PlainList D #[] := ⟨_, hsb₁.extBut D _ hDC (Heap.get?_push_of_some _ (by rw [← hH2, ← hD]; exact Heap.get?_push_size _ rfl))⟩
  have hDf : D ∉ fp := fun hm => by obtain ⟨o, e⟩ := hlv _ _ hst D hm; rw [newD2] at e; cases e
  have hCf : Cc ∉ fp := fun hm => by obtain ⟨o, e⟩ := hlv _ _ hst Cc hm; rw [newC2] at e; cases e
  have newD : s.heap.get? D = none := by
    cases e : s.heap.get? D with
    | none => rfl
    | some o => have := keeps_sub k₂ _ _ e; rw [newD2] at this; cases this
  have newC : s.heap.get? Cc = none := by
    cases e : s.heap.get? Cc with
    | none => rfl
    | some o => have := keeps_sub k₂ _ _ e; rw [newC2] at this; cases this
  let S' := D :: Cc :: (wr ++ C.S)
  have hCS : ∀ b, b ∈ C.S → b ≠ D ∧ b ≠ Cc ∧ b ∉ wr := fun b hb => by
    obtain ⟨o, e⟩ := X.live b hb
    exact ⟨(fun h => by rw [h, newD] at e; cases e), (fun h => by rw [h, newC] at e; cases e), (fun h => by rw [hfr b h] at e; cases e)⟩
  -- what stands at a turn
  let Inv : Nat → Shared → Prop := fun i s' => ∃ h tk m ys, s' = { s₂ with heap := h, toks := tk } ∧ s₂.toks ≤ tk ∧ h.Ns Cc m ∧ St i h ∧ h.PlainList D ys ∧ ys.size ≤ i ∧ AllH (hideAll h S') ys.toList (((List.range i).filter b).map r) ∧
    (∀ b o, b ≠ D → b ≠ Cc → b ∉ wr → s₂.heap.get? b = some o → h.get? b = some o)
  have xs : ∀ i h tk m (v : Value), h.Ns Cc m → m x = some v → St i h → h.PlainList D #[] ∨ (∃ ys, h.PlainList D ys) → s₂.toks ≤ tk → (q (i - 1)).holds (hideAll h S') v → (∀ b o, b ≠ D → b ≠ Cc → b ∉ wr → s₂.heap.get? b = some o → h.get? b = some o) →
      Xs (C.comp scope cl Cc S' ((x, q (i - 1)) :: ρ)) { s₂ with heap := h, toks := tk } := fun i h tk m v hm hmx hsti hDl htk hv hk => by
    have ks : ∀ b o, s.heap.get? b = some o → h.get? b = some o := fun b o e => hk b o (fun hh => by rw [hh, newD] at e; cases e) (fun hh => by rw [hh, newC] at e; cases e) (fun hh => by rw [hfr b hh] at e; cases e) (keeps_sub k₂ _ _ e)
    have hsub : Sub (hideAll s.heap C.S) (hideAll h S') := hide_sub (fun b o _ e => ks b o e) fun a ha hn => by
      simp only [S', List.mem_cons, List.mem_append] at ha
      rcases ha with rfl | rfl | h | h
      · exact newD
      · exact newC
      · exact hfr a h
      · exact absurd h hn
    refine { base := X.base.stab ks, tok := Nat.le_trans X₂.tok htk, kind := hkind, glob := X.glob, blt := X.blt, live := (fun a ha => ?_), vars := (fun xp hxp => ?_), own := (fun a ha => nomatch ha) }
    · simp only [S', List.mem_cons, List.mem_append] at ha
      rcases ha with rfl | rfl | h' | h'
      · rcases hDl with ⟨_, e⟩ | ⟨_, _, e⟩ <;> exact ⟨_, e⟩
      · obtain ⟨o, _, _, e, _⟩ := hm; exact ⟨o, e⟩
      · exact hlv _ _ hsti a (wfp a h')
      · obtain ⟨o, e⟩ := X.live a h'; exact ⟨o, ks _ _ e⟩
    · rcases List.mem_cons.mp hxp with rfl | hxp
      · exact ⟨v, .inl ⟨lookup_relabel_local hx, m, hm, hmx⟩, hv⟩
      · obtain ⟨h1, h2⟩ := hρ xp hxp
        obtain ⟨u, hu, hpu⟩ := X.vars xp h1
        exact ⟨u, (h2.loads X.kind hu).stab ks, xp.2.stab hsub hpu⟩
  have hS' : ∀ b, b ∉ S' → b ≠ D ∧ b ≠ Cc ∧ b ∉ wr := fun b hb => by
    simp only [S', List.mem_cons, List.mem_append, not_or] at hb
    exact ⟨hb.1, hb.2.1, hb.2.2.1⟩
  have loop : ∀ i s', Inv i s' → i ≤ n → codeAny (MM C.w) A (.compLoop (.ListComp elt [⟨.Name x px, iter, ifs, 0⟩] scope pos) 0 (.ref I) (.ref D) (compEnvC scope cl Cc C.env)) (RR (.ref D) Cc) s' := fun i s' hi hin => by
    refine codeAny_compLoop_tests (fun m s' => ∃ i, m = n + 1 - i ∧ i ≤ n ∧ Inv i s') ?_ (n + 1 - i) ⟨i, rfl, hin, hi⟩
    rintro m s' ⟨i, rfl, hin, h, tk, mm, ys, rfl, htk, hm, hsti, hpl, hys, hA, hk⟩
    have hDw : D ∉ wr := fun hm => hDf (wfp _ hm)
    have hCw : Cc ∉ wr := fun hm => hCf (wfp _ hm)
    rcases Nat.lt_or_ge i n with hlt | hge
    · refine wpAny_with_toks (Nat.le_refl _) (W.item i _ _ _ hlt hsti fun v h' tk' hv hst' hkk => ?_)
      intro htk'
      dsimp only at htk' hkk ⊢
      have hk' : ∀ b o, b ≠ D → b ≠ Cc → b ∉ wr → s₂.heap.get? b = some o → h'.get? b = some o := fun b o h1 h2 h3 e => hkk b o h3 (hk b o h1 h2 h3 e)
      refine noE (wpAny_assign_Name (wpAny_storeName_local (env := compEnvC scope cl Cc C.env) (lookup_relabel_local hx) (hm.at' fun o e => hkk Cc o hCw e) (fun h3 hn3 hs3 => ?_) (by show (scope.kind == .class || (scope.kind == .module && _)) = false; rw [hkind]; rfl)))
      have hDl3 : h3.PlainList D ys := (hpl.at fun o e => hkk D o hDw e).extBut hs3.extBut hDC
      have hst3 : St (i + 1) h3 := W.frame _ _ _ hst' fun b hb o e => (hs3.2 b (fun q => hCf (show Cc ∈ fp from (show b = Cc from q) ▸ hb))).trans e
      have hk3 : ∀ b o, b ≠ D → b ≠ Cc → b ∉ wr → s₂.heap.get? b = some o → h3.get? b = some o := fun b o h1 h2 h4 e => (hs3.2 b h2).trans (hk' b o h1 h2 h4 e)
      have hq3 : (q i).holds (hideAll h3 S') v := (q i).stab (hide_sub (fun b o hb e => hk3 b o (fun h => by rw [h, newD2] at e; cases e) (fun h => by rw [h, newC2] at e; cases e) (fun h => hb (List.mem_append_left _ h)) e) fun a ha hn => by
        simp only [S', List.mem_cons, List.mem_append] at ha
        rcases ha with rfl | rfl | h | h
        · exact newD2
        · exact newC2
        · exact absurd (List.mem_append_left _ h) hn
        · exact absurd (List.mem_append_right _ h) hn) (hP i v hv)
      have hAsub : Sub (hideAll h S') (hideAll h3 S') := hide_sub (fun b o hb e => (hs3.2 b (hS' b hb).2.1).trans (hkk b o (hS' b hb).2.2 e)) fun a ha hn => absurd ha hn
      have X3 := xs (i + 1) h3 (tk' + 1) _ v hn3 (by simp) hst3 (.inr ⟨ys, hDl3⟩) (by omega) hq3 hk3
      refine noE (wpAny_mono ((ht i Cc S' hlt).go A _ R X3) (fun ok s₄ ⟨k₄, hok⟩ => ?_) fun _ _ x => x)
      subst hok
      have j4 := keeps_sub k₄
      have keep4 : ∀ {s₅ : Shared}, Kp { s₂ with heap := h3, toks := tk' + 1 } s₅ → ∃ h5 tk5, s₅ = { s₂ with heap := h5, toks := tk5 } ∧ tk' + 1 ≤ tk5 ∧ Sub h3 h5 := fun {s₅} k => by
        obtain ⟨⟨h5, t5, rfl, kk⟩, tt⟩ := k
        exact ⟨h5, t5, rfl, tt, kk⟩
      cases hb : b i with
      | false =>
        simp only [Bool.false_eq_true, if_false]
        obtain ⟨h5, tk5, rfl, ht5, s5⟩ := keep4 k₄
        refine ⟨n + 1 - (i + 1), by omega, i + 1, rfl, hlt, h5, tk5, _, ys, rfl, by omega, hn3.keeps s5, W.frame _ _ _ hst3 (fun b _ o e => s5 b o e), hDl3.at (fun o e => s5 _ o e), by omega, ?_, fun b o h1 h2 h4 e => s5 _ _ (hk3 b o h1 h2 h4 e)⟩
        rw [List.range_succ, List.filter_append, List.map_append]
        simp only [List.filter_cons, hb, Bool.false_eq_true, if_false, List.filter_nil, List.map_nil, List.append_nil]
        exact hA.stab (hAsub.trans (hide_mono s5))
      | true =>
        simp only [if_true]
        refine noE (wpAny_mono ((he i Cc S' hlt hb).go A s₄ R (X3.keeps k₄)) (fun y s₅ ⟨k₅, hy⟩ => ?_) fun _ _ x => x)
        obtain ⟨h5, tk5, rfl, ht5, s5⟩ := keep4 (Kp.trans' k₄ k₅)
        have hDl5 : h5.PlainList D ys := hDl3.at (fun o e => s5 _ o e)
        refine noE (wpAny_list_append_plain hDl5 (fun h6 hl6 hs6 => ?_) (by rw [sizeLine_eq]; omega))
        have sub6 : Sub (hideAll h5 S') (hideAll h6 S') := hide_sub (fun b o hb e => (hs6.2 b (hS' b hb).1).trans e) fun a ha hn => absurd ha hn
        refine ⟨n + 1 - (i + 1), by omega, i + 1, rfl, hlt, h6, tk5, _, ys.push y, rfl, by omega, (hn3.keeps s5).sameBut hs6 (Ne.symm hDC), W.frame _ _ _ hst3 (fun b hb o e => (hs6.2 b (fun q => hDf (by rw [← q]; exact hb))).trans (s5 b o e)), hl6, ?_, ?_, fun b o h1 h2 h4 e => (hs6.2 b h1).trans (s5 _ _ (hk3 b o h1 h2 h4 e))⟩
        · rw [Array.size_push]; omega
        · rw [List.range_succ, List.filter_append, List.map_append]
          simp only [List.filter_cons, hb, if_true, List.filter_nil, List.map_cons, List.map_nil, Array.toList_push]
          exact (hA.stab ((hAsub.trans (hide_mono s5)).trans sub6)).snoc ((r i).stab sub6 hy)
    · obtain rfl : i = n := Nat.le_antisymm hin hge
      refine wpAny_with_toks (Nat.le_refl _) (W.done _ _ _ hsti fun h' tk' hkk => ?_)
      intro htk'
      dsimp only at htk' hkk ⊢
      refine hRR D Cc _ ⟨⟨⟨h', tk', ?_, fun b o e => ?_⟩, ?_⟩, newD, newC, hDC, ⟨mm, hm.at' fun o e => hkk Cc o hCw e⟩, ys, hpl.at fun o e => hkk D o hDw e, fun h'' hk'' => ?_⟩
      · obtain ⟨⟨a1, a2, a3, _⟩, _⟩ := k₂; rw [a3]
      · exact hkk b o (fun hh => by rw [hfr b hh] at e; cases e) (hk b o (fun hh => by rw [hh, newD] at e; cases e) (fun hh => by rw [hh, newC] at e; cases e) (fun hh => by rw [hfr b hh] at e; cases e) (keeps_sub k₂ _ _ e))
      · exact Nat.le_trans k₂.2 (Nat.le_trans htk htk')
      · refine hA.stab (hide_sub (fun b o hb e => hk'' b o (hS' b hb).2.1 (hkk b o (hS' b hb).2.2 e)) fun a ha hn => absurd ?_ hn)
        simp only [S', List.mem_cons, List.mem_append] at ha ⊢
        rcases ha with h | h
        · exact .inr (.inl h)
        · exact .inr (.inr (.inr h))
  have inv0 : Inv 0 { s₂ with heap := h₁, toks := s₂.toks + ([] : List (Str × Value)).length } := ⟨h₁, _, _, #[], rfl, Nat.le_refl _, hns₁, W.frame _ _ _ hst (fun b _ o e => old b o e), hacc, Nat.zero_le _, .nil, fun b o _ _ _ e => old b o e⟩
  exact codeAny_compStart_list (loop 0 _ inv0 (Nat.zero_le _)) (W.self 0 _ _ _ (W.frame _ _ _ hst fun b _ o e => old b o e) (loop 0 _ inv0 (Nat.zero_le _)))

theorem Ev.comp (hsrc : Src C n q iter) (hclos : closureFor scope C.env = pure cl) (hcell : ∀ y ∈ scope.names, y.2 ≠ .cell) (hkind : scope.kind = .function) (hnames : ∀ y ∈ scope.names, y.2 = .local → scope.names.lookup y.1 = some .local)
    (hx : scope.names.lookup x = some .local) (hρ : ∀ yp ∈ ρ, yp ∈ C.ρ ∧ Caught C.env scope cl yp.1) (hn : n ≤ 100000)
    (ht : ∀ i Cc S', i < n → TtIfs (C.comp scope cl Cc S' ((x, q i) :: ρ)) ifs (b i))
    (he : ∀ i Cc S', i < n → b i = true → Ev (C.comp scope cl Cc S' ((x, q i) :: ρ)) elt (r i))
    (hs : ∀ x, foldedSetIterable iter C.env x = pure x := by intro _; rfl) : Ev C (.ListComp elt [⟨.Name x px, iter, ifs, 0⟩] scope pos) (TLst (((List.range n).filter b).map r)) := .mk fun A s R X => by
  rw [eval_ListComp]
  refine wpAny_comprehension_free (use := none) rfl hs hclos hkind hnames (comp_core (RR := fun acc Cc => compPost (MM C.w) A NoE none (fun v s' => Kp s s' ∧ (TLst (((List.range n).filter b).map r)).holds (hideAll s'.heap C.S) v) acc Cc)
    R X hsrc hcell hkind hx hρ hn ht he fun D Cc s' h => ?_)
  obtain ⟨m, hm⟩ := h.ns
  obtain ⟨ys, ⟨e, hpl⟩, hA⟩ := h.lst
  refine ⟨m, hm, fun h' hs' => ⟨⟨⟨h', s'.toks, ?_, fun b o e => ?_⟩, h.same.2⟩, D, ys, rfl, ⟨_, (hide_get ..).2 ⟨(hs'.2 D h.ne).trans hpl, fun hm => ?_⟩, rfl, _, rfl⟩, ?_⟩⟩
  · obtain ⟨⟨a, c, d, _⟩, _⟩ := h.same; rw [d]
  · exact (hs'.2 b (fun q => by rw [q, h.newC] at e; cases e)).trans (keeps_sub h.same b o e)
  · obtain ⟨o, e⟩ := X.live D hm; rw [h.newD] at e; cases e
  · exact (hA h' fun b o hb e => (hs'.2 b hb).trans e).stab (hide_sub (fun _ _ _ e => e) fun a ha hn => absurd (List.mem_cons_of_mem _ ha) hn)
end

theorem filter_all {α : Type} (l : List α) : l.filter (fun _ => true) = l := List.filter_eq_self.mpr fun _ _ => rfl
theorem Ev.compA {C : Cx} {n : Nat} {q r : Nat → FP} {ρ : List (Str × FP)} {elt iter : Expr} {x : Str} {px pos : Pos} {scope : Scope} {cl : List (Str × Addr)} (hsrc : Src C n q iter) (hclos : closureFor scope C.env = pure cl) (hcell : ∀ y ∈ scope.names, y.2 ≠ .cell) (hkind : scope.kind = .function) (hnames : ∀ y ∈ scope.names, y.2 = .local → scope.names.lookup y.1 = some .local)
    (hx : scope.names.lookup x = some .local) (hρ : ∀ yp ∈ ρ, yp ∈ C.ρ ∧ Caught C.env scope cl yp.1) (hn : n ≤ 100000)
    (he : ∀ i Cc S', i < n → Ev (C.comp scope cl Cc S' ((x, q i) :: ρ)) elt (r i))
    (hs : ∀ x, foldedSetIterable iter C.env x = pure x := by intro _; rfl) : Ev C (.ListComp elt [⟨.Name x px, iter, [], 0⟩] scope pos) (TLst ((List.range n).map r)) :=
  Ev.eq (Ev.comp (b := fun _ => true) hsrc hclos hcell hkind hnames hx hρ hn (fun _ _ _ _ => TtIfs.nil) (fun i Cc S' hi _ => he i Cc S' hi) hs) (by rw [filter_all])

section
variable {F : Fx} {hK : Heap} {S₀ : List Addr} {ρ ρc : List (Str × FP)} {ω : List (Addr × OP)} {s : Shared} {A : Around} {Q : Flow → Shared → Prop} {rest : List Stmt}
  {n : Nat} {q r : Nat → FP} {b : Nat → Bool} {elt iter : Expr} {x y : Str} {px py pos spos : Pos} {ifs : List Expr} {scope : Scope} {cl : List (Str × Addr)}
theorem ex_assign_compF (H : Fs F hK S₀ ρ ω s) (R : Room F.k A) (hsrc : Src (F.cx S₀ ρ ω) n q iter) (hclos : closureFor scope F.env = pure cl) (hcell : ∀ y ∈ scope.names, y.2 ≠ .cell) (hkind : scope.kind = .function)
    (hnames : ∀ y ∈ scope.names, y.2 = .local → scope.names.lookup y.1 = some .local) (hx : scope.names.lookup x = some .local) (hρ : ∀ yp ∈ ρc, yp ∈ ρ ∧ Caught F.env scope cl yp.1) (hn : n ≤ 100000)
    (ht : ∀ i Cc S', i < n → TtIfs ((F.cx S₀ ρ ω).comp scope cl Cc S' ((x, q i) :: ρc)) ifs (b i))
    (he : ∀ i Cc S', i < n → b i = true → Ev ((F.cx S₀ ρ ω).comp scope cl Cc S' ((x, q i) :: ρc)) elt (r i)) (hy : StoreOk F.env y)
    (k : ∀ s', Fs F hK S₀ ((y, TLst (((List.range n).filter b).map r)) :: drp y ρ) ω s' → wpAny (MM F.w) A (execs rest F.env) Q NoE s')
    (hsw : swapsWith (.ListComp elt [⟨.Name x px, iter, ifs, 0⟩] scope pos) (some (.Name y py)) spos.line F.env = pure true := by rfl)
    (hs : ∀ x, foldedSetIterable iter F.env x = pure x := by intro _; rfl) :
    wpAny (MM F.w) A (execs (.Assign [.Name y py] (.ListComp elt [⟨.Name x px, iter, ifs, 0⟩] scope pos) spos :: rest) F.env) Q NoE s := by
  refine wpAny_execs_cons ?_
  rw [exec_Assign_Name_used _ _ _ _ hsw]
  refine wpAny_bind (wpAny_standAt (wpAny_bind ?_))
  show wpAny _ A (do let _ ← comprehension (.ListComp elt [⟨.Name x px, iter, ifs, 0⟩] scope pos) scope F.env _ (newList []) false (eval iter F.env) (some (assign (.Name y py) F.env))) _ _ s
  refine wpAny_bind (wpAny_mono (wpAny_comprehension_free (use := some (assign (.Name y py) F.env)) (Q := fun _ s' => wpAny (MM F.w) A (execs rest F.env) Q NoE s') rfl hs hclos hkind hnames
    (comp_core (C := F.cx S₀ ρ ω) (RR := fun acc Cc => compPost (MM F.w) A NoE (some (assign (.Name y py) F.env)) (fun _ s' => wpAny (MM F.w) A (execs rest F.env) Q NoE s') acc Cc) R H.xs hsrc hcell hkind hx hρ hn ht he fun D Cc s' h => ?_)) (fun _ s' hq => wpAny_pure (wpAny_pure hq)) fun _ _ e => e)
  obtain ⟨m, hm⟩ := h.ns
  obtain ⟨ys, ⟨e, hpl⟩, hA⟩ := h.lst
  show wpAny _ A (assign (.Name y py) F.env (.ref D)) _ _ _
  have newS : ∀ c, s.heap.get? c = none → c ∉ F.S S₀ ω := fun c hc hm => by obtain ⟨o, e⟩ := H.live c hm; rw [hc] at e; cases e
  have hCown : Cc ∉ F.own ++ ω.map (·.1) := fun hm => newS Cc h.newC (by
    unfold Fx.S
    rcases List.mem_append.mp hm with h | h
    · exact List.mem_append_left _ h
    · exact List.mem_append_right _ (List.mem_append_left _ h))
  have H₁ := H.hideMore h.same (S₁ := [Cc]) (fun c hc => by
    rw [List.mem_singleton] at hc; subst hc
    obtain ⟨o, _, _, e, _⟩ := hm; exact ⟨o, e⟩) (fun c hc => by rw [List.mem_singleton] at hc; subst hc; exact h.newC)
  refine wpAny_assign_Name (H₁.rebase.store hy (p := TLst (((List.range n).filter b).map r)) ?_ fun s'' H₂ => ?_)
  · refine ⟨D, ys, rfl, ⟨_, (hide_get ..).2 ⟨hpl, fun hm => ?_⟩, rfl, _, rfl⟩, ?_⟩
    · have h1 := newS D h.newD
      unfold Fx.S at hm h1
      simp only [List.mem_append, List.mem_singleton, not_or] at hm h1
      rcases hm with h | h' | h' | h'
      · exact h1.1 h
      · exact h1.2.1 h'
      · exact h.ne h'
      · exact h1.2.2 h'
    · refine (hA s'.heap fun _ _ _ e => e).stab (hide_sub (fun _ _ _ e => e) fun a ha hn => absurd ?_ hn)
      unfold Fx.S at ha
      simp only [List.mem_append, List.mem_singleton] at ha
      rcases ha with h | h | h | h
      · exact List.mem_cons_of_mem _ (List.mem_append_left _ h)
      · exact List.mem_cons_of_mem _ (List.mem_append_right _ (List.mem_append_left _ h))
      · rw [h]; exact List.mem_cons_self
      · exact List.mem_cons_of_mem _ (List.mem_append_right _ (List.mem_append_right _ h))
  · have hm'' : s''.heap.Ns Cc m := hm.at' fun o e => H₂.keep _ _ ((hide_get ..).2 ⟨e, hCown⟩)
    refine ⟨m, hm'', fun h' hs' => k _ ?_⟩
    have H₃ := H₁.unbase (hK' := hK) rfl H₂
    refine H₃.turnShow (wr := [Cc]) (t := s''.toks) H.sc (fun c hc hmem => ?_) (fun c hc => ?_) (fun c hc => ?_) (fun c o hc e => (hs'.2 c (fun q => hc (by rw [q]; exact List.mem_singleton.mpr rfl))).trans e) (Nat.le_refl _)
    · rw [List.mem_singleton] at hc; subst hc
      exact newS _ h.newC (List.mem_append_right _ (List.mem_append_right _ hmem))
    · rw [List.mem_singleton] at hc; subst hc
      constructor
      · cases e : hK.get? c with
        | none => rfl
        | some o => have := H.keep c o e; rw [h.newC] at this; cases this
      · cases e : F.s₀.heap.get? c with
        | none => rfl
        | some o => have := keeps_sub H.same c o e; rw [h.newC] at this; cases this
    · rw [List.mem_singleton] at hc; subst hc; exact hCown
end

theorem ex_assign_comp {w : World} {k : Nat} {s₀ : Shared} {env : Env} {Sc : List Addr} {hK : Heap} {S₀ : List Addr} {ρ ρc : List (Str × FP)} {ω : List (Addr × OP)} {s : Shared} {A : Around} {Q : Flow → Shared → Prop} {rest : List Stmt}
  {n : Nat} {q r : Nat → FP} {b : Nat → Bool} {elt iter : Expr} {x y : Str} {px py pos spos : Pos} {ifs : List Expr} {scope : Scope} {cl : List (Str × Addr)} (H : Fs ⟨w, k, s₀, env, Sc⟩ hK S₀ ρ ω s) (R : Room k A) (hsrc : Src (Fx.cx ⟨w, k, s₀, env, Sc⟩ S₀ ρ ω) n q iter) (hclos : closureFor scope env = pure cl) (hcell : ∀ y ∈ scope.names, y.2 ≠ .cell) (hkind : scope.kind = .function)
    (hnames : ∀ y ∈ scope.names, y.2 = .local → scope.names.lookup y.1 = some .local) (hx : scope.names.lookup x = some .local) (hρ : ∀ yp ∈ ρc, yp ∈ ρ ∧ Caught env scope cl yp.1) (hn : n ≤ 100000)
    (ht : ∀ i Cc S', i < n → TtIfs ((Fx.cx ⟨w, k, s₀, env, Sc⟩ S₀ ρ ω).comp scope cl Cc S' ((x, q i) :: ρc)) ifs (b i))
    (he : ∀ i Cc S', i < n → b i = true → Ev ((Fx.cx ⟨w, k, s₀, env, Sc⟩ S₀ ρ ω).comp scope cl Cc S' ((x, q i) :: ρc)) elt (r i)) (hy : StoreOk env y)
    (kk : ∀ s', Fs ⟨w, k, s₀, env, Sc⟩ hK S₀ ((y, TLst (((List.range n).filter b).map r)) :: drp y ρ) ω s' → Run w A (execs rest env) Q s')
    (hsw : swapsWith (.ListComp elt [⟨.Name x px, iter, ifs, 0⟩] scope pos) (some (.Name y py)) spos.line env = pure true := by rfl)
    (hs : ∀ x, foldedSetIterable iter env x = pure x := by intro _; rfl) :
    Run w A (execs (.Assign [.Name y py] (.ListComp elt [⟨.Name x px, iter, ifs, 0⟩] scope pos) spos :: rest) env) Q s := ⟨ex_assign_compF H R hsrc hclos hcell hkind hnames hx hρ hn ht he hy (fun s' H' => (kk s' H').go) hsw hs⟩
end Mine
namespace Mine

/-! #### the signs of a text -/
theorem Src.str {C : Cx} {e : Expr} {x : Str} {q : Nat → FP} (h : Ev C e (TStr x)) (hq : ∀ i c, x.cps[i]? = some c → q i = TStr ⟨#[c]⟩) : Src C x.cps.size q e := .mk fun A s R X =>
  (h.go A s R X).use fun v s₁ k₁ hv => by
    obtain ⟨t, rfl⟩ := hv
    have X₁ := X.keeps k₁
    have fresh : s₁.heap.get? s₁.heap.objs.size = none := fresh_size _ _ (Nat.le_refl _)
    have fin : ∀ (T : String) (W : Walks PySem.Challenge.pw_rt0057_01 C.w A s₁.heap.objs.size [s₁.heap.objs.size] [s₁.heap.objs.size] x.cps.size (SignAt x) (fun i h => h.IsStrIter s₁.heap.objs.size T x t i)) (o : Obj) (ho : (s₁.heap.push o).IsStrIter s₁.heap.objs.size T x t 0),
        ∃ I fp wr P St, Value.ref s₁.heap.objs.size = .ref I ∧ Walks PySem.Challenge.pw_rt0057_01 C.w A I fp wr x.cps.size P St ∧ St 0 (s₁.heap.push o) ∧ Kp s { s₁ with heap := s₁.heap.push o } ∧
        (∀ j h, St j h → ∀ b ∈ fp, ∃ o, h.get? b = some o) ∧ (∀ b ∈ wr, s.heap.get? b = none) ∧ (∀ b ∈ fp, b ∉ C.S) ∧ ∀ i v, P i v → (q i).holds (hideAll (s₁.heap.push o) (wr ++ C.S)) v := fun T W o ho => by
      refine ⟨_, _, _, _, _, rfl, W, ho, Kp.trans' k₁ (Kp.mk' (push_sub _ _)), fun j h hs b hb => ?_, fun b hb => ?_, fun b hb => ?_, fun i v hp => ?_⟩
      · rw [List.mem_singleton] at hb; subst hb
        obtain ⟨o, ho, _⟩ := hs; exact ⟨o, ho⟩
      · rw [List.mem_singleton] at hb; subst hb
        cases e : s.heap.get? s₁.heap.objs.size with
        | none => rfl
        | some o => have := keeps_sub k₁ _ _ e; rw [fresh] at this; cases this
      · rw [List.mem_singleton] at hb; subst hb
        exact fresh_notin X₁.live
      · obtain ⟨c, u, hc, rfl⟩ := hp
        rw [hq i c hc]; exact ⟨u, rfl⟩
    cases ha : x.cps.all (· < 128)
    · exact wpAny_pyIter_wide ha (fin _ (Walks.strWide R.han _ x t) _ ⟨_, Heap.get?_push_size _ rfl, rfl, rfl⟩)
    · exact wpAny_pyIter_ascii ha (fin _ (Walks.strAscii R.han _ x t) _ ⟨_, Heap.get?_push_size _ rfl, rfl, rfl⟩)

/-! #### dicts from texts to texts -/
def TMap (w : World) (f : Str → Option Str) : FP := ⟨fun h v => ∃ a g, v = .ref a ∧ (a == sysModules) = false ∧ h.MapOf (strKind PySem.Challenge.pw_rt0057_01 w) a g ∧ ∀ k, match f k with | some y => ∃ t, g k = some (.str y t) | none => g k = none,
  fun k ⟨a, g, e, l, ⟨o, es, ep, ho, r⟩, y⟩ => ⟨a, g, e, l, ⟨o, es, ep, k _ _ ho, r⟩, y⟩⟩

inductive DPairs : List (Option Expr) → List Expr → List (Str × Str) → Prop where
  | nil : DPairs [] [] []
  | cons {k v : Str} {n n' : Nat} {p p' : Pos} {ks vs es} : DPairs ks vs es → DPairs (some (.Constant (.str k) n p) :: ks) (.Constant (.str v) n' p' :: vs) ((k, v) :: es)
theorem DPairs.len {ks vs es} (h : DPairs ks vs es) : ks.length = vs.length ∧ ks.length = es.length ∧ ks.all (·.isSome) = true := by
  induction h with
  | nil => exact ⟨rfl, rfl, rfl⟩
  | cons _ ih => exact ⟨congrArg (· + 1) ih.1, congrArg (· + 1) ih.2.1, by simpa using ih.2.2⟩

inductive KVs : List (Str × Value) → List (Str × Str) → Prop where
  | nil : KVs [] []
  | cons {k v t l es} : KVs l es → KVs ((k, .str v t) :: l) ((k, v) :: es)
theorem KVs.keys {l es} (h : KVs l es) : l.map (·.1) = es.map (·.1) := by
  induction h with
  | nil => rfl
  | cons _ ih => simp [ih]
theorem KVs.at {l es} (h : KVs l es) (k : Str) : match es.lookup k with | some y => ∃ t, valueAt l k = some (.str y t) | none => valueAt l k = none := by
  induction h with
  | nil => rfl
  | @cons k' v t l es _ ih =>
    unfold valueAt at ih ⊢
    simp only [List.lookup_cons, List.find?_cons]
    by_cases e : k = k'
    · subst e; simp
    · have e1 : (k == k') = false := by simpa using e
      have e2 : decide (k' = k) = false := decide_eq_false fun h => e h.symm
      simp only [e1, e2]
      exact ih

theorem dpairs_walk {w : World} {A : Around} {env : Env} {pos : Pos} : ∀ {ks vs es} (h : DPairs ks vs es) (s : Shared), wpAny (MM w) A (evalPairs (pairTrees ks vs env pos)) (fun r s₁ => ∃ l n, Carries (strKind PySem.Challenge.pw_rt0057_01 w) r l ∧ KVs l es ∧ s₁ = { s with toks := s.toks + n }) NoE s
  | _, _, _, .nil, s => pairTrees_nil_walk ⟨[], 0, trivial, .nil, rfl⟩
  | _, _, _, .cons (k := kk) (v := vv) (n := n1) (n' := n2) (p := p1) (p' := p2) h, s => by
    refine pairTrees_cons_walk (Constant_str (k := n1) (pos := p1) (Constant_str (k := n2) (pos := p2) ?_))
    refine wpAny_mono (dpairs_walk h _) (fun r s₁ ⟨l, n, a, b, c⟩ => ⟨(kk, .str vv (s.toks + 1)) :: l, n + 2, ⟨strKind_is _ _ _ _, rfl, a⟩, .cons b, ?_⟩) fun _ _ x => x
    rw [c]
    show ({ s with toks := _ } : Shared) = _
    congr 1
    dsimp only
    omega

theorem Ev.dict {C : Cx} {pos : Pos} {ks vs es} (h : DPairs ks vs es) (hn : (es.map (·.1)).Nodup) (h0 : es ≠ []) (hl : es.length ≤ 15) : Ev C (.Dict ks vs pos) (TMap C.w fun k => es.lookup k) := .mk fun A s R X => by
  have hlen := h.len
  refine Does.up (wpAny_Dict_walk (knd := strKind PySem.Challenge.pw_rt0057_01 C.w) hlen.2.2 hlen.1 (fun e => h0 (List.length_eq_zero_iff.mp (by rw [← hlen.2.1, e]; rfl))) (by rw [hlen.2.1]; exact hl) (wpAny_mono (dpairs_walk h _) (fun r s₁ ⟨l, n, hc, hk, e⟩ => ?_) fun _ _ x => x))
  subst e
  refine ⟨l, hc, ⟨_, #[], 0, Heap.get?_push_size _ rfl, ⟨rfl, rfl, rfl⟩, rfl, (fun e he => by simp at he), .nil, .nil⟩, fun h' hd hs => ?_⟩
  rw [merged_nil_of_nodup _ (by rw [hk.keys]; exact hn)] at hd
  have fr := fresh_size s.heap _ (Nat.le_refl _)
  have sub : Sub s.heap h' := fun b o e => by
    refine (hs.2 b (fun q => by rw [q, fr] at e; cases e)).trans (push_sub _ _ _ _ e)
  refine ⟨⟨h', _, rfl, sub⟩, _, _, rfl, ?_, (?_ : Heap.DictOf _ _ _ _).mapOf, hk.at⟩
  · have h3 : s.heap.objs.size ≠ sysModules := fun q => by
      obtain ⟨oc, od, sl, lk⟩ := (def_28 C.w).look
      have := Heap.lt_size (X.base.kin _ _ lk)
      rw [q] at this
      exact absurd this (by decide)
    simpa using h3
  · obtain ⟨o, es', ep, ho, r⟩ := hd
    exact ⟨o, es', ep, (hide_get ..).2 ⟨ho, fresh_notin X.live⟩, r⟩

theorem Ev.get2 {C : Cx} {l x y : Expr} {pos apos : Pos} {f : Str → Option Str} {k d : Str} (ho : Ev C l (TMap C.w f)) (hx : Ev C x (TStr k)) (hy : Ev C y (TStr d)) (hline : (apos.endLine == pos.line) = true := by rfl)
    (hbase : ∀ env, attributeBase l "get" env (eval l env) = eval l env := by intro _; rfl)
    (he : ∀ env, starEach [x, y] env = [(false, eval x env), (false, eval y env)] := by intro _; rfl)
    (hfew : ((backTo pos (starEach [x, y] C.env)).all (fun x => !x.1) && (backToKw pos (keywordEach [] C.env)).all (fun x => x.1.isSome)
      && decide ([x, y].length + ([] : List Keyword).length + (if ([] : List Keyword).isEmpty then 0 else 1) < 30)) = true := by rfl) :
    Ev C (.Call (.Attribute l "get" apos) [x, y] [] pos) (TStr ((f k).getD d)) := .mk fun A s R X => by
  refine wpAny_Call_method_lateS (hbase _) hfew hline ((ho.go A s R X).use fun v s₁ k₁ hv => ?_)
  have X₁ := X.keeps k₁
  obtain ⟨a, g, rfl, hm, ⟨o, es, ep, hho, hex, r⟩, hg⟩ := hv
  have hh := ((hide_get ..).1 hho).1
  have hM : s₁.heap.MapOf (strKind PySem.Challenge.pw_rt0057_01 C.w) a g := ⟨o, es, ep, hh, hex, r⟩
  refine ⟨"dict", "dict.get", F.plainAttrs_dict, F.slot_dict_get, F.type_dict_get, hM.typeIs, (fun b e => by cases e; exact ⟨o, hh, hex.2.1⟩), ?_⟩
  rw [he]
  change wpAny _ _ (callWith pos (.builtin "dict.get") [.ref a] [(false, eval x C.env), (false, eval y C.env)] []) _ _ _
  refine wpAny_dict_get2 (knd := strKind PySem.Challenge.pw_rt0057_01 C.w) hm ((hx.go A s₁ R X₁).use fun u s₂ k₂ hu => ((hy.go A s₂ R (X₁.keeps k₂)).use fun z s₃ k₃ hz => ?_))
  obtain ⟨t1, rfl⟩ := hu
  obtain ⟨t2, rfl⟩ := hz
  have k13 := Kp.trans' k₂ k₃
  refine ⟨k, g, strKind_is _ _ _ _, ⟨o, es, ep, keeps_sub k13 _ _ hh, hex, r⟩, Kp.trans' (Kp.trans' k₁ k13) Kp.toks, ?_⟩
  have := hg k
  cases hf : f k with
  | none => rw [hf] at this; rw [this]; exact ⟨t2, rfl⟩
  | some y => rw [hf] at this; obtain ⟨t, ht⟩ := this; rw [ht]; exact ⟨t, rfl⟩

theorem strsAre_of {h : Heap} : ∀ {vs : List Value} {xs : List Str}, AllH h vs (xs.map TStr) → StrsAre vs xs
  | [], [], _ => .nil
  | v :: vs, x :: xs, .cons ⟨t, e⟩ r => by subst e; exact .cons _ _ (strsAre_of r)
theorem b_join {w : World} {k : Nat} {a : Str} {xs : List Str} (hz : (xs.map (·.length)).sum + xs.length * a.length ≤ 16777216) : Fn w k (.builtin "str.join") [TStr a, TStrs xs] (TStr (Txt.join a xs)) := .mk fun A s vs S R hb ht hl ha => by
  obtain ⟨v, u, rfl, ⟨t, rfl⟩, h2⟩ := ha.two
  obtain ⟨b, items, rfl, hL, _, hA⟩ := lst_at h2
  exact upK (PyProof.Rows.join_list hL (strsAre_of hA) hz fun t' k => ⟨keeps_toks, _, rfl⟩)
theorem Ev.join {C : Cx} {l x : Expr} {pos apos : Pos} {a : Str} {xs : List Str} (ho : Ev C l (TStr a)) (ha : Ev C x (TStrs xs)) (hz : (xs.map (·.length)).sum + xs.length * a.length ≤ 16777216) (hline : (apos.endLine == pos.line) = true := by rfl)
    (hbase : ∀ env, attributeBase l "join" env (eval l env) = eval l env := by intro _; rfl) (he : ∀ env, starEach [x] env = (false, eval x env) :: starEach [] env := by intro _; rfl)
    (hfew : ((backTo pos (starEach [x] C.env)).all (fun x => !x.1) && (backToKw pos (keywordEach [] C.env)).all (fun x => x.1.isSome)
      && decide ([x].length + ([] : List Keyword).length + (if ([] : List Keyword).isEmpty then 0 else 1) < 30)) = true := by rfl) : Ev C (.Call (.Attribute l "join" apos) [x] [] pos) (TStr (Txt.join a xs)) :=
  Ev.meth ho (EvL.cons ha EvL.nil he) F.slot_str_join F.plainAttrs_str F.type_str_join OfType.str notRef_str (b_join hz) hline hbase he rfl hfew
end Mine
namespace Mine

def escK (κ : Nat) (a : Str) : Str := match κ with | 0 => esc reps0 a | 1 => esc reps1 a | 2 => esc reps2 a | 3 => esc reps3 a | _ => esc reps4 a
def escKOk (κ : Nat) (a : Str) : Bool := match κ with | 0 => escOk reps0 a | 1 => escOk reps1 a | 2 => escOk reps2 a | 3 => escOk reps3 a | _ => escOk reps4 a
theorem def_193 (w : World) : DefAt w 193 (fdAt 193) (bodyAt 193) := ⟨⟨_, _, _, rfl⟩, by rfl, rfl, rfl, rfl, rfl, rfl, rfl, rfl, by decide⟩
theorem g_148 (w : World) : nsIn (KK w) mainGlobals (Str.ofString "_escape_cdata") = some (some (.ref 148)) := by rfl
theorem g_155 (w : World) : nsIn (KK w) mainGlobals (Str.ofString "_escape_attrib") = some (some (.ref 155)) := by rfl
theorem g_162 (w : World) : nsIn (KK w) mainGlobals (Str.ofString "_escape_attrib_html") = some (some (.ref 162)) := by rfl
theorem g_169 (w : World) : nsIn (KK w) mainGlobals (Str.ofString "_escape_cdata_c14n") = some (some (.ref 169)) := by rfl
theorem g_176 (w : World) : nsIn (KK w) mainGlobals (Str.ofString "_escape_attrib_c14n") = some (some (.ref 176)) := by rfl
theorem k_148 (w : World) : keepIn (KK w) (.ref 148) = true := by rfl
theorem k_155 (w : World) : keepIn (KK w) (.ref 155) = true := by rfl
theorem k_162 (w : World) : keepIn (KK w) (.ref 162) = true := by rfl
theorem k_169 (w : World) : keepIn (KK w) (.ref 169) = true := by rfl
theorem k_176 (w : World) : keepIn (KK w) (.ref 176) = true := by rfl

set_option maxHeartbeats 1000000 in
theorem fn_written (w : World) (k : Nat) (a : Str) (κ : Nat) (hκ : κ < 5) (hz : escKOk κ a = true) : Fn w (k + 2) (.ref 193) [TStr a, TInt (κ : Int)] (TStr (escK κ a)) := by
  refine Fn.enter (names := [Str.ofString "text", Str.ofString "kind"]) (def_193 w) rfl (by decide) (by decide) (fun vs hv => ?_) fun A L S s₀ s R H => ?_
  · obtain ⟨a, b, rfl⟩ := args2 hv; rfl
  o_facts H
  have hc : κ = 0 ∨ κ = 1 ∨ κ = 2 ∨ κ = 3 ∨ κ = 4 := by omega
  rcases hc with rfl | rfl | rfl | rfl | rfl
  · refine ex_if H R (Tt.cmp (Ev.var (by walk_at "mem")) Ev.cint Op2.eq_int) fun s₁ H₁ => ?_
    refine ex_return H₁ R (Ev.call (Ev.global rfl (g_148 _)) (.inl ⟨_, rfl, k_148 _⟩) (EvL.cons (Ev.var (by walk_at "mem")) EvL.nil) (fn_esc0 w _ a hz)) fun v s' H' hp => ?_
    exact H'.ret hp
  · refine ex_if H R (Tt.cmp (Ev.var (by walk_at "mem")) Ev.cint Op2.eq_int) fun s₁ H₁ => Run.nil ?_
    refine ex_if H₁ R (Tt.cmp (Ev.var (by walk_at "mem")) Ev.cint Op2.eq_int) fun s₂ H₂ => ?_
    refine ex_return H₂ R (Ev.call (Ev.global rfl (g_169 _)) (.inl ⟨_, rfl, k_169 _⟩) (EvL.cons (Ev.var (by walk_at "mem")) EvL.nil) (fn_esc1 w _ a hz)) fun v s' H' hp => ?_
    exact H'.ret hp
  · refine ex_if H R (Tt.cmp (Ev.var (by walk_at "mem")) Ev.cint Op2.eq_int) fun s₁ H₁ => Run.nil ?_
    refine ex_if H₁ R (Tt.cmp (Ev.var (by walk_at "mem")) Ev.cint Op2.eq_int) fun s₂ H₂ => Run.nil ?_
    refine ex_if H₂ R (Tt.cmp (Ev.var (by walk_at "mem")) Ev.cint Op2.eq_int) fun s₃ H₃ => ?_
    refine ex_return H₃ R (Ev.call (Ev.global rfl (g_155 _)) (.inl ⟨_, rfl, k_155 _⟩) (EvL.cons (Ev.var (by walk_at "mem")) EvL.nil) (fn_esc2 w _ a hz)) fun v s' H' hp => ?_
    exact H'.ret hp
  · refine ex_if H R (Tt.cmp (Ev.var (by walk_at "mem")) Ev.cint Op2.eq_int) fun s₁ H₁ => Run.nil ?_
    refine ex_if H₁ R (Tt.cmp (Ev.var (by walk_at "mem")) Ev.cint Op2.eq_int) fun s₂ H₂ => Run.nil ?_
    refine ex_if H₂ R (Tt.cmp (Ev.var (by walk_at "mem")) Ev.cint Op2.eq_int) fun s₃ H₃ => Run.nil ?_
    refine ex_if H₃ R (Tt.cmp (Ev.var (by walk_at "mem")) Ev.cint Op2.eq_int) fun s₄ H₄ => ?_
    refine ex_return H₄ R (Ev.call (Ev.global rfl (g_176 _)) (.inl ⟨_, rfl, k_176 _⟩) (EvL.cons (Ev.var (by walk_at "mem")) EvL.nil) (fn_esc3 w _ a hz)) fun v s' H' hp => ?_
    exact H'.ret hp
  · refine ex_if H R (Tt.cmp (Ev.var (by walk_at "mem")) Ev.cint Op2.eq_int) fun s₁ H₁ => Run.nil ?_
    refine ex_if H₁ R (Tt.cmp (Ev.var (by walk_at "mem")) Ev.cint Op2.eq_int) fun s₂ H₂ => Run.nil ?_
    refine ex_if H₂ R (Tt.cmp (Ev.var (by walk_at "mem")) Ev.cint Op2.eq_int) fun s₃ H₃ => Run.nil ?_
    refine ex_if H₃ R (Tt.cmp (Ev.var (by walk_at "mem")) Ev.cint Op2.eq_int) fun s₄ H₄ => Run.nil ?_
    refine ex_return H₄ R (Ev.call (Ev.global rfl (g_162 _)) (.inl ⟨_, rfl, k_162 _⟩) (EvL.cons (Ev.var (by walk_at "mem")) EvL.nil) (fn_esc4 w _ a hz)) fun v s' H' hp => ?_
    exact H'.ret hp

def forms (κ : Nat) : List (Str × Str) := match κ with
  | 0 => reps0
  | 1 => reps1
  | 2 => reps2
  | 3 => [(S' "&", S' "&amp;"), (S' "<", S' "&lt;"), (S' "\"", S' "&quot;"), (S' "\r", S' "&#xD;"), (S' "\n", S' "&#xA;"), (S' "\t", S' "&#x9;")]
  | _ => reps4
def toldL (κ : Nat) (a : Str) : List Str := (List.range a.cps.size).map fun i => ((forms κ).lookup ⟨#[a.cps.getD i 0]⟩).getD ⟨#[a.cps.getD i 0]⟩
def told (κ : Nat) (a : Str) : Str := Txt.join (S' "") (toldL κ a)
def toldOk (κ : Nat) (a : Str) : Bool := decide (a.cps.size ≤ 1000) && decide (((toldL κ a).map (·.length)).sum ≤ 100000)



theorem def_186 (w : World) : DefAt w 186 (fdAt 186) (bodyAt 186) := ⟨⟨_, _, _, rfl⟩, by rfl, rfl, rfl, rfl, rfl, rfl, rfl, rfl, by decide⟩

theorem fn_told (w : World) (k : Nat) (a : Str) (κ : Nat) (hκ : κ < 5) (hz : toldOk κ a = true) : Fn w (k + 2) (.ref 186) [TStr a, TInt (κ : Int)] (TStr (told κ a)) := by
  refine Fn.enter (names := [Str.ofString "text", Str.ofString "kind"]) (def_186 w) rfl (by decide) (by decide) (fun vs hv => ?_) fun A L S s₀ s R H => ?_
  · obtain ⟨a, b, rfl⟩ := args2 hv; rfl
  o_facts H
  have hz' := Bool.and_eq_true_iff.mp hz
  have z1 := of_decide_eq_true hz'.1
  have z2 := of_decide_eq_true hz'.2
  refine ex_assign H R (Ev.list (EvL.cons (Ev.dict (.cons (.cons (.cons .nil))) (by decide) (by simp) (by decide)) (EvL.cons (Ev.dict (.cons (.cons (.cons (.cons .nil)))) (by decide) (by simp) (by decide))
    (EvL.cons (Ev.dict (.cons (.cons (.cons (.cons (.cons (.cons (.cons .nil))))))) (by decide) (by simp) (by decide)) (EvL.cons (Ev.dict (.cons (.cons (.cons (.cons (.cons (.cons .nil)))))) (by decide) (by simp) (by decide))
    (EvL.cons (Ev.dict (.cons (.cons (.cons .nil))) (by decide) (by simp) (by decide)) EvL.nil)))))) (storeOk_of (by decide)) fun s₁ H₁ => ?_
  o_facts H₁
  refine ex_return (p := TStr (told κ a)) H₁ R ?_ fun v s' H' hp => H'.ret hp
  refine Ev.join (xs := toldL κ a) Ev.cstr ?_ ?_
  · have hr : ([TMap w (fun k => reps0.lookup k), TMap w (fun k => reps1.lookup k), TMap w (fun k => reps2.lookup k), TMap w (fun k => (forms 3).lookup k), TMap w (fun k => reps4.lookup k)] : List FP)[((κ : Nat) : Int).toNat]? = some (TMap w (fun k => (forms κ).lookup k)) := by
      have hc : κ = 0 ∨ κ = 1 ∨ κ = 2 ∨ κ = 3 ∨ κ = 4 := by omega
      rcases hc with rfl | rfl | rfl | rfl | rfl <;> rfl
    refine Ev.eq (Ev.compA (n := a.cps.size) (q := fun i => TStr ⟨#[a.cps.getD i 0]⟩) (r := fun i => TStr (((forms κ).lookup ⟨#[a.cps.getD i 0]⟩).getD ⟨#[a.cps.getD i 0]⟩))
      (ρ := [(Str.ofString "forms", TLst [TMap w (fun k => reps0.lookup k), TMap w (fun k => reps1.lookup k), TMap w (fun k => reps2.lookup k), TMap w (fun k => (forms 3).lookup k), TMap w (fun k => reps4.lookup k)]), (Str.ofString "kind", TInt κ)])
      (Src.str (Ev.var (by walk_at "mem")) (fun i c hc => by simp [hc])) rfl (by decide) rfl (by decide) rfl (fun yp hyp => ?_) (by omega)
      (fun i Cc S' hi => Ev.get2 (f := fun k => (forms κ).lookup k) (k := ⟨#[a.cps.getD i 0]⟩) (d := ⟨#[a.cps.getD i 0]⟩) (Ev.item (Ev.var (by walk_at "mem")) (Ev.var (by walk_at "mem")) (by omega) (by omega) hr) (Ev.var (by walk_at "mem")) (Ev.var (by walk_at "mem")))) ?_
    · simp only [List.mem_cons, List.not_mem_nil, or_false] at hyp
      rcases hyp with rfl | rfl
      · exact ⟨List.mem_cons_self, rfl, .inl rfl, rfl, rfl⟩
      · exact ⟨by walk_at "mem", rfl, .inl rfl, rfl, rfl⟩
    · unfold TStrs toldL; rw [List.map_map]; rfl
  · have h0 : (Str.ofString "").length = 0 := by decide
    rw [h0]; omega
end Mine
namespace Mine

theorem range_get {α : Type} (d : α) (l : List α) : (List.range l.length).map (fun i => l.getD i d) = l := by
  apply List.ext_getElem
  · simp
  · intro i h1 h2
    simp [List.getD_eq_getElem?_getD]
    rw [List.getElem?_eq_getElem (by simpa using h2)]; rfl
theorem range_filter {α β : Type} (d : α) (P : α → Bool) (f : α → β) (l : List α) : ((List.range l.length).filter (fun i => P (l.getD i d))).map (fun i => f (l.getD i d)) = (l.filter P).map f := by
  conv => rhs; rw [← range_get d l]
  rw [List.filter_map, List.map_map]; rfl

theorem def_217 (w : World) : DefAt w 217 (fdAt 217) (bodyAt 217) := ⟨⟨_, _, _, rfl⟩, by rfl, rfl, rfl, rfl, rfl, rfl, rfl, rfl, by decide⟩
theorem g_28 (w : World) : nsIn (KK w) mainGlobals (Str.ofString "three_way_cmp") = some (some (.ref 28)) := by rfl
theorem k_28 (w : World) : keepIn (KK w) (.ref 28) = true := by rfl

def bet (p0 p1 x : Str) : Bool := cmp3 p0 x + cmp3 p1 x == 0
def within (p0 p1 : Str) (names : List Str) : List Str := names.filter (bet p0 p1)
theorem strs_get {xs : List Str} {i : Nat} {p : FP} (h : (xs.map TStr)[i]? = some p) : p = TStr (xs.getD i default) := by
  rw [List.getElem?_map] at h
  cases e : xs[i]? with
  | none => rw [e] at h; cases h
  | some x => rw [e] at h; cases h; simp [List.getD_eq_getElem?_getD, e]
theorem Src.strs {C : Cx} {e : Expr} {xs : List Str} (h : Ev C e (TStrs xs)) : Src C xs.length (fun i => TStr (xs.getD i default)) e := by
  have := Src.lst (q := fun i => TStr (xs.getD i default)) h fun i p => strs_get
  rwa [List.length_map] at this

theorem fn_within (w : World) (k : Nat) (p0 p1 : Str) (names : List Str) (hz : names.length ≤ 1000) : Fn w (k + 2) (.ref 217) [TStrs [p0, p1], TStrs names] (TStrs (within p0 p1 names)) := by
  refine Fn.enter (names := [Str.ofString "pair", Str.ofString "names"]) (def_217 w) rfl (by decide) (by decide) (fun vs hv => ?_) fun A L S s₀ s R H => ?_
  · obtain ⟨a, b, rfl⟩ := args2 hv; rfl
  o_facts H
  refine ex_return (p := TStrs (within p0 p1 names)) H R ?_ fun v s' H' hp => H'.ret hp
  refine Ev.eq (Ev.comp (n := names.length) (b := fun i => bet p0 p1 (names.getD i default)) (q := fun i => TStr (names.getD i default)) (r := fun i => TStr (names.getD i default)) (ρ := [(Str.ofString "pair", TStrs [p0, p1])])
    (Src.strs (Ev.var (by walk_at "mem"))) rfl (by decide) rfl (by decide) rfl (fun yp hyp => ?_) (by omega) (fun i Cc S' hi => TtIfs.one ?_) (fun i Cc S' hi _ => Ev.var (by walk_at "mem"))) ?_
  · rw [List.mem_singleton] at hyp; subst hyp
    exact ⟨by walk_at "mem", rfl, .inl rfl, rfl, rfl⟩
  · exact Tt.cmp (Ev.bin (Ev.call (Ev.global rfl (g_28 _)) (.inl ⟨_, rfl, k_28 _⟩) (EvL.cons (Ev.item (Ev.var (by walk_at "mem")) Ev.cint (by decide) (by decide) rfl) (EvL.cons (Ev.var (by walk_at "mem")) EvL.nil)) (fn_cmp3 w _ _ _))
      (Ev.call (Ev.global rfl (g_28 _)) (.inl ⟨_, rfl, k_28 _⟩) (EvL.cons (Ev.item (Ev.var (by walk_at "mem")) Ev.cint (by decide) (by decide) rfl) (EvL.cons (Ev.var (by walk_at "mem")) EvL.nil)) (fn_cmp3 w _ _ _)) Op2.add_int) Ev.cint Op2.eq_int
  · unfold TStrs within
    rw [range_filter default (bet p0 p1) TStr]
end Mine
namespace Mine

section
variable {prog : Program} {w : World} {A : Around} {E : Value → Shared → Prop} {R : Result → Shared → Prop} {s : Shared}
/-- the inner loop of a comprehension with two fors -/
theorem codeAny_inner {elt t0 i0 target iter : Expr} {f0 ifs : List Expr} {scope : Scope} {pos : Pos} {it acc : Value} {env : Env} (I : Nat → Shared → Prop)
    (turn : ∀ n s, I n s → wpAny (model prog w) A (pyNext it) (fun r s₁ => match r with
      | none => R (.ok .next) s₁
      | some v => wpAny (model prog w) A (assign target env v) (fun _ s₂ =>
          wpAny (model prog w) A (forIn ifs true fun c r => if r = true then do let ok ← isTrue c env (eval c env); pure (ForInStep.yield ok) else pure (ForInStep.yield r)) (fun ok s₃ =>
            if ok = true then wpAny (model prog w) A (eval elt env) (fun x s₄ =>
              wpAny (model prog w) A (call (.builtin "list.append") [acc, x]) (fun _ s₅ => ∃ m, m < n ∧ I m s₅) (notedBy (model prog w) A env fun e s' => R (.error e) s') s₄) (notedBy (model prog w) A env fun e s' => R (.error e) s') s₃
            else ∃ m, m < n ∧ I m s₃) (notedBy (model prog w) A env fun e s' => R (.error e) s') s₂) (notedBy (model prog w) A env fun e s' => R (.error e) s') s₁) (notedBy (model prog w) A env fun e s' => R (.error e) s') s)
    (n : Nat) (h : I n s) (ht : ∀ v, letOwnedTupleGo target it v = pure () := by intro _; rfl) :
    codeAny (model prog w) A (.compLoop (.ListComp elt [⟨t0, i0, f0, 0⟩, ⟨target, iter, ifs, 0⟩] scope pos) 1 it acc env) R s := by
  refine codeAny_loop rfl I (fun n s hI => ?_) n h
  show wpAny _ A ((compTurn (.ListComp elt [⟨t0, i0, f0, 0⟩, ⟨target, iter, ifs, 0⟩] scope pos) 1 it acc env).onRaise (fun x => do noteFrame x env; theTreesLotGoes x)) _ _ s
  refine wpAny_noted ?_
  have e : compTurn (.ListComp elt [⟨t0, i0, f0, 0⟩, ⟨target, iter, ifs, 0⟩] scope pos) 1 it acc env = (do
      standAt iter.pos
      match ← pyNext it with
      | none => pure (.done .next)
      | some v =>
        letOwnedTupleGo target it v
        assign target env v
        let mut ok := true
        for c in ifs do
          if ok then ok ← isTrue c env (eval c env)
        if ok then
          (do let _ ← call (.builtin "list.append") [acc, ← eval elt env])
        again (.compLoop (.ListComp elt [⟨t0, i0, f0, 0⟩, ⟨target, iter, ifs, 0⟩] scope pos) 1 it acc env)) := by rfl
  rw [e]
  refine wpAny_bind (wpAny_standAt (wpAny_bind (wpAny_mono (turn n s hI) (fun r s₁ h₁ => ?_) fun _ _ h' => h')))
  cases r with
  | none => exact wpAny_pure h₁
  | some v =>
    refine wpAny_bind (wpAny_of_eq (ht v) ?_)
    refine wpAny_bind (wpAny_mono h₁ (fun _ s₂ h₂ => wpAny_bind (wpAny_mono h₂ (fun ok s₃ h₃ => ?_) fun _ _ h' => h')) fun _ _ h' => h')
    cases ok with
    | false => exact wpAny_pure ⟨rfl, h₃⟩
    | true =>
      exact wpAny_bind (wpAny_bind (wpAny_mono h₃ (fun x s₄ h₄ => wpAny_bind (wpAny_mono h₄ (fun _ s₅ h₅ => wpAny_pure (wpAny_pure ⟨rfl, h₅⟩)) fun _ _ h' => h')) fun _ _ h' => h'))

theorem codeAny_innerStart {elt g0 target iter ifs scope pos it acc env}
    (h0 : codeAny (model prog w) A (.compLoop (.ListComp elt [g0, ⟨target, iter, ifs, 0⟩] scope pos) 1 it acc env) R s)
    (h : wpAny (model prog w) A (pyIter it) (fun it' s' => codeAny (model prog w) A (.compLoop (.ListComp elt [g0, ⟨target, iter, ifs, 0⟩] scope pos) 1 it' acc env) R s')
      (notedBy (model prog w) A env fun x s' => R (.error x) s') s) :
    codeAny (model prog w) A (.compStart (.ListComp elt [g0, ⟨target, iter, ifs, 0⟩] scope pos) 1 it acc env) R s := by
  refine codeAny_of_tree ?_
  show wpAny _ _ ((compStart (.ListComp elt [g0, ⟨target, iter, ifs, 0⟩] scope pos) 1 it acc env).onRaise (fun x => do noteFrame x env; standAt theWindowsPlace)) _ _ s
  refine wpAny_notedAt ?_
  unfold compStart
  show wpAny _ _ (ask >>= _) _ _ s
  refine wpAny_bind (wpAny_askSetting (wpAny_ite ?_))
  split
  · first
      | exact wpAny_bind (wpAny_pure (wpAny_pure (And.intro rfl h0)))
      | exact wpAny_pure (And.intro rfl h0)
  · first
      | exact wpAny_bind (wpAny_rule (wpAny_bind (wpAny_standAt (wpAny_bind (wpAny_mono h (fun it' s' h' => wpAny_pure (And.intro rfl h')) fun _ _ x => x)))))
      | (refine wpAny_bind (wpAny_rule ?_); show wpAny _ _ (standAt iter.pos >>= _) _ _ s; exact wpAny_bind (wpAny_standAt (wpAny_bind (wpAny_mono h (fun it' s' h' => wpAny_pure (And.intro rfl h')) fun _ _ x => x))))

/-- the outer loop: no test of its own -/
theorem codeAny_outer {elt target iter iter1 : Expr} {t1 : Expr} {f1 : List Expr} {scope : Scope} {pos : Pos} {it acc : Value} {env : Env} (I : Nat → Shared → Prop)
    (hs1 : ∀ x, foldedSetIterable iter1 env x = pure x)
    (turn : ∀ n s, I n s → wpAny (model prog w) A (pyNext it) (fun r s₁ => match r with
      | none => R (.ok .next) s₁
      | some v => wpAny (model prog w) A (assign target env v) (fun _ s₂ =>
          wpAny (model prog w) A (eval iter1 env) (fun x s₃ => wpAny (model prog w) A (pyIter x) (fun it1 s₄ =>
            codeAny (model prog w) A (.compStart (.ListComp elt [⟨target, iter, [], 0⟩, ⟨t1, iter1, f1, 0⟩] scope pos) 1 it1 acc env) (fun r s₅ => match r with | .ok _ => ∃ m, m < n ∧ I m s₅ | .error _ => False) s₄) NoE s₃) NoE s₂) NoE s₁) NoE s)
    (n : Nat) (h : I n s) (ht : ∀ v, letOwnedTupleGo target it v = pure () := by intro _; rfl) :
    codeAny (model prog w) A (.compLoop (.ListComp elt [⟨target, iter, [], 0⟩, ⟨t1, iter1, f1, 0⟩] scope pos) 0 it acc env) R s := by
  refine codeAny_loop rfl I (fun n s hI => ?_) n h
  show wpAny _ A ((compTurn (.ListComp elt [⟨target, iter, [], 0⟩, ⟨t1, iter1, f1, 0⟩] scope pos) 0 it acc env).onRaise (fun x => do noteFrame x env; theTreesLotGoes x)) _ _ s
  refine wpAny_noted (noE ?_)
  have e : compTurn (.ListComp elt [⟨target, iter, [], 0⟩, ⟨t1, iter1, f1, 0⟩] scope pos) 0 it acc env = (do
      standAt iter.pos
      match ← pyNext it with
      | none => pure (.done .next)
      | some v =>
        letOwnedTupleGo target it v
        assign target env v
        let x ← eval iter1 env
        standAt iter1.pos
        let x ← foldedSetIterable iter1 env x
        let _ ← runOwn (.compStart (.ListComp elt [⟨target, iter, [], 0⟩, ⟨t1, iter1, f1, 0⟩] scope pos) 1 (← holding [x] (pyIter x)) acc env) env
        again (.compLoop (.ListComp elt [⟨target, iter, [], 0⟩, ⟨t1, iter1, f1, 0⟩] scope pos) 0 it acc env)) := by rfl
  rw [e]
  refine wpAny_bind (wpAny_standAt (wpAny_bind (wpAny_mono (turn n s hI) (fun r s₁ h₁ => ?_) fun _ _ h' => h')))
  cases r with
  | none => exact wpAny_pure h₁
  | some v =>
    refine wpAny_bind (wpAny_of_eq (ht v) ?_)
    refine wpAny_bind (wpAny_mono h₁ (fun _ s₂ h₂ => wpAny_bind (wpAny_mono h₂ (fun x s₃ h₃ => ?_) fun _ _ h' => h')) fun _ _ h' => h')
    refine wpAny_bind (wpAny_standAt (wpAny_bind (wpAny_of_eq (hs1 x) (wpAny_bind (wpAny_holding (wpAny_mono h₃ (fun it1 s₄ h₄ => ?_) fun _ _ h' => h'))))))
    refine wpAny_bind (wpAny_runOwn (codeAny_mono h₄ fun r s₅ h₅ => ?_))
    cases r with
    | ok f => exact wpAny_pure ⟨rfl, h₅⟩
    | error x => exact h₅.elim
end
end Mine
namespace Mine
open PySem.SeqAt

/-- two values, the one of the kind p and the other of the kind q, are equal or not: b -/
structure EqV (d : Nat) (p q : FP) (b : Bool) : Prop where
  go : ∀ (A : Around) (s : Shared) (S : List Addr) (v u : Value), A.units + d < cLine → p.holds (hideAll s.heap S) v → q.holds (hideAll s.heap S) u → EqAt A s v u b
  same : ∀ (h : Heap) (v : Value), p.holds h v → q.holds h v → b = true

theorem EqV.str (x y : Str) (d : Nat) : EqV d (TStr x) (TStr y) (decide (x = y)) :=
  ⟨fun A s S v u _ ⟨t, hv⟩ ⟨t', hu⟩ => by
    subst hv hu
    have := EqAt.str_str (A := A) (s := s) x t y t'
    rwa [show (x == y) = decide (x = y) from by cases e : x == y <;> simp_all] at this,
   fun h v ⟨t, hv⟩ ⟨t', hu⟩ => by subst hv; cases hu; simp⟩

section
variable {α : Type} [DecidableEq α] {enc : α → FP} {d : Nat}
theorem all_eq_lists (as bs : List α) (hl : as.length = bs.length) : ((List.range as.length).all fun j => decide (as[j]? = bs[j]?)) = decide (as = bs) := by
  rw [Bool.eq_iff_iff, List.all_eq_true]
  simp only [decide_eq_true_eq, List.mem_range]
  constructor
  · intro h
    apply List.ext_getElem hl
    intro i h1 h2
    have := h i h1
    rw [List.getElem?_eq_getElem h1, List.getElem?_eq_getElem h2] at this
    injection this
  · rintro rfl i _; rfl
theorem enc_at {h : Heap} {vs : List Value} {as : List α} (hA : AllH h vs (as.map enc)) (j : Nat) (hj : j < vs.length) : ∃ a, as[j]? = some a ∧ (enc a).holds h vs[j] := by
  obtain ⟨p, hp, hh⟩ := hA.get' j (List.getElem?_eq_getElem hj)
  rw [List.getElem?_map] at hp
  cases e : as[j]? with
  | none => rw [e] at hp; cases hp
  | some a => rw [e] at hp; cases hp; exact ⟨a, rfl, hh⟩
theorem enc_same (he : ∀ a b, EqV d (enc a) (enc b) (decide (a = b))) {h : Heap} : ∀ {vs : List Value} {as bs : List α}, AllH h vs (as.map enc) → AllH h vs (bs.map enc) → as = bs
  | [], [], [], _, _ => rfl
  | [], _ :: _, _, x, _ => nomatch x
  | [], [], _ :: _, _, y => nomatch y
  | v :: vs, [], _, x, _ => nomatch x
  | v :: vs, _ :: _, [], _, y => nomatch y
  | v :: vs, a :: as, b :: bs, .cons x xs, .cons y ys => by
    have := (he a b).same h v x y
    rw [decide_eq_true_eq] at this
    rw [this, enc_same he xs ys]

theorem lists_rc (he : ∀ a b, EqV d (enc a) (enc b) (decide (a = b))) {as bs : List α} {A : Around} {s : Shared} {S : List Addr} {v u : Value} (hu : A.units + (d + 1) < cLine) (hv : (TLst (as.map enc)).holds (hideAll s.heap S) v) (hw : (TLst (bs.map enc)).holds (hideAll s.heap S) u) :
    RcAt A s v u (decide (as = bs)) ∧ RcNeAt A s v u (!decide (as = bs)) := by
  obtain ⟨a, vs, rfl, hl, _, hA⟩ := lst_at hv
  obtain ⟨b, us, rfl, hb, _, hB⟩ := lst_at hw
  have e1 := hA.length
  have e2 := hB.length
  rw [Array.length_toList, List.length_map] at e1 e2
  by_cases hsz : vs.size = us.size
  · have hab : as.length = bs.length := by omega
    have hE : ∀ j (h1 : j < vs.size) (h2 : j < us.size), EqAt A.in1 s vs[j] us[j] (decide (as[j]? = bs[j]?)) := fun j h1 h2 => by
      obtain ⟨x, hx, px⟩ := enc_at hA j (by simpa using h1)
      obtain ⟨y, hy, py⟩ := enc_at hB j (by simpa using h2)
      have := (he x y).go A.in1 s S _ _ (by show A.units + 1 + d < _; omega) px py
      rw [hx, hy]
      simpa using this
    have h1 := RcAt.lists hl hb hsz (by omega) hE
    have h2 := RcNeAt.lists hl hb hsz (by omega) hE
    rw [e1, all_eq_lists as bs hab] at h1 h2
    exact ⟨h1, h2⟩
  · have hne : decide (as = bs) = false := by
      rw [decide_eq_false_iff_not]; rintro rfl; omega
    rw [hne]
    exact ⟨RcAt.lists_lengths hl hb (by simpa using hsz) (by omega), RcNeAt.lists_lengths hl hb (by simpa using hsz) (by omega)⟩

theorem EqV.lists (he : ∀ a b, EqV d (enc a) (enc b) (decide (a = b))) (as bs : List α) : EqV (d + 1) (TLst (as.map enc)) (TLst (bs.map enc)) (decide (as = bs)) :=
  ⟨fun A s S v u hu hv hw => by
    have h := (lists_rc he hu hv hw).1
    obtain ⟨a, vs, rfl, hl, _, hA⟩ := lst_at hv
    obtain ⟨b, us, rfl, hb, _, hB⟩ := lst_at hw
    by_cases hab : a = b
    · subst hab
      have : vs = us := by
        obtain ⟨o, ho, _, n, e⟩ := hl
        obtain ⟨o', ho', _, n', e'⟩ := hb
        rw [ho] at ho'; cases ho'
        rw [e] at e'; cases e'; rfl
      subst this
      rw [enc_same he hA hB, decide_eq_true rfl]
      exact EqAt.same _
    · exact EqAt.of_refs hab h,
   fun h v hv hw => by
    obtain ⟨a, vs, rfl, hl, hA⟩ := hv
    obtain ⟨b, us, e, hb, hB⟩ := hw
    cases e
    have : vs = us := by
      obtain ⟨o, ho, _, n, e⟩ := hl
      obtain ⟨o', ho', _, n', e'⟩ := hb
      rw [ho] at ho'; cases ho'
      rw [e] at e'; cases e'; rfl
    subst this
    rw [enc_same he hA hB, decide_eq_true rfl]⟩

variable {C : Cx}
theorem Op2.eq_lst (he : ∀ a b, EqV d (enc a) (enc b) (decide (a = b))) (as bs : List α) (hd : d ≤ 10) : Op2 C (compareOp .Eq) (TLst (as.map enc)) (TLst (bs.map enc)) (TBool (decide (as = bs))) := .mk fun A s v u R X hv hu =>
  (lists_rc he (by have := R.uni; omega) hv hu).1 _ _ _ _ ⟨Kp.rfl', rfl⟩
theorem Op2.ne_lst (he : ∀ a b, EqV d (enc a) (enc b) (decide (a = b))) (as bs : List α) (hd : d ≤ 10) : Op2 C (compareOp .NotEq) (TLst (as.map enc)) (TLst (bs.map enc)) (TBool (!decide (as = bs))) := .mk fun A s v u R X hv hu =>
  (lists_rc he (by have := R.uni; omega) hv hu).2 _ _ _ _ ⟨Kp.rfl', rfl⟩

theorem any_mem (as : List α) (a : α) : (as.any fun x => decide (x = a)) = decide (a ∈ as) := by
  rw [Bool.eq_iff_iff, List.any_eq_true, decide_eq_true_eq]
  constructor
  · rintro ⟨x, hx, e⟩; rw [decide_eq_true_eq] at e; exact e ▸ hx
  · intro h; exact ⟨a, h, decide_eq_true rfl⟩

theorem mem_items (he : ∀ a b, EqV d (enc a) (enc b) (decide (a = b))) {h : Heap} {a : α} : ∀ {vs : List Value} {as : List α}, AllH h vs (as.map enc) → ∀ (e : Value → Bool), (∀ y ∈ vs, ∀ b, (enc b).holds h y → e y = decide (b = a)) → vs.any e = as.any fun x => decide (x = a)
  | [], [], _, e, _ => rfl
  | [], _ :: _, x, _, _ => nomatch x
  | _ :: _, [], x, _, _ => nomatch x
  | v :: vs, b :: as, .cons x xs, e, hy => by
    rw [List.any_cons, List.any_cons, hy v (.head _) b x, mem_items he xs e fun y h => hy y (.tail _ h)]

theorem in_core (he : ∀ a b, EqV d (enc a) (enc b) (decide (a = b))) {as : List α} {a : α} {A : Around} {s : Shared} {S : List Addr} {v : Value} {vs : Array Value} (hu : A.units + (d + 1) < cLine) (hv : (enc a).holds (hideAll s.heap S) v) (hA : AllH (hideAll s.heap S) vs.toList (as.map enc)) :
    ∃ e : Value → Bool, (∀ y, y ∈ vs → EqAt A.in1 s y v (e y)) ∧ vs.any e = decide (a ∈ as) := by
  classical
  let e : Value → Bool := fun y => decide (∃ b, (enc b).holds (hideAll s.heap S) y ∧ b = a)
  have hey : ∀ y b, (enc b).holds (hideAll s.heap S) y → e y = decide (b = a) := fun y b hb => by
    by_cases hba : b = a
    · rw [decide_eq_true hba]; exact decide_eq_true ⟨b, hb, hba⟩
    · rw [decide_eq_false hba]
      refine decide_eq_false fun ⟨c, hc, hca⟩ => hba ?_
      have := (he b c).same _ _ hb hc
      rw [decide_eq_true_eq] at this
      rw [this, hca]
  refine ⟨e, fun y hy => ?_, ?_⟩
  · obtain ⟨j, hj, rfl⟩ := List.getElem_of_mem (Array.mem_toList_iff.mpr hy)
    obtain ⟨b, hb, ph⟩ := enc_at hA j hj
    rw [hey _ b ph]
    exact (he b a).go A.in1 s S _ _ (by show A.units + 1 + d < _; omega) ph hv
  · rw [← Array.any_toList, mem_items he hA e fun y _ b hb => hey y b hb, any_mem]

theorem Op2.in_lst (he : ∀ a b, EqV d (enc a) (enc b) (decide (a = b))) (a : α) (as : List α) (hd : d ≤ 10) : Op2 C (compareOp .In) (enc a) (TLst (as.map enc)) (TBool (decide (a ∈ as))) := .mk fun A s v u R X hv hu => by
  obtain ⟨l, vs, rfl, hl, _, hA⟩ := lst_at hu
  obtain ⟨e, h1, h2⟩ := in_core he (A := A) (by have := R.uni; omega) hv hA
  exact in_listAt e hl h1 ⟨Kp.rfl', by rw [h2]; rfl⟩
theorem Op2.notin_lst (he : ∀ a b, EqV d (enc a) (enc b) (decide (a = b))) (a : α) (as : List α) (hd : d ≤ 10) : Op2 C (compareOp .NotIn) (enc a) (TLst (as.map enc)) (TBool (!decide (a ∈ as))) := .mk fun A s v u R X hv hu => by
  obtain ⟨l, vs, rfl, hl, _, hA⟩ := lst_at hu
  obtain ⟨e, h1, h2⟩ := in_core he (A := A) (by have := R.uni; omega) hv hA
  exact notIn_listAt e hl h1 ⟨Kp.rfl', by rw [h2]; rfl⟩
end

theorem eqS (x y : Str) : EqV 0 (TStr x) (TStr y) (decide (x = y)) := EqV.str x y 0
theorem eqL (x y : List Str) : EqV 1 (TStrs x) (TStrs y) (decide (x = y)) := EqV.lists eqS x y

theorem Op2.add_lst {C : Cx} {ps qs : List FP} (hz : ps.length + qs.length ≤ 100000) : Op2 C (binaryOp .Add) (TLst ps) (TLst qs) (TLst (ps ++ qs)) := .mk fun A s v u R X hv hu => by
  obtain ⟨l, vs, rfl, hl, _, hA⟩ := lst_at hv
  obtain ⟨b, us, rfl, hb, _, hB⟩ := lst_at hu
  have e1 := hA.length
  have e2 := hB.length
  rw [Array.length_toList] at e1 e2
  obtain ⟨⟨cls, dd, data, sl⟩, ho, hc, n, hd⟩ := id hl
  obtain ⟨⟨cls2, dd2, data2, sl2⟩, ho2, hc2, n2, hd2⟩ := id hb
  simp only at hc hd hc2 hd2
  subst hc hd hc2 hd2
  refine concat_meets ⟨_, ho, rfl⟩ ⟨_, ho2, rfl⟩ noFill_list_add seq_list_add PySem.F.slot_list_add PySem.F.entry_list_add (PySem.F.args_list_add_2 _ _) (list_addW l b vs us n n2 dd dd2 sl sl2 (by rw [sizeLine_eq]; omega)) ⟨ho, ho2, ?_⟩
  refine ⟨Kp.mk' (push_sub _ _), _, vs ++ us, rfl, ⟨_, hide_push X.live rfl, rfl, _, rfl⟩, ?_⟩
  rw [Array.toList_append]
  exact (hA.append hB).stab (hide_mono (push_sub _ _))
end Mine
namespace Mine

section
variable {C : Cx} {n : Nat} {m : Nat} {q : Nat → FP} {q2 : Nat → FP} {r : Nat → Nat → FP} {b : Nat → Nat → Bool} {ρ : List (Str × FP)} {elt iter iter2 : Expr} {x x2 : Str} {px px2 pos : Pos} {ifs : List Expr} {scope : Scope} {cl : List (Str × Addr)} {A : Around} {s : Shared}

def two (b : Nat → Nat → Bool) (r : Nat → Nat → FP) (m i : Nat) : List FP := (List.range i).flatMap fun i => ((List.range m).filter (b i)).map (r i)
theorem two_succ (i : Nat) : two b r m (i + 1) = two b r m i ++ ((List.range m).filter (b i)).map (r i) := by
  unfold two; rw [List.range_succ, List.flatMap_append]; simp

theorem comp2_core (R : Room C.k A) (X : Xs C s) (hsrc : Src C n q iter) (hcell : ∀ y ∈ scope.names, y.2 ≠ .cell) (hkind : scope.kind = .function) (hx : scope.names.lookup x = some .local) (hx2 : scope.names.lookup x2 = some .local) (hxx : x ≠ x2)
    (hρ : ∀ yp ∈ ρ, yp ∈ C.ρ ∧ Caught C.env scope cl yp.1) (hn : n * m ≤ 100000)
    (hsrc2 : ∀ i Cc S', i < n → Src (C.comp scope cl Cc S' ((x, q i) :: ρ)) m q2 iter2)
    (ht : ∀ i j Cc S', i < n → j < m → TtIfs (C.comp scope cl Cc S' ((x2, q2 j) :: (x, q i) :: ρ)) ifs (b i j))
    (he : ∀ i j Cc S', i < n → j < m → b i j = true → Ev (C.comp scope cl Cc S' ((x2, q2 j) :: (x, q i) :: ρ)) elt (r i j)) (hs2 : ∀ env x, foldedSetIterable iter2 env x = pure x) {RR : Value → Addr → Result → Shared → Prop}
    (hRR : ∀ D Cc s', CompEnd C s s' D Cc (two b r m n) → RR (.ref D) Cc (.ok .next) s') :
    wpAny (MM C.w) A (eval iter C.env) (fun xv s₁ => wpAny (MM C.w) A (pyIter xv) (fun it s₂ => wpAny (MM C.w) A (newList []) (fun acc s₃ =>
      wpAny (MM C.w) A (newFunctionEnv scope C.env.globals cl [] C.env.qual none .none (some C.env)) (fun cenv s₄ =>
        codeAny (MM C.w) A (.compStart (.ListComp elt [⟨.Name x px, iter, [], 0⟩, ⟨.Name x2 px2, iter2, ifs, 0⟩] scope pos) 0 it acc { cenv with scope := relabel scope C.env }) (RR acc cenv.locals) s₄) NoE s₃) NoE s₂) NoE s₁) NoE s := by
  refine wpAny_mono (hsrc.go A s R X) (fun xv s₁ h₁ => wpAny_mono h₁ (fun it s₂ h₂ => ?_) fun _ _ x => x) fun _ _ x => x
  obtain ⟨I, fp, wr, P, St, rfl, W, hst, k₂, hlv, hfr, hfS, hP⟩ := h₂
  have wfp : ∀ b ∈ wr, b ∈ fp := W.sub
  have X₂ := X.keeps k₂
  refine wpAny_newObj_type (wpAny_newFunctionEnv hcell (by intro y hy; simp at hy) (fun h₁ hns₁ hsb₁ => ?_) hkind)
  dsimp only at hns₁ hsb₁ ⊢
  generalize hD : s₂.heap.objs.size = D at hns₁ hsb₁ ⊢
  generalize hH2 : s₂.heap.push { cls := .type "list", dict := none, data := .seq ([] : List Value).toArray } = H2 at hns₁ hsb₁ ⊢
  have hsz2 : H2.objs.size = D + 1 := by rw [← hH2, Heap.size_push, hD]
  generalize hC : H2.objs.size = Cc at hns₁ hsb₁ ⊢
  have hCD : Cc = D + 1 := by rw [← hC, hsz2]
  have hDC : D ≠ Cc := by rw [hCD]; exact Nat.ne_of_lt (Nat.lt_succ_self _)
  have newD2 : s₂.heap.get? D = none := fresh_size _ _ (by rw [hD]; exact Nat.le_refl _)
  have newC2 : s₂.heap.get? Cc = none := fresh_size _ _ (by rw [hD, hCD]; exact Nat.le_succ _)
  have old : ∀ b o, s₂.heap.get? b = some o → h₁.get? b = some o := fun b o e => by
    refine hsb₁.extBut b o (fun h => by rw [h, newC2] at e; cases e) (Heap.get?_push_of_some _ ?_)
    rw [← hH2]; exact Heap.get?_push_of_some _ e
  have hacc : h₁.PlainList D #[] := ⟨_, hsb₁.extBut D _ hDC (Heap.get?_push_of_some _ (by rw [← hH2, ← hD]; exact Heap.get?_push_size _ rfl))⟩
  have hDf : D ∉ fp := fun hm => by obtain ⟨o, e⟩ := hlv _ _ hst D hm; rw [newD2] at e; cases e
  have hCf : Cc ∉ fp := fun hm => by obtain ⟨o, e⟩ := hlv _ _ hst Cc hm; rw [newC2] at e; cases e
  have newD : s.heap.get? D = none := by
    cases e : s.heap.get? D with
    | none => rfl
    | some o => have := keeps_sub k₂ _ _ e; rw [newD2] at this; cases this
  have newC : s.heap.get? Cc = none := by
    cases e : s.heap.get? Cc with
    | none => rfl
    | some o => have := keeps_sub k₂ _ _ e; rw [newC2] at this; cases this
  let S' := D :: Cc :: (wr ++ C.S)
  have hCS : ∀ b, b ∈ C.S → b ≠ D ∧ b ≠ Cc ∧ b ∉ wr := fun b hb => by
    obtain ⟨o, e⟩ := X.live b hb
    exact ⟨(fun h => by rw [h, newD] at e; cases e), (fun h => by rw [h, newC] at e; cases e), (fun h => by rw [hfr b h] at e; cases e)⟩
  have hDw : D ∉ wr := fun hm => hDf (wfp _ hm)
  have hCw : Cc ∉ wr := fun hm => hCf (wfp _ hm)
  let Old : Heap → Prop := fun h => ∀ b o, b ≠ D → b ≠ Cc → b ∉ wr → s₂.heap.get? b = some o → h.get? b = some o
  let Inv : Nat → Shared → Prop := fun i s' => ∃ h tk mm ys, s' = { s₂ with heap := h, toks := tk } ∧ s₂.toks ≤ tk ∧ h.Ns Cc mm ∧ St i h ∧ h.PlainList D ys ∧ ys.size ≤ i * m ∧ AllH (hideAll h S') ys.toList (two b r m i) ∧ Old h
  have ks : ∀ h, Old h → ∀ b o, s.heap.get? b = some o → h.get? b = some o := fun h hk b o e => hk b o (fun hh => by rw [hh, newD] at e; cases e) (fun hh => by rw [hh, newC] at e; cases e) (fun hh => by rw [hfr b hh] at e; cases e) (keeps_sub k₂ _ _ e)
  -- a frame of the comprehension's, more hidden
  have xs : ∀ h tk mm (Sx : List Addr) (lv : List (Str × FP)), (∀ a ∈ Sx, s₂.heap.get? a = none ∧ ∃ o, h.get? a = some o) → h.Ns Cc mm → (∃ ys, h.PlainList D ys) → (∀ a ∈ wr, ∃ o, h.get? a = some o) → s₂.toks ≤ tk → Old h →
      (∀ yp ∈ lv, scope.names.lookup yp.1 = some .local ∧ ∃ v, mm yp.1 = some v ∧ yp.2.holds (hideAll h (Sx ++ S')) v) →
      Xs (C.comp scope cl Cc (Sx ++ S') (lv ++ ρ)) { s₂ with heap := h, toks := tk } := fun h tk mm Sx lv hSx hm hDl hwl htk hk hlv' => by
    have hsub : Sub (hideAll s.heap C.S) (hideAll h (Sx ++ S')) := hide_sub (fun b o _ e => ks h hk b o e) fun a ha hn => by
      rcases List.mem_append.mp ha with ha | ha
      · cases e : s.heap.get? a with
        | none => rfl
        | some o => have := keeps_sub k₂ _ _ e; rw [(hSx a ha).1] at this; cases this
      · simp only [S', List.mem_cons, List.mem_append] at ha
        rcases ha with rfl | rfl | h | h
        · exact newD
        · exact newC
        · exact hfr a h
        · exact absurd h hn
    refine { base := X.base.stab (ks h hk), tok := Nat.le_trans X₂.tok htk, kind := hkind, glob := X.glob, blt := X.blt, live := (fun a ha => ?_), vars := (fun xp hxp => ?_), own := (fun a ha => nomatch ha) }
    · rcases List.mem_append.mp ha with ha | ha
      · exact (hSx a ha).2
      · simp only [S', List.mem_cons, List.mem_append] at ha
        rcases ha with rfl | rfl | h' | h'
        · obtain ⟨_, _, e⟩ := hDl; exact ⟨_, e⟩
        · obtain ⟨o, _, _, e, _⟩ := hm; exact ⟨o, e⟩
        · exact hwl a h'
        · obtain ⟨o, e⟩ := X.live a h'; exact ⟨o, ks h hk _ _ e⟩
    · rcases List.mem_append.mp hxp with hxp | hxp
      · obtain ⟨h1, v, h2, h3⟩ := hlv' xp hxp
        exact ⟨v, .inl ⟨lookup_relabel_local h1, mm, hm, h2⟩, h3⟩
      · obtain ⟨h1, h2⟩ := hρ xp hxp
        obtain ⟨u, hu, hpu⟩ := X.vars xp h1
        exact ⟨u, (h2.loads X.kind hu).stab (ks h hk), xp.2.stab hsub hpu⟩
  have hS' : ∀ b, b ∉ S' → b ≠ D ∧ b ≠ Cc ∧ b ∉ wr := fun b hb => by
    simp only [S', List.mem_cons, List.mem_append, not_or] at hb
    exact ⟨hb.1, hb.2.1, hb.2.2.1⟩
  have loop : ∀ i s', Inv i s' → i ≤ n → codeAny (MM C.w) A (.compLoop (.ListComp elt [⟨.Name x px, iter, [], 0⟩, ⟨.Name x2 px2, iter2, ifs, 0⟩] scope pos) 0 (.ref I) (.ref D) (compEnvC scope cl Cc C.env)) (RR (.ref D) Cc) s' := fun i s' hi hin => by
    refine codeAny_outer (fun m' s' => ∃ i, m' = n + 1 - i ∧ i ≤ n ∧ Inv i s') (hs2 _) ?_ (n + 1 - i) ⟨i, rfl, hin, hi⟩
    rintro m' s' ⟨i, rfl, hin, h, tk, mm, ys, rfl, htk, hm, hsti, hpl, hys, hA, hk⟩
    rcases Nat.lt_or_ge i n with hlt | hge
    · refine wpAny_with_toks (Nat.le_refl _) (W.item i _ _ _ hlt hsti fun v h' tk' hv hst' hkk => ?_)
      intro htk'
      dsimp only at htk' hkk ⊢
      have hk' : Old h' := fun b o h1 h2 h3 e => hkk b o h3 (hk b o h1 h2 h3 e)
      refine wpAny_assign_Name (wpAny_storeName_local (env := compEnvC scope cl Cc C.env) (lookup_relabel_local hx) (hm.at' fun o e => hkk Cc o hCw e) (fun h3 hn3 hs3 => ?_) (by show (scope.kind == .class || (scope.kind == .module && _)) = false; rw [hkind]; rfl))
      have hDl3 : h3.PlainList D ys := (hpl.at fun o e => hkk D o hDw e).extBut hs3.extBut hDC
      have hst3 : St (i + 1) h3 := W.frame _ _ _ hst' fun b hb o e => (hs3.2 b (fun q => hCf (show Cc ∈ fp from (show b = Cc from q) ▸ hb))).trans e
      have hk3 : Old h3 := fun b o h1 h2 h4 e => (hs3.2 b h2).trans (hk' b o h1 h2 h4 e)
      have hq3 : (q i).holds (hideAll h3 S') v := (q i).stab (hide_sub (fun b o hb e => hk3 b o (fun h => by rw [h, newD2] at e; cases e) (fun h => by rw [h, newC2] at e; cases e) (fun h => hb (List.mem_append_left _ h)) e) fun a ha hn => by
        simp only [S', List.mem_cons, List.mem_append] at ha
        rcases ha with rfl | rfl | h | h
        · exact newD2
        · exact newC2
        · exact absurd (List.mem_append_left _ h) hn
        · exact absurd (List.mem_append_right _ h) hn) (hP i v hv)
      have hAsub : Sub (hideAll h S') (hideAll h3 S') := hide_sub (fun b o hb e => (hs3.2 b (hS' b hb).2.1).trans (hkk b o (hS' b hb).2.2 e)) fun a ha hn => absurd ha hn
      have hA3 := hA.stab hAsub
      have X3 : Xs (C.comp scope cl Cc S' ((x, q i) :: ρ)) { s₂ with heap := h3, toks := tk' + 1 } :=
        xs h3 (tk' + 1) _ [] [(x, q i)] (fun a ha => nomatch ha) hn3 ⟨ys, hDl3⟩ (fun a ha => hlv _ _ hst3 a (wfp a ha)) (by omega) hk3 (fun yp hyp => by
          rw [List.mem_singleton] at hyp; subst hyp
          exact ⟨hx, v, by simp, hq3⟩)
      refine wpAny_mono ((hsrc2 i Cc S' hlt).go A _ R X3) (fun xv s₄ h₄ => wpAny_mono h₄ (fun it s₅ h₅ => ?_) fun _ _ x => x) fun _ _ x => x
      obtain ⟨I2, fp2, wr2, P2, St2, rfl, W2, hst2, k5, hlv2, hfr2, hfS2, hP2⟩ := h₅
      have wfp2 : ∀ b ∈ wr2, b ∈ fp2 := W2.sub
      obtain ⟨⟨h5, tk5, rfl, s35⟩, tt5⟩ := k5
      dsimp only at hfr2 s35 tt5 hst2 hP2
      have fp2S : ∀ b ∈ fp2, b ≠ D ∧ b ≠ Cc ∧ b ∉ wr := fun b hb => hS' b (hfS2 b hb)
      have newW2 : ∀ a ∈ wr2, s₂.heap.get? a = none := fun a ha => by
        cases e : s₂.heap.get? a with
        | none => rfl
        | some o =>
          have hne := fp2S a (wfp2 a ha)
          have := hk3 a o hne.1 hne.2.1 hne.2.2 e
          rw [hfr2 a ha] at this; cases this
      have hw2f : ∀ a ∈ wr2, a ∉ fp := fun a ha hm => by obtain ⟨o, e⟩ := hlv _ _ hst3 a hm; rw [hfr2 a ha] at e; cases e
      have sub5 : Sub (hideAll h3 S') (hideAll h5 (wr2 ++ S')) := fun b o e => by
        obtain ⟨e1, e2⟩ := (hide_get ..).1 e
        have hb : b ∉ wr2 := fun hm => by rw [hfr2 b hm] at e1; cases e1
        exact (hide_get ..).2 ⟨s35 b o e1, fun hm => (List.mem_append.mp hm).elim hb e2⟩
      -- within the inner loop
      let Inv2 : Nat → Shared → Prop := fun j s' => ∃ h tk mm ys, s' = { s₂ with heap := h, toks := tk } ∧ s₂.toks ≤ tk ∧ h.Ns Cc mm ∧ mm x = some v ∧ St (i + 1) h ∧ St2 j h ∧ h.PlainList D ys ∧ ys.size ≤ i * m + j ∧
        AllH (hideAll h (wr2 ++ S')) ys.toList (two b r m i ++ ((List.range j).filter (b i)).map (r i)) ∧ Old h ∧ (∀ b o, b ≠ D → b ≠ Cc → b ∉ wr2 → h5.get? b = some o → h.get? b = some o)
      have inv20 : Inv2 0 { s₂ with heap := h5, toks := tk5 } := ⟨h5, tk5, _, ys, rfl, by omega, hn3.keeps s35, by simp, W.frame _ _ _ hst3 (fun b _ o e => s35 b o e), hst2, hDl3.at (fun o e => s35 _ o e), hys, by simpa using hA3.stab sub5, fun b o h1 h2 h3 e => s35 _ _ (hk3 b o h1 h2 h3 e), fun _ _ _ _ _ e => e⟩
      have inner : codeAny (MM C.w) A (.compLoop (.ListComp elt [⟨.Name x px, iter, [], 0⟩, ⟨.Name x2 px2, iter2, ifs, 0⟩] scope pos) 1 (.ref I2) (.ref D) (compEnvC scope cl Cc C.env))
          (fun r s₅ => match r with | .ok _ => ∃ m', m' < n + 1 - i ∧ ∃ i, m' = n + 1 - i ∧ i ≤ n ∧ Inv i s₅ | .error _ => False) { s₂ with heap := h5, toks := tk5 } := by
        refine codeAny_inner (fun m' s' => ∃ j, m' = m + 1 - j ∧ j ≤ m ∧ Inv2 j s') ?_ (m + 1 - 0) ⟨0, rfl, Nat.zero_le _, inv20⟩
        rintro m' s' ⟨j, rfl, hjm, g, tg, gm, zs, rfl, htg, hgm, hgx, hgs, hgs2, hgpl, hgz, hgA, hgk, hg5⟩
        rcases Nat.lt_or_ge j m with hjlt | hjge
        · refine wpAny_with_toks (Nat.le_refl _) (W2.item j _ _ _ hjlt hgs2 fun v2 g' tg' hv2 hgs2' hgg => ?_)
          intro htg'
          dsimp only at htg' hgg ⊢
          have hCw2 : Cc ∉ wr2 := fun hm => (fp2S _ (wfp2 _ hm)).2.1 rfl
          have hDw2 : D ∉ wr2 := fun hm => (fp2S _ (wfp2 _ hm)).1 rfl
          refine noE (wpAny_assign_Name (wpAny_storeName_local (env := compEnvC scope cl Cc C.env) (lookup_relabel_local hx2) (hgm.at' fun o e => hgg Cc o hCw2 e) (fun f hnf hsf => ?_) (by show (scope.kind == .class || (scope.kind == .module && _)) = false; rw [hkind]; rfl)))
          have hlf : f.PlainList D zs := (hgpl.at fun o e => hgg D o hDw2 e).extBut hsf.extBut hDC
          have hsf1 : St (i + 1) f := W.frame _ _ _ hgs fun b hb o e => (hsf.2 b (fun q => hCf (show Cc ∈ fp from (show b = Cc from q) ▸ hb))).trans (hgg b o (fun hm => hw2f b hm hb) e)
          have hsf2 : St2 (j + 1) f := W2.frame _ _ _ hgs2' fun b hb o e => (hsf.2 b (fun q => (fp2S b hb).2.1 q)).trans e
          have hkf : Old f := fun b o h1 h2 h3 e => (hsf.2 b h2).trans (hgg b o (fun hm => by rw [newW2 b hm] at e; cases e) (hgk b o h1 h2 h3 e))
          have hf5 : ∀ b o, b ≠ D → b ≠ Cc → b ∉ wr2 → h5.get? b = some o → f.get? b = some o := fun b o h1 h2 h3 e => (hsf.2 b h2).trans (hgg b o h3 (hg5 b o h1 h2 h3 e))
          have sub35 : Sub (hideAll h3 S') (hideAll f (wr2 ++ S')) := fun b o e => by
            obtain ⟨e1, e2⟩ := (hide_get ..).1 e
            have hb : b ∉ wr2 := fun hm => by rw [hfr2 b hm] at e1; cases e1
            exact (hide_get ..).2 ⟨hf5 b o (hS' b e2).1 (hS' b e2).2.1 hb (s35 b o e1), fun hm => (List.mem_append.mp hm).elim hb e2⟩
          have hq2 : (q2 j).holds (hideAll f (wr2 ++ S')) v2 := (q2 j).stab (hide_sub (fun b o hb e => hf5 b o (hS' b (fun hm => hb (List.mem_append_right _ hm))).1 (hS' b (fun hm => hb (List.mem_append_right _ hm))).2.1 (fun hm => hb (List.mem_append_left _ hm)) e) fun a ha hn => absurd ha hn) (hP2 j v2 hv2)
          have Xf : Xs (C.comp scope cl Cc (wr2 ++ S') ((x2, q2 j) :: (x, q i) :: ρ)) { s₂ with heap := f, toks := tg' + 1 } :=
            xs f (tg' + 1) _ wr2 [(x2, q2 j), (x, q i)] (fun a ha => ⟨newW2 a ha, hlv2 _ _ hsf2 a (wfp2 a ha)⟩) hnf ⟨zs, hlf⟩ (fun a ha => hlv _ _ hsf1 a (wfp a ha)) (by omega) hkf (fun yp hyp => by
              rcases List.mem_cons.mp hyp with rfl | hyp
              · exact ⟨hx2, v2, by simp, hq2⟩
              · rw [List.mem_singleton] at hyp; subst hyp
                refine ⟨hx, v, ?_, (q i).stab sub35 hq3⟩
                dsimp only
                rw [if_neg hxx]; exact hgx)
          refine noE (wpAny_mono ((ht i j Cc _ hlt hjlt).go A _ R Xf) (fun ok s₆ ⟨k₆, hok⟩ => ?_) fun _ _ x => x)
          subst hok
          have keep6 : ∀ {s₅ : Shared}, Kp { s₂ with heap := f, toks := tg' + 1 } s₅ → ∃ h5 tk5, s₅ = { s₂ with heap := h5, toks := tk5 } ∧ tg' + 1 ≤ tk5 ∧ Sub f h5 := fun {s₅} k => by
            obtain ⟨⟨h5, t5, rfl, kk⟩, tt⟩ := k
            exact ⟨h5, t5, rfl, tt, kk⟩
          have hxm : (fun y => if y = x2 then some v2 else gm y) x = some v := by dsimp only; rw [if_neg hxx]; exact hgx
          have hfA : Sub (hideAll g (wr2 ++ S')) (hideAll f (wr2 ++ S')) := hide_sub (fun b o hb e => (hsf.2 b (hS' b (fun hm => hb (List.mem_append_right _ hm))).2.1).trans (hgg b o (fun hm => hb (List.mem_append_left _ hm)) e)) fun a ha hn => absurd ha hn
          have hsz : zs.size ≤ n * m := by
            have : (i + 1) * m ≤ n * m := Nat.mul_le_mul_right m hlt
            rw [Nat.add_mul, Nat.one_mul] at this
            omega
          cases hb : b i j with
          | false =>
            simp only [Bool.false_eq_true, if_false]
            obtain ⟨h6, tk6, rfl, ht6, s6⟩ := keep6 k₆
            refine ⟨m + 1 - (j + 1), by omega, j + 1, rfl, hjlt, h6, tk6, _, zs, rfl, by omega, hnf.keeps s6, hxm, W.frame _ _ _ hsf1 (fun b _ o e => s6 b o e), W2.frame _ _ _ hsf2 (fun b _ o e => s6 b o e), hlf.at (fun o e => s6 _ o e), by omega, ?_, fun b o h1 h2 h4 e => s6 _ _ (hkf b o h1 h2 h4 e), fun b o h1 h2 h4 e => s6 _ _ (hf5 b o h1 h2 h4 e)⟩
            rw [List.range_succ, List.filter_append, List.map_append]
            simp only [List.filter_cons, hb, Bool.false_eq_true, if_false, List.filter_nil, List.map_nil, List.append_nil]
            exact hgA.stab (hfA.trans (hide_mono s6))
          | true =>
            simp only [if_true]
            refine noE (wpAny_mono ((he i j Cc _ hlt hjlt hb).go A s₆ R (Xf.keeps k₆)) (fun y s₇ ⟨k₇, hy⟩ => ?_) fun _ _ x => x)
            obtain ⟨h6, tk6, rfl, ht6, s6⟩ := keep6 (Kp.trans' k₆ k₇)
            have hl6 : h6.PlainList D zs := hlf.at (fun o e => s6 _ o e)
            refine noE (wpAny_list_append_plain hl6 (fun h7 hl7 hs7 => ?_) (by rw [sizeLine_eq]; omega))
            have sub7 : Sub (hideAll h6 (wr2 ++ S')) (hideAll h7 (wr2 ++ S')) := hide_sub (fun b o hb e => (hs7.2 b (hS' b (fun hm => hb (List.mem_append_right _ hm))).1).trans e) fun a ha hn => absurd ha hn
            refine ⟨m + 1 - (j + 1), by omega, j + 1, rfl, hjlt, h7, tk6, _, zs.push y, rfl, by omega, (hnf.keeps s6).sameBut hs7 (Ne.symm hDC), hxm, W.frame _ _ _ hsf1 (fun b hb o e => (hs7.2 b (fun q => hDf (by rw [← q]; exact hb))).trans (s6 b o e)), W2.frame _ _ _ hsf2 (fun b hb o e => (hs7.2 b (fun q => (fp2S b hb).1 q)).trans (s6 b o e)), hl7, ?_, ?_, fun b o h1 h2 h4 e => (hs7.2 b h1).trans (s6 _ _ (hkf b o h1 h2 h4 e)), fun b o h1 h2 h4 e => (hs7.2 b h1).trans (s6 _ _ (hf5 b o h1 h2 h4 e))⟩
            · rw [Array.size_push]; omega
            · rw [List.range_succ, List.filter_append, List.map_append]
              simp only [List.filter_cons, hb, if_true, List.filter_nil, List.map_cons, List.map_nil, Array.toList_push]
              rw [← List.append_assoc]
              exact (hgA.stab ((hfA.trans (hide_mono s6)).trans sub7)).snoc ((r i j).stab sub7 hy)
        · obtain rfl : j = m := Nat.le_antisymm hjm hjge
          refine wpAny_with_toks (Nat.le_refl _) (W2.done _ _ _ hgs2 fun g' tg' hgg => ?_)
          intro htg'
          dsimp only at htg' hgg ⊢
          have hCw2 : Cc ∉ wr2 := fun hm => (fp2S _ (wfp2 _ hm)).2.1 rfl
          have hDw2 : D ∉ wr2 := fun hm => (fp2S _ (wfp2 _ hm)).1 rfl
          refine ⟨n + 1 - (i + 1), by omega, i + 1, rfl, hlt, g', tg', gm, zs, rfl, by omega, hgm.at' fun o e => hgg Cc o hCw2 e, W.frame _ _ _ hgs (fun b hb o e => hgg b o (fun hm => hw2f b hm hb) e), hgpl.at fun o e => hgg D o hDw2 e, ?_, ?_, fun b o h1 h2 h3 e => hgg b o (fun hm => by rw [newW2 b hm] at e; cases e) (hgk b o h1 h2 h3 e)⟩
          · rw [Nat.add_mul, Nat.one_mul]; exact hgz
          · rw [two_succ]
            exact hgA.stab (hide_sub (fun b o hb e => hgg b o (fun hm => hb (List.mem_append_left _ hm)) e) fun a ha hn => absurd (List.mem_append_right _ ha) hn)
      exact codeAny_innerStart inner (W2.self 0 _ _ _ hst2 inner)
    · obtain rfl : i = n := Nat.le_antisymm hin hge
      refine wpAny_with_toks (Nat.le_refl _) (W.done _ _ _ hsti fun h' tk' hkk => ?_)
      intro htk'
      dsimp only at htk' hkk ⊢
      refine hRR D Cc _ ⟨⟨⟨h', tk', ?_, fun b o e => ?_⟩, ?_⟩, newD, newC, hDC, ⟨mm, hm.at' fun o e => hkk Cc o hCw e⟩, ys, hpl.at fun o e => hkk D o hDw e, fun h'' hk'' => ?_⟩
      · obtain ⟨⟨a1, a2, a3, _⟩, _⟩ := k₂; rw [a3]
      · exact hkk b o (fun hh => by rw [hfr b hh] at e; cases e) (ks h hk b o e)
      · exact Nat.le_trans k₂.2 (Nat.le_trans htk htk')
      · refine hA.stab (hide_sub (fun b o hb e => hk'' b o (hS' b hb).2.1 (hkk b o (hS' b hb).2.2 e)) fun a ha hn => absurd ?_ hn)
        simp only [S', List.mem_cons, List.mem_append] at ha ⊢
        rcases ha with h | h
        · exact .inr (.inl h)
        · exact .inr (.inr (.inr h))
  have inv0 : Inv 0 { s₂ with heap := h₁, toks := s₂.toks + ([] : List (Str × Value)).length } := ⟨h₁, _, _, #[], rfl, Nat.le_refl _, hns₁, W.frame _ _ _ hst (fun b _ o e => old b o e), hacc, by simp, .nil, fun b o _ _ _ e => old b o e⟩
  exact codeAny_compStart_list (loop 0 _ inv0 (Nat.zero_le _)) (W.self 0 _ _ _ (W.frame _ _ _ hst fun b _ o e => old b o e) (loop 0 _ inv0 (Nat.zero_le _)))

theorem Ev.comp2 (hsrc : Src C n q iter) (hclos : closureFor scope C.env = pure cl) (hcell : ∀ y ∈ scope.names, y.2 ≠ .cell) (hkind : scope.kind = .function) (hnames : ∀ y ∈ scope.names, y.2 = .local → scope.names.lookup y.1 = some .local)
    (hx : scope.names.lookup x = some .local) (hx2 : scope.names.lookup x2 = some .local) (hxx : x ≠ x2) (hρ : ∀ yp ∈ ρ, yp ∈ C.ρ ∧ Caught C.env scope cl yp.1) (hn : n * m ≤ 100000)
    (hsrc2 : ∀ i Cc S', i < n → Src (C.comp scope cl Cc S' ((x, q i) :: ρ)) m q2 iter2)
    (ht : ∀ i j Cc S', i < n → j < m → TtIfs (C.comp scope cl Cc S' ((x2, q2 j) :: (x, q i) :: ρ)) ifs (b i j))
    (he : ∀ i j Cc S', i < n → j < m → b i j = true → Ev (C.comp scope cl Cc S' ((x2, q2 j) :: (x, q i) :: ρ)) elt (r i j))
    (hs2 : ∀ env x, foldedSetIterable iter2 env x = pure x := by intro _ _; rfl)
    (hs : ∀ x, foldedSetIterable iter C.env x = pure x := by intro _; rfl) : Ev C (.ListComp elt [⟨.Name x px, iter, [], 0⟩, ⟨.Name x2 px2, iter2, ifs, 0⟩] scope pos) (TLst (two b r m n)) := .mk fun A s R X => by
  rw [eval_ListComp]
  refine wpAny_comprehension_free (use := none) rfl hs hclos hkind hnames (comp2_core (RR := fun acc Cc => compPost (MM C.w) A NoE none (fun v s' => Kp s s' ∧ (TLst (two b r m n)).holds (hideAll s'.heap C.S) v) acc Cc)
    R X hsrc hcell hkind hx hx2 hxx hρ hn hsrc2 ht he hs2 fun D Cc s' h => ?_)
  obtain ⟨m, hm⟩ := h.ns
  obtain ⟨ys, ⟨e, hpl⟩, hA⟩ := h.lst
  refine ⟨m, hm, fun h' hs' => ⟨⟨⟨h', s'.toks, ?_, fun b o e => ?_⟩, h.same.2⟩, D, ys, rfl, ⟨_, (hide_get ..).2 ⟨(hs'.2 D h.ne).trans hpl, fun hm => ?_⟩, rfl, _, rfl⟩, ?_⟩⟩
  · obtain ⟨⟨a, c, d, _⟩, _⟩ := h.same; rw [d]
  · exact (hs'.2 b (fun q => by rw [q, h.newC] at e; cases e)).trans (keeps_sub h.same b o e)
  · obtain ⟨o, e⟩ := X.live D hm; rw [h.newD] at e; cases e
  · exact (hA h' fun b o hb e => (hs'.2 b hb).trans e).stab (hide_sub (fun _ _ _ e => e) fun a ha hn => absurd (List.mem_cons_of_mem _ ha) hn)
end
end Mine
namespace Mine

theorem two_strs (P : Str → Str → Bool) (as bs : List Str) : two (fun i j => P (as.getD i default) (bs.getD j default)) (fun i _ => TStr (as.getD i default)) bs.length as.length = (as.flatMap fun a => (bs.filter (P a)).map fun _ => a).map TStr := by
  unfold two
  rw [List.map_flatMap]
  conv => rhs; rw [← range_get default as]
  rw [List.flatMap_map]
  congr 1
  funext i
  have := range_filter default (P (as.getD i default)) (fun _ => TStr (as.getD i default)) bs
  rw [List.map_map]
  exact this

theorem def_229 (w : World) : DefAt w 229 (fdAt 229) (bodyAt 229) := ⟨⟨_, _, _, rfl⟩, by rfl, rfl, rfl, rfl, rfl, rfl, rfl, rfl, by decide⟩
theorem g_217 (w : World) : nsIn (KK w) mainGlobals (Str.ofString "_law_within") = some (some (.ref 217)) := by rfl
theorem k_217 (w : World) : keepIn (KK w) (.ref 217) = true := by rfl

def at' (o : List Str) (k : Nat) : Str := o.getD k default
def ahead (o : List Str) (k : Nat) : List Str := within (at' o k) (at' o (k + 1)) (o.take k)
def behind (o : List Str) (k : Nat) : List Str := within (at' o k) (at' o (k + 1)) (o.drop (k + 2))
def viol (o : List Str) (k : Nat) : List Str := (ahead o k).flatMap fun a => ((behind o k).filter fun b => cmp3 a b != cmp3 (at' o k) (at' o (k + 1))).map fun _ => a
def baxter (o : List Str) : Bool := (List.range 5).all fun k => decide (viol o k = [])

theorem within_len (p0 p1 : Str) (o : List Str) : (within p0 p1 o).length ≤ o.length := List.length_filter_le _ _
theorem strs_item {o : List Str} {k : Nat} (h : k < o.length) : (o.map TStr)[((k : Nat) : Int).toNat]? = some (TStr (at' o k)) := by
  rw [List.getElem?_map, Int.toNat_natCast, List.getElem?_eq_getElem h]
  unfold at'
  rw [List.getD_eq_getElem?_getD, List.getElem?_eq_getElem h]; rfl

theorem fn_baxter (w : World) (k : Nat) (o : List Str) (h6 : o.length = 6) : Fn w (k + 3) (.ref 229) [TStrs o] (TBool (baxter o)) := by
  refine Fn.enter (names := [Str.ofString "order"]) (def_229 w) rfl (by decide) (by decide) (fun vs hv => ?_) fun A L S s₀ s R H => ?_
  · obtain ⟨a, rfl⟩ := args1 hv; rfl
  o_facts H
  refine ex_for (D := Unit) (q := fun i => TInt (i : Int)) (n := 5) (fun i _ => ∀ j < i, viol o j = []) (fun i _ => [(Str.ofString "order", TStrs o)]) (fun _ _ => []) (fun _ => False) (fun _ => []) (fun _ => []) ()
    H R (fun _ h => absurd h (Nat.not_lt_zero _)) (Src.range Ev.cint rfl (by decide)) (storeOk_of (by decide)) (fun _ _ => rfl) (fun _ => rfl) (fun i d hK' S' s' hi hP H' => ?_) (fun d s' hP H' => ?_) (fun d s' h => h.elim)
  · o_facts H'
    have i0 : (0 : Int) ≤ (i : Int) := Int.natCast_nonneg _
    have ib : (i : Int) < 2 ^ 63 := by omega
    refine ex_assign (p := TStrs [at' o i, at' o (i + 1)]) H' R (Ev.list (EvL.cons (Ev.item (Ev.var (by walk_at "mem")) (Ev.var (by walk_at "mem")) i0 ib (strs_item (by omega))) (EvL.cons (Ev.item (i := ((i + 1 : Nat) : Int)) (Ev.var (by walk_at "mem")) (Ev.eq (Ev.bin (Ev.var (by walk_at "mem")) Ev.cint Op2.add_int) (by push_cast; rfl)) (by omega) (by omega) (strs_item (by omega))) EvL.nil))) (storeOk_of (by decide)) fun s₁ H₁ => ?_
    o_facts H₁
    refine ex_assign (p := TStrs (ahead o i)) H₁ R (Ev.call (Ev.global rfl (g_217 _)) (.inl ⟨_, rfl, k_217 _⟩) (EvL.cons (Ev.var (by walk_at "mem")) (EvL.cons (Ev.eq (Ev.upto (i := (i : Int)) (Ev.var (by walk_at "mem")) (Ev.var (by walk_at "mem")) i0 (by rw [List.length_map]; omega)) (by rw [Int.toNat_natCast, ← List.map_take])) EvL.nil)) (fn_within w _ _ _ _ (by rw [List.length_take]; omega))) (storeOk_of (by decide)) fun s₂ H₂ => ?_
    o_facts H₂
    refine ex_assign (p := TStrs (behind o i)) H₂ R (Ev.call (Ev.global rfl (g_217 _)) (.inl ⟨_, rfl, k_217 _⟩) (EvL.cons (Ev.var (by walk_at "mem")) (EvL.cons (Ev.eq (Ev.from (i := ((i + 2 : Nat) : Int)) (Ev.var (by walk_at "mem")) (Ev.eq (Ev.bin (Ev.var (by walk_at "mem")) Ev.cint Op2.add_int) (by push_cast; rfl)) (by omega) (by rw [List.length_map]; omega)) (by rw [Int.toNat_natCast, ← List.map_drop])) EvL.nil)) (fn_within w _ _ _ _ (by rw [List.length_drop]; omega))) (storeOk_of (by decide)) fun s₃ H₃ => ?_
    o_facts H₃
    refine ex_assign H₃ R (Ev.call (Ev.global rfl (g_28 _)) (.inl ⟨_, rfl, k_28 _⟩) (EvL.cons (Ev.item (Ev.var (by walk_at "mem")) Ev.cint (by decide) (by decide) rfl) (EvL.cons (Ev.item (Ev.var (by walk_at "mem")) Ev.cint (by decide) (by decide) rfl) EvL.nil)) (fn_cmp3 w _ _ _)) (storeOk_of (by decide)) fun s₄ H₄ => ?_
    o_facts H₄
    have la : (ahead o i).length ≤ 6 := Nat.le_trans (within_len _ _ _) (by rw [List.length_take]; omega)
    have lb : (behind o i).length ≤ 6 := Nat.le_trans (within_len _ _ _) (by rw [List.length_drop]; omega)
    have lab : (ahead o i).length * (behind o i).length ≤ 6 * 6 := Nat.mul_le_mul la lb
    refine ex_if H₄ R (b := !decide (viol o i = [])) (Tt.cmp (Ev.eq (Ev.comp2 (n := (ahead o i).length) (m := (behind o i).length) (q := fun j => TStr ((ahead o i).getD j default)) (q2 := fun j => TStr ((behind o i).getD j default))
      (b := fun j l => cmp3 ((ahead o i).getD j default) ((behind o i).getD l default) != cmp3 (at' o i) (at' o (i + 1))) (r := fun j _ => TStr ((ahead o i).getD j default))
      (ρ := [(Str.ofString "behind", TStrs (behind o i)), (Str.ofString "side", TInt (cmp3 (at' o i) (at' o (i + 1))))]) (Src.strs (Ev.var (by walk_at "mem"))) rfl (by decide) rfl (by decide) rfl rfl (by decide) (fun yp hyp => ?_) (by omega) (fun j Cc S' hj => Src.strs (Ev.var (by walk_at "mem")))
      (fun j l Cc S' hj hl => TtIfs.one (Tt.cmp (Ev.call (Ev.global rfl (g_28 _)) (.inl ⟨_, rfl, k_28 _⟩) (EvL.cons (Ev.var (by walk_at "mem")) (EvL.cons (Ev.var (by walk_at "mem")) EvL.nil)) (fn_cmp3 w _ _ _)) (Ev.var (by walk_at "mem")) Op2.ne_int)) (fun j l Cc S' hj hl _ => Ev.var (by walk_at "mem")))
      (congrArg TLst (two_strs (fun a b => cmp3 a b != cmp3 (at' o i) (at' o (i + 1))) (ahead o i) (behind o i)))) (Ev.list EvL.nil) (Op2.ne_lst eqS (viol o i) [] (by decide))) fun s₅ H₅ => ?_
    · rcases List.mem_cons.mp hyp with rfl | hyp
      · exact ⟨by walk_at "mem", rfl, .inl rfl, rfl, rfl⟩
      · rw [List.mem_singleton] at hyp; subst hyp
        exact ⟨by walk_at "mem", rfl, .inl rfl, rfl, rfl⟩
    · by_cases hv : viol o i = []
      · rw [decide_eq_true hv]
        refine Run.nil (Run.nil ⟨(), fun j hj => ?_, H₅.weak (by simp)⟩)
        rcases Nat.lt_succ_iff_lt_or_eq.mp hj with h | rfl
        · exact hP j h
        · exact hv
      · rw [decide_eq_false hv]
        refine ex_return (p := TBool false) H₅ R Ev.cbool fun v s' H' hp => ?_
        have e : baxter o = false := by
          unfold baxter
          rw [List.all_eq_false]
          exact ⟨i, List.mem_range.mpr hi, by rw [decide_eq_false hv]; decide⟩
        rw [e]
        exact H'.ret hp
  · refine ex_return (p := TBool (baxter o)) H' R (Ev.eq Ev.cbool ?_) fun v s' H' hp => H'.ret hp
    congr 1
    unfold baxter
    symm
    rw [List.all_eq_true]
    intro j hj
    exact decide_eq_true (hP j (List.mem_range.mp hj))
end Mine
namespace Mine

section
variable {F : Fx} {hK : Heap} {S₀ : List Addr} {ρ ρ' : List (Str × FP)} {ω ω' : List (Addr × OP)} {s s' : Shared} {A : Around} {Q : Flow → Shared → Prop} {p q r : FP} {e : Expr} {pos apos np px : Pos} {rest body : List Stmt} {a : Addr} {x : Str} {O O' : OP} {ps qs : List FP}

/-- a new object, of the function's own -/
theorem Fs.own_push {o : Obj} (H : Fs F hK S₀ ρ ω s) (hf : o.isFreed = false) (hO : O.holds (hideAll s.heap (F.S S₀ ω)) o) : Fs F hK S₀ ρ ((s.heap.objs.size, O) :: ω) { s with heap := s.heap.push o } := by
  have fr : s.heap.get? s.heap.objs.size = none := fresh_size _ _ (Nat.le_refl _)
  have nin : s.heap.objs.size ∉ F.S S₀ ω := fresh_notin H.live
  have H' := H.step (Kp.mk' (s := s) (push_sub s.heap o))
  have hsub : Sub (hideAll s.heap (F.S S₀ ω)) (hideAll (s.heap.push o) (F.S S₀ ((s.heap.objs.size, O) :: ω))) := hide_sub (fun b o' _ e => push_sub _ _ _ _ e) fun b hb hn => by
    unfold Fx.S at hb hn
    simp only [List.map_cons, List.cons_append, List.mem_append, List.mem_cons, not_or] at hb hn
    rcases hb with h | h | h | h
    · exact absurd h hn.1
    · rw [h]; exact fr
    · exact absurd h hn.2.1
    · exact absurd h hn.2.2
  have hmem : ∀ b, b ∈ F.own ++ ω.map (·.1) → b ∈ F.S S₀ ω := fun b hb => by
    unfold Fx.S
    rcases List.mem_append.mp hb with h | h
    · exact List.mem_append_left _ h
    · exact List.mem_append_right _ (List.mem_append_left _ h)
  exact { H' with
    live := (fun b hb => by
      unfold Fx.S at hb
      simp only [List.map_cons, List.cons_append, List.mem_append, List.mem_cons] at hb
      by_cases hbs : b = s.heap.objs.size
      · subst hbs; exact ⟨_, Heap.get?_push_size _ hf⟩
      · refine H'.live b ?_
        unfold Fx.S
        simp only [List.mem_append]
        rcases hb with h | h | h | h
        · exact .inl h
        · exact absurd h hbs
        · exact .inr (.inl h)
        · exact .inr (.inr h))
    nd := (by
      rw [List.map_cons, List.nodup_append]
      have h := List.nodup_append.mp H.nd
      refine ⟨h.1, List.nodup_cons.mpr ⟨fun hm => nin (hmem _ (List.mem_append_right _ hm)), h.2.1⟩, fun b hb c hc hbc => ?_⟩
      subst hbc
      rcases List.mem_cons.mp hc with h' | h'
      · exact nin (hmem _ (List.mem_append_left _ (by have h'' : b = s.heap.objs.size := h'; rw [← h'']; exact hb)))
      · exact h.2.2 b hb b h' rfl)
    fresh := (fun b hb => by
      rw [List.map_cons] at hb
      by_cases hbs : b = s.heap.objs.size
      · subst hbs
        constructor
        · cases e : hK.get? s.heap.objs.size with
          | none => rfl
          | some o => have := H.keep _ _ e; rw [fr] at this; cases this
        · cases e : F.s₀.heap.get? s.heap.objs.size with
          | none => rfl
          | some o => have := keeps_sub H.same _ _ e; rw [fr] at this; cases this
      · refine H.fresh b ?_
        rcases List.mem_append.mp hb with h | h
        · exact List.mem_append_left _ h
        · rcases List.mem_cons.mp h with h | h
          · exact absurd h hbs
          · exact List.mem_append_right _ h)
    apart := (fun b hb hm => by
      rw [List.map_cons] at hb
      rcases List.mem_cons.mp hb with h | h
      · have h' : b = s.heap.objs.size := h
        subst h'
        exact nin (List.mem_append_right _ (List.mem_append_right _ hm))
      · exact H.apart b h hm)
    vars := (fun xp hx => by
      obtain ⟨v, h1, h2⟩ := H.vars xp hx
      exact ⟨v, h1.stab (push_sub _ _), xp.2.stab hsub h2⟩)
    owns := (fun aq ha => by
      rcases List.mem_cons.mp ha with rfl | ha
      · exact ⟨o, Heap.get?_push_size _ hf, O.stab hsub hO⟩
      · obtain ⟨o', h1, h2⟩ := H.owns aq ha
        exact ⟨o', push_sub _ _ _ _ h1, aq.2.stab hsub h2⟩) }

/-- x = [..], to be changed -/
theorem ex_ownF {es : List Expr} {lpos : Pos} (H : Fs F hK S₀ ρ ω s) (R : Room F.k A) (h : EvL (F.cx S₀ ρ ω) lpos es ps) (hz : ps.length ≤ 1000) (hx : StoreOk F.env x)
    (k : ∀ a s', Fs F hK S₀ ((x, TRef a) :: drp x ρ) ((a, OLst ps) :: ω) s' → wpAny (MM F.w) A (execs rest F.env) Q NoE s')
    (hs : swapsWith (.List es lpos) (some (.Name x px)) pos.line F.env = pure false := by rfl) : wpAny (MM F.w) A (execs (.Assign [.Name x px] (.List es lpos) pos :: rest) F.env) Q NoE s := by
  refine wpAny_execs_cons (wpAny_Assign_Name ?_ hs)
  refine List_ (wpAny_mono (h.go A s R H.xs) (fun vs s₁ ⟨k₁, b⟩ => ?_) fun _ _ x => x)
  have hl := b.length
  refine wpAny_newObj_type ?_ (by show vs.toArray.size ≤ sizeLine; rw [List.size_toArray, sizeLine_eq]; omega)
  have H₁ := (H.step k₁).own_push (O := OLst ps) (o := { cls := .type "list", dict := none, data := .seq vs.toArray }) rfl ⟨_, _, rfl, by simpa using b⟩
  exact H₁.store hx (p := TRef s₁.heap.objs.size) rfl fun s'' H'' => k _ s'' H''

/-- an own object is changed -/
theorem Fs.mut {h' : Heap} {t : Nat} (H : Fs F hK S₀ ρ ω s) (ha : a ∈ ω.map (·.1)) (hw : ω'.map (·.1) = ω.map (·.1)) (hω : ∀ aq ∈ ω', aq = (a, O') ∨ (aq ∈ ω ∧ aq.1 ≠ a)) (hs : Heap.SameBut a s.heap h') (ht : s.toks ≤ t)
    (ho : ∃ o, h'.get? a = some o ∧ O'.holds (hideAll h' (F.S S₀ ω)) o) : Fs F hK S₀ ρ ω' { s with heap := h', toks := t } := by
  have haS : a ∈ F.S S₀ ω := List.mem_append_right _ (List.mem_append_left _ ha)
  have sub : Sub (hideAll s.heap (F.S S₀ ω)) (hideAll h' (F.S S₀ ω)) := hide_sub (fun b o hb e => (hs.2 b (fun q => hb (q ▸ haS))).trans e) fun b hb hn => absurd hb hn
  have hS : F.S S₀ ω' = F.S S₀ ω := by unfold Fx.S; rw [hw]
  have ndw : a ∉ F.own := fun hb => by
    have h := H.nd
    rw [List.nodup_append] at h
    exact h.2.2 a hb a ha rfl
  have ndL : F.env.locals ≠ a := fun e => ndw (e ▸ .head _)
  have ndC : ∀ n c, F.env.cells.lookup n = some c → c ≠ a := fun n c e q => ndw (q ▸ .tail _ (List.mem_map.mpr ⟨_, mem_of_lookup e, rfl⟩))
  obtain ⟨o, ho1, ho2⟩ := ho
  obtain ⟨m, hm⟩ := H.ns
  refine H.upd (a := a) (List.mem_append_right _ ha) hs ht ⟨m, hm.sameBut hs ndL⟩ (fun n c e => ?_) ⟨o, ho1⟩ (fun xp hxp => ?_) hw (fun aq haq => ?_)
  · obtain ⟨v, hv⟩ := H.cells n c e
    exact ⟨v, hv.sameBut hs (ndC n c e)⟩
  · obtain ⟨v, hv, hp⟩ := H.vars xp hxp
    refine ⟨v, ?_, by rw [hS]; exact xp.2.stab sub hp⟩
    rcases hv with ⟨a, m', b, d⟩ | ⟨a, c, b, d⟩ | ⟨a, a', c, b, d⟩
    · exact .inl ⟨a, m', b.sameBut hs ndL, d⟩
    · exact .inr (.inl ⟨a, c, b, d.sameBut hs (ndC _ _ b)⟩)
    · exact .inr (.inr ⟨a, a', c, b, d.sameBut hs (ndC _ _ b)⟩)
  · rw [hS]
    rcases hω aq haq with rfl | ⟨h1, h2⟩
    · exact ⟨o, ho1, ho2⟩
    · obtain ⟨o', e1, e2⟩ := H.owns aq h1
      exact ⟨o', (hs.2 _ h2).trans e1, aq.2.stab sub e2⟩
theorem Fs.mut1 {h' : Heap} {t : Nat} (H : Fs F hK S₀ ρ ((a, O) :: ω) s) (hs : Heap.SameBut a s.heap h') (ht : s.toks ≤ t)
    (ho : ∃ o, h'.get? a = some o ∧ O'.holds (hideAll h' (F.S S₀ ((a, O) :: ω))) o) : Fs F hK S₀ ρ ((a, O') :: ω) { s with heap := h', toks := t } :=
  H.mut (by simp) rfl (fun aq h => by
    rcases List.mem_cons.mp h with rfl | h
    · exact .inl rfl
    · refine .inr ⟨.tail _ h, fun e => ?_⟩
      have hn := (List.nodup_append.mp H.nd).2.1
      rw [List.map_cons, List.nodup_cons] at hn
      exact hn.1 (e ▸ List.mem_map_of_mem (f := (·.1)) h)) hs ht ho
theorem Fs.swap {y z : Addr × OP} (H : Fs F hK S₀ ρ (y :: z :: ω) s) : Fs F hK S₀ ρ (z :: y :: ω) s := by
  have hm : ∀ b, b ∈ F.S S₀ (z :: y :: ω) ↔ b ∈ F.S S₀ (y :: z :: ω) := fun b => by
    unfold Fx.S
    simp only [List.map_cons, List.cons_append, List.mem_append, List.mem_cons]
    constructor <;> (intro h; rcases h with h | h | h | h | h <;> simp [h])
  have hsub : Sub (hideAll s.heap (F.S S₀ (y :: z :: ω))) (hideAll s.heap (F.S S₀ (z :: y :: ω))) := hide_sub (fun _ _ _ e => e) fun b hb hn => absurd ((hm b).1 hb) hn
  have hp : ((F.own ++ (z :: y :: ω).map (·.1))).Perm (F.own ++ (y :: z :: ω).map (·.1)) := by
    refine List.Perm.append_left _ ?_
    simp only [List.map_cons]
    exact List.Perm.swap _ _ _
  exact { H with
    live := (fun b hb => H.live b ((hm b).1 hb))
    nd := (hp.nodup_iff.mpr H.nd)
    fresh := (fun b hb => H.fresh b (hp.mem_iff.mp hb))
    apart := (fun b hb hm' => H.apart b (by simp only [List.map_cons, List.mem_cons] at hb ⊢; rcases hb with h | h | h <;> simp [h]) hm')
    vars := (fun xp hx => let ⟨v, h1, h2⟩ := H.vars xp hx; ⟨v, h1, xp.2.stab hsub h2⟩)
    owns := (fun aq ha => let ⟨o, h1, h2⟩ := H.owns aq (by simp only [List.mem_cons] at ha ⊢; rcases ha with h | h | h <;> simp [h]); ⟨o, h1, aq.2.stab hsub h2⟩) }

theorem unown_sub {h : Heap} : Sub (hideAll h (F.S S₀ ((a, O) :: ω))) (hideAll h (F.S S₀ ω)) := hide_sub (fun _ _ _ e => e) fun b hb hn => absurd (by
  unfold Fx.S at hb ⊢
  simp only [List.map_cons, List.cons_append, List.mem_append, List.mem_cons] at hb ⊢
  rcases hb with h | h | h <;> simp [h]) hn
/-- an own list is changed no more -/
theorem Fs.freeze (H : Fs F hK S₀ ρ ((a, OLst ps) :: ω) s) (hx : (x, TRef a) ∈ ρ) : Fs F hK S₀ ((x, TLst ps) :: drp x ρ) ω s := by
  have hn := List.nodup_append.mp H.nd
  rw [List.map_cons, List.nodup_cons] at hn
  have haS : a ∉ F.S S₀ ω := fun hm => by
    unfold Fx.S at hm
    simp only [List.mem_append] at hm
    rcases hm with h | h | h
    · exact hn.2.2 a h a (.head _) rfl
    · exact hn.2.1.1 h
    · exact H.apart a (by simp) h
  have h1 : ∀ b, b ∈ F.own ++ ω.map (·.1) → b ∈ F.own ++ ((a, OLst ps) :: ω).map (·.1) := fun b hb => by
    simp only [List.map_cons, List.mem_append, List.mem_cons] at hb ⊢
    rcases hb with h | h <;> simp [h]
  exact { H with
    live := (fun b hb => H.live b (by
      unfold Fx.S at hb ⊢
      simp only [List.map_cons, List.cons_append, List.mem_append, List.mem_cons] at hb ⊢
      rcases hb with h | h | h <;> simp [h]))
    nd := (List.nodup_append.mpr ⟨hn.1, hn.2.1.2, fun b hb c hc => hn.2.2 b hb c (.tail _ hc)⟩)
    fresh := (fun b hb => H.fresh b (h1 b hb))
    apart := (fun b hb => H.apart b (.tail _ hb))
    vars := (fun xp hxp => by
      rcases List.mem_cons.mp hxp with rfl | hxp
      · obtain ⟨v, e1, e2⟩ := H.vars _ hx
        refine ⟨v, e1, ?_⟩
        obtain ⟨o, o1, n, vs, rfl, o3⟩ := H.owns (a, OLst ps) (.head _)
        exact ⟨a, vs, e2, ⟨_, (hide_get ..).2 ⟨o1, haS⟩, rfl, _, rfl⟩, o3.stab unown_sub⟩
      · obtain ⟨v, e1, e2⟩ := H.vars _ (mem_drp hxp).1
        exact ⟨v, e1, xp.2.stab unown_sub e2⟩)
    owns := (fun aq ha => let ⟨o, e1, e2⟩ := H.owns aq (.tail _ ha); ⟨o, e1, aq.2.stab unown_sub e2⟩) }

/-- the same, for the reckoning of one expression alone -/
theorem Xs.frozen (hx : (x, TRef a) ∈ ρ) (ha : a ∉ F.S S₀ ω) (X : Xs (F.cx S₀ ρ ((a, OLst ps) :: ω)) s) : Xs (F.cx S₀ ((x, TLst ps) :: drp x ρ) ω) s :=
  { X with
    live := (fun b hb => X.live b (by
      have hb' : b ∈ F.S S₀ ω := hb
      show b ∈ F.S S₀ ((a, OLst ps) :: ω)
      unfold Fx.S at hb' ⊢
      simp only [List.map_cons, List.cons_append, List.mem_append, List.mem_cons] at hb' ⊢
      rcases hb' with h | h | h <;> simp [h]))
    vars := (fun xp hxp => by
      rcases List.mem_cons.mp hxp with rfl | hxp
      · obtain ⟨v, e1, e2⟩ := X.vars _ hx
        refine ⟨v, e1, ?_⟩
        obtain ⟨o, o1, n, vs, rfl, o3⟩ := X.own (a, OLst ps) (.head _)
        exact ⟨a, vs, e2, ⟨_, (hide_get ..).2 ⟨o1, ha⟩, rfl, _, rfl⟩, o3.stab unown_sub⟩
      · obtain ⟨v, e1, e2⟩ := X.vars _ (mem_drp hxp).1
        exact ⟨v, e1, xp.2.stab unown_sub e2⟩)
    own := (fun aq h => let ⟨o, e1, e2⟩ := X.own aq (.tail _ h); ⟨o, e1, aq.2.stab unown_sub e2⟩) }
def Plain (p : FP) : Prop := ∀ h h' v, p.holds h v → p.holds h' v
theorem Ev.frozen (hx : (x, TRef a) ∈ ρ) (ha : a ∉ F.S S₀ ω) (hp : Plain p) (h : Ev (F.cx S₀ ((x, TLst ps) :: drp x ρ) ω) e p) : Ev (F.cx S₀ ρ ((a, OLst ps) :: ω)) e p := .mk fun A s R X =>
  wpAny_mono (h.go A s R (X.frozen hx ha)) (fun v s' ⟨k, hv⟩ => ⟨k, hp _ _ _ hv⟩) fun _ _ x => x
theorem Fs.notS (H : Fs F hK S₀ ρ ((a, O) :: ω) s) : a ∉ F.S S₀ ω := fun hm => by
  have hn := List.nodup_append.mp H.nd
  rw [List.map_cons, List.nodup_cons] at hn
  unfold Fx.S at hm
  simp only [List.mem_append] at hm
  rcases hm with h | h | h
  · exact hn.2.2 a h a (.head _) rfl
  · exact hn.2.1.1 h
  · exact H.apart a (by simp) h

/-- reading an own list -/
theorem Op2.own_item {i : Int} (ha : (a, OLst ps) ∈ ω) (h0 : 0 ≤ i) (hb : i < 2 ^ 63) (hp : ps[i.toNat]? = some p) : Op2 (F.cx S₀ ρ ω) getItem (TRef a) (TInt i) p := .mk fun A s v u R X hv hu => by
  obtain ⟨t, rfl⟩ := hu
  cases hv
  obtain ⟨o, o1, n, vs, rfl, o3⟩ := X.own _ ha
  obtain ⟨z, hz, hpz⟩ := o3.get i.toNat hp
  exact wpAny_getItem_list ⟨_, o1, rfl, _, rfl⟩ h0 hb (by simpa using hz) ⟨Kp.rfl', hpz⟩
theorem Ev.own_item {l x : Expr} {i : Int} (ha : (a, OLst ps) ∈ ω) (h1 : Ev (F.cx S₀ ρ ω) l (TRef a)) (h2 : Ev (F.cx S₀ ρ ω) x (TInt i)) (h0 : 0 ≤ i) (hb : i < 2 ^ 63) (hp : ps[i.toNat]? = some p)
    (hs : ∀ o i, ∃ ops, subscripted x false o i = operate ops (getItem o i) := by intro _ _; exact ⟨_, rfl⟩) : Ev (F.cx S₀ ρ ω) (.Subscript l x pos) p := .mk fun A s R X =>
  Subscript_ ((h1.go A s R X).use fun v s₁ k₁ a' => ((h2.go A s₁ R (X.keeps k₁)).use fun u s₂ k₂ b => by
    obtain ⟨ops, hs⟩ := hs v u
    cases a'
    obtain ⟨o, o1, n, vs, rfl, o3⟩ := (X.keeps (Kp.trans' k₁ k₂)).own _ ha
    exact tail_any ⟨_, o1, rfl⟩ slot_list_getitem.lookup (((Op2.own_item ha h0 hb hp).go A s₂ _ u R (X.keeps (Kp.trans' k₁ k₂)) rfl b).after (Kp.trans' k₁ k₂)) hs))
end
end Mine
namespace Mine

open AutoSeq1 (wpAny_loadPart') in
theorem iadd_lists (l : Addr) (items : Array Value) (n : Nat) (b : Addr) (items2 : Array Value) (n2 : Nat) (dd : Option Addr) (sl : Array (Option Value)) (h0 : ¬(!items.isEmpty && Builtin.List.listTooLong (items.size + items2.size)) = true) (h1 : items.size ≤ sizeLine) (h2 : items.size + items2.size ≤ sizeLine + 1) :
    Meets (Builtin.«list.__iadd__» ⟨[.ref l, .ref b], []⟩) (fun _ R s => s.heap.get? l = some { cls := .type "list", dict := none, data := .seq items n, slots := #[] } ∧ s.heap.get? b = some { cls := .type "list", dict := dd, data := .seq items2 n2, slots := sl } ∧ R (.ok (.ret (Value.ref l))) { s with heap := s.heap.update l (Obj.mapSeq fun x => x ++ items2), toks := s.toks }) :=
  .of_wp fun prog w A R s h => by
    obtain ⟨hp, g, d, tk, os⟩ := s
    obtain ⟨hl, hb, h⟩ := h
    have f1 := AutoSeq1.idx_int
    have f2 := AutoSeq1.sub_tuple_tuple
    have f3 := AutoSeq1.sub_list_list
    have f4 := AutoSeq1.sub_tuple_list
    have f5 := AutoSeq1.sub_list_tuple
    have hz' : (items ++ items2).size ≤ sizeLine + 1 := by rw [Array.size_append]; exact h2
    wp_walk using (wpAny_updateSeq hl rfl (hz := h1) (_hz' := hz')), wpAny_loadPart' hl, wpAny_loadPart' hb
    exact ⟨_, rfl, h⟩

theorem mapSeq_at (f : Array Value → Array Value) (vs : Array Value) (n : Nat) : ∃ n', Obj.mapSeq f { cls := .type "list", data := .seq vs n } = { cls := .type "list", data := .seq (f vs) n' } := by
  unfold Obj.mapSeq
  exact ⟨_, rfl⟩
theorem look_list_iadd : typeLookup (.type "list") (dunderI "add") = pure (some (.builtin "list.__iadd__")) := PySem.F.slot_list_iadd.lookup
theorem wp_iadd {prog : Program} {w : World} {A : Around} {E : Value → Shared → Prop} {s : Shared} {a b : Value} {Q : Value → Shared → Prop} (ha : s.TypeIs a "list") (hb : s.TypeIs b "list") (hc : wpAny (model prog w) A (PySem.call (.builtin "list.__iadd__") [a, b]) Q E s) :
    wpAny (model prog w) A (inplaceOp .Add a b) Q E s := by
  unfold inplaceOp
  refine wpAny_holding ?_
  have hfi : fillsInplaceSlot (.type "list") "add" (Operator.Add == .Add) = pure false := by
    unfold fillsInplaceSlot
    show (typeLookup (.type "list") (dunderI "add") >>= fun fi => pure (fi.isSome && !isSeqSlot fi)) = pure false
    rw [look_list_iadd]; rfl
  have hsi : seqSlot? (.type "list") (dunderI "add") = pure (some (.builtin "list.__iadd__")) := by
    unfold seqSlot?
    rw [look_list_iadd]; rfl
  refine wpAny_bind (wpAny_typeOf ha (wpAny_bind (wpAny_of_eq hfi ?_)))
  show wpAny _ A (if false = true then _ else _) Q E s
  rw [if_neg Bool.false_ne_true]
  refine wpAny_bind (wpAny_binaryOp1_none (nm := "add") ha hb noFill_list_add ?_)
  refine wpAny_bind (wpAny_of_eq hsi ?_)
  exact wpAny_bind (wpAny_rule hc)

section
variable {F : Fx} {hK : Heap} {S₀ : List Addr} {ρ ρ' : List (Str × FP)} {ω ω' : List (Addr × OP)} {s s' : Shared} {A : Around} {Q : Flow → Shared → Prop} {p q r : FP} {e i : Expr} {pos apos epos lpos np px py : Pos} {rest body : List Stmt} {a : Addr} {x y : Str} {O O' : OP} {ps qs : List FP}

theorem Fs.own1 (H : Fs F hK S₀ ρ ((a, OLst ps) :: ω) s) : ∃ vs, s.heap.PlainList a vs ∧ AllH (hideAll s.heap (F.S S₀ ((a, OLst ps) :: ω))) vs.toList ps := by
  obtain ⟨o, o1, n, vs, rfl, o3⟩ := H.owns _ (.head _)
  exact ⟨vs, ⟨n, o1⟩, o3⟩
theorem mutS (H : Fs F hK S₀ ρ ((a, O) :: ω) s) {h' : Heap} (hs : Heap.SameBut a s.heap h') : Sub (hideAll s.heap (F.S S₀ ((a, O) :: ω))) (hideAll h' (F.S S₀ ((a, O) :: ω))) :=
  hide_sub (fun b o hb e => (hs.2 b (fun q => hb (q ▸ List.mem_append_right _ (List.mem_append_left _ (by simp))))).trans e) fun b hb hn => absurd hb hn

/-- x.append(e) -/
theorem ex_appendF (H : Fs F hK S₀ ρ ((a, OLst ps) :: ω) s) (R : Room F.k A) (hx : (x, TRef a) ∈ ρ) (he : Ev (F.cx S₀ ρ ((a, OLst ps) :: ω)) e p) (hz : ps.length ≤ 10000)
    (k : ∀ s', Fs F hK S₀ ρ ((a, OLst (ps ++ [p])) :: ω) s' → wpAny (MM F.w) A (execs rest F.env) Q NoE s')
    (hi : interactive F.env = false := by rfl) (hs : swapsWith (.Call (.Attribute (.Name x np) "append" apos) [e] [] pos) none epos.line F.env = pure false := by rfl) (hd : (x == ("__debug__" : Str)) = false := by decide)
    (hline : (apos.endLine == pos.line) = true := by rfl) (hbase : ∀ env, attributeBase (.Name x np) "append" env (eval (.Name x np) env) = eval (.Name x np) env := by intro _; rfl)
    (he1 : ∀ env, starEach [e] env = (false, eval e env) :: starEach [] env := by intro _; rfl)
    (hfew : ((backTo pos (starEach [e] F.env)).all (fun x => !x.1) && (backToKw pos (keywordEach [] F.env)).all (fun x => x.1.isSome)
      && decide ([e].length + ([] : List Keyword).length + (if ([] : List Keyword).isEmpty then 0 else 1) < 30)) = true := by rfl) :
    wpAny (MM F.w) A (execs (.Expr (.Call (.Attribute (.Name x np) "append" apos) [e] [] pos) epos :: rest) F.env) Q NoE s := by
  refine wpAny_execs_cons (wpAny_Expr_any ?_ hi hs)
  refine wpAny_Call_method_lateS (hbase _) hfew hline ((Ev.go (Ev.var (C := F.cx S₀ ρ ((a, OLst ps) :: ω)) hx hd) A s R H.xs).use fun v s₁ k₁ hv => ?_)
  cases hv
  have H₁ := H.step k₁
  obtain ⟨vs, ⟨n, o1⟩, o3⟩ := H₁.own1
  refine ⟨"list", "list.append", PySem.F.plainAttrs_list, PySem.F.slot_list_append, PySem.F.type_list_append, ⟨_, o1, rfl⟩, (fun b e => by cases e; exact ⟨_, o1, rfl⟩), ?_⟩
  rw [he1]
  refine callWith_builtin rfl (evalArgs_plain (spliced_cons ((he.go A s₁ R H₁.xs).use fun v s₂ k₂ hv => spliced_nil ?_)))
  have H₂ := H₁.step k₂
  obtain ⟨vs, hpl, o3⟩ := H₂.own1
  have hl := o3.length
  rw [Array.length_toList] at hl
  refine wpAny_list_append_plain hpl (fun h' hl' hs' => ?_) (by rw [sizeLine_eq]; omega)
  obtain ⟨n', e'⟩ := hl'
  refine k _ (H₂.mut1 (t := s₂.toks) hs' (Nat.le_refl _) ⟨_, e', n', _, rfl, ?_⟩)
  rw [Array.toList_push]
  exact (o3.stab (mutS H₂ hs')).snoc (p.stab (mutS H₂ hs') hv)

def ins {α : Type} (l : List α) (k : Nat) (x : α) : List α := l.take k ++ x :: l.drop k
/-- x.insert(i, e) -/
theorem ex_insertF {j : Int} (H : Fs F hK S₀ ρ ((a, OLst ps) :: ω) s) (R : Room F.k A) (hx : (x, TRef a) ∈ ρ) (hi' : Ev (F.cx S₀ ρ ((a, OLst ps) :: ω)) i (TInt j)) (he : Ev (F.cx S₀ ρ ((a, OLst ps) :: ω)) e p) (hz : ps.length ≤ 10000) (h0 : 0 ≤ j) (hj : j ≤ ps.length)
    (k : ∀ s', Fs F hK S₀ ρ ((a, OLst (ins ps j.toNat p)) :: ω) s' → wpAny (MM F.w) A (execs rest F.env) Q NoE s')
    (hi : interactive F.env = false := by rfl) (hs : swapsWith (.Call (.Attribute (.Name x np) "insert" apos) [i, e] [] pos) none epos.line F.env = pure false := by rfl) (hd : (x == ("__debug__" : Str)) = false := by decide)
    (hline : (apos.endLine == pos.line) = true := by rfl) (hbase : ∀ env, attributeBase (.Name x np) "insert" env (eval (.Name x np) env) = eval (.Name x np) env := by intro _; rfl)
    (he1 : ∀ env, starEach [i, e] env = (false, eval i env) :: (false, eval e env) :: starEach [] env := by intro _; rfl)
    (hfew : ((backTo pos (starEach [i, e] F.env)).all (fun x => !x.1) && (backToKw pos (keywordEach [] F.env)).all (fun x => x.1.isSome)
      && decide ([i, e].length + ([] : List Keyword).length + (if ([] : List Keyword).isEmpty then 0 else 1) < 30)) = true := by rfl) :
    wpAny (MM F.w) A (execs (.Expr (.Call (.Attribute (.Name x np) "insert" apos) [i, e] [] pos) epos :: rest) F.env) Q NoE s := by
  refine wpAny_execs_cons (wpAny_Expr_any ?_ hi hs)
  refine wpAny_Call_method_lateS (hbase _) hfew hline ((Ev.go (Ev.var (C := F.cx S₀ ρ ((a, OLst ps) :: ω)) hx hd) A s R H.xs).use fun v s₁ k₁ hv => ?_)
  cases hv
  have H₁ := H.step k₁
  obtain ⟨vs, ⟨n, o1⟩, o3⟩ := H₁.own1
  refine ⟨"list", "list.insert", PySem.F.plainAttrs_list, PySem.F.slot_list_insert, PySem.F.type_list_insert, ⟨_, o1, rfl⟩, (fun b e => by cases e; exact ⟨_, o1, rfl⟩), ?_⟩
  rw [he1]
  refine callWith_builtin rfl (evalArgs_plain (spliced_cons ((hi'.go A s₁ R H₁.xs).use fun u s₂ k₂ hu => spliced_cons ((he.go A s₂ R (H₁.step k₂).xs).use fun v s₃ k₃ hv => spliced_nil ?_))))
  obtain ⟨t, rfl⟩ := hu
  have H₃ := (H₁.step k₂).step k₃
  obtain ⟨vs, ⟨n, o1⟩, o3⟩ := H₃.own1
  have hl := o3.length
  rw [Array.length_toList] at hl
  have hf : Builtin.List.listFitsIndex j = true := by
    unfold Builtin.List.listFitsIndex
    rw [Bool.and_eq_true, decide_eq_true_eq, decide_eq_true_eq]; omega
  have hjn : ¬ j < 0 := by omega
  have hmn : min j.toNat vs.size = j.toNat := by omega
  refine call_meets PySem.F.slot_list_insert ⟨_, o1, rfl⟩ PySem.F.entry_list_insert (PySem.F.args_list_insert_3 _ _ _) (PySem.AutoSeq1.list_insert_list_int_val_1 a vs n j t v (by simp [hf]) (by rw [sizeLine_eq]; omega)) ⟨o1, ?_⟩
  let f0 : Array Value → Array Value := fun xs => have k := if j < 0 then (j + (xs.size : Int)).toNat else min j.toNat xs.size; (xs.extract 0 k).push v ++ xs.extract k
  have hs' : Heap.SameBut a s₃.heap (s₃.heap.update a (Obj.mapSeq f0)) := Heap.SameBut.update ..
  obtain ⟨n', hev⟩ := mapSeq_at f0 vs n
  have e' : (s₃.heap.update a (Obj.mapSeq f0)).get? a = some { cls := .type "list", data := .seq (f0 vs) n' } := by
    rw [Heap.get?_update_self _ o1 (by rw [hev]; rfl), hev]
  have hfv : f0 vs = (vs.extract 0 j.toNat).push v ++ vs.extract j.toNat := by
    show (vs.extract 0 (if j < 0 then (j + (vs.size : Int)).toNat else min j.toNat vs.size)).push v ++ vs.extract (if j < 0 then (j + (vs.size : Int)).toNat else min j.toNat vs.size) = _
    rw [if_neg hjn, hmn]
  rw [hfv] at e'
  refine k _ (H₃.mut1 (t := s₃.toks) hs' (Nat.le_refl _) ⟨_, e', _, _, rfl, ?_⟩)
  have hA := o3.stab (mutS H₃ hs')
  have hv' := p.stab (mutS H₃ hs') hv
  have et : ((vs.extract 0 j.toNat).push v ++ vs.extract j.toNat).toList = ins vs.toList j.toNat v := by
    unfold ins
    simp [List.take_of_length_le, Array.toList_extract]
  rw [et]
  exact (hA.take _).append (.cons hv' (hA.drop _))

/-- x += e, an own list -/
theorem ex_extendF (H : Fs F hK S₀ ρ ((a, OLst ps) :: ω) s) (R : Room F.k A) (hx : (x, TRef a) ∈ ρ) (he : Ev (F.cx S₀ ρ ((a, OLst ps) :: ω)) e (TLst qs)) (hz : ps.length + qs.length ≤ 10000) (hst : StoreOk F.env x)
    (k : ∀ s', Fs F hK S₀ ((x, TRef a) :: drp x ρ) ((a, OLst (ps ++ qs)) :: ω) s' → wpAny (MM F.w) A (execs rest F.env) Q NoE s') :
    wpAny (MM F.w) A (execs (.AugAssign (.Name x px) .Add e pos :: rest) F.env) Q NoE s := by
  obtain ⟨v, hv, hp⟩ := H.vars _ hx
  cases hp
  refine wpAny_execs_cons (wpAny_AugAssign_Name (loads H.kind hv (wpAny_mono (he.go A s R H.xs) (fun u s₂ ⟨k₂, b⟩ => ?_) fun _ _ x => x)))
  have H₂ := H.step k₂
  obtain ⟨vs, ⟨n, o1⟩, o3⟩ := H₂.own1
  obtain ⟨l, us, rfl, hl, _, hB⟩ := lst_at b
  have e1 := o3.length
  have e2 := hB.length
  rw [Array.length_toList] at e1 e2
  obtain ⟨⟨cls2, dd2, data2, sl2⟩, ho2, hc2, n2, hd2⟩ := id hl
  simp only at hc2 hd2
  subst hc2 hd2
  have hs' : Heap.SameBut a s₂.heap (s₂.heap.update a (Obj.mapSeq fun x => x ++ us)) := Heap.SameBut.update ..
  obtain ⟨n', hev⟩ := mapSeq_at (fun x => x ++ us) vs n
  have e' : (s₂.heap.update a (Obj.mapSeq fun x => x ++ us)).get? a = some { cls := .type "list", data := .seq (vs ++ us) n' } := by
    rw [Heap.get?_update_self _ o1 (by rw [hev]; rfl), hev]
  refine wp_iadd ⟨_, o1, rfl⟩ ⟨_, ho2, rfl⟩ (call_meets PySem.F.slot_list_iadd ⟨_, o1, rfl⟩ PySem.F.entry_list_iadd (PySem.F.args_list_iadd_2 _ _) (iadd_lists a vs n l us n2 dd2 sl2 ?_ (by rw [sizeLine_eq]; omega) (by rw [sizeLine_eq]; omega)) ⟨o1, ho2, ?_⟩)
  · unfold Builtin.List.listTooLong
    rw [sizeLine_eq]
    simp only [Bool.and_eq_true, decide_eq_true_eq, not_and]
    intro _; omega
  have H₃ := H₂.mut1 (O' := OLst (ps ++ qs)) (t := s₂.toks) hs' (Nat.le_refl _) ⟨_, e', _, _, rfl, by
    rw [Array.toList_append]
    exact (o3.append hB).stab (mutS H₂ hs')⟩
  exact H₃.store hst (p := TRef a) rfl fun s'' H'' => k s'' H''
end
end Mine
namespace Mine

/-! ### the order of strs -/
def sle (x y : Str) : Bool := !slt y x
theorem sle_iff {x y : Str} : sle x y = true ↔ x.cps.toList ≤ y.cps.toList := by
  unfold sle slt
  rw [Bool.not_eq_true', decide_eq_false_iff_not]
  exact Iff.rfl
theorem str_ext {x y : Str} (h : x.cps.toList = y.cps.toList) : x = y := by
  obtain ⟨a⟩ := x
  obtain ⟨b⟩ := y
  simp only at h
  rw [Array.toList_inj.mp h]
theorem sle_trans (x y z : Str) (h1 : sle x y = true) (h2 : sle y z = true) : sle x z = true := sle_iff.2 (List.le_trans (sle_iff.1 h1) (sle_iff.1 h2))
theorem sle_total (x y : Str) : (sle x y || sle y x) = true := by
  rw [Bool.or_eq_true, sle_iff, sle_iff]; exact List.le_total ..
theorem sle_antisymm {x y : Str} (h1 : sle x y = true) (h2 : sle y x = true) : x = y := str_ext (List.le_antisymm (sle_iff.1 h1) (sle_iff.1 h2))
def sortS (xs : List Str) : List Str := xs.mergeSort sle
theorem sortS_perm (xs : List Str) : (sortS xs).Perm xs := List.mergeSort_perm ..
theorem sortS_sorted (xs : List Str) : (sortS xs).Pairwise (fun a b => sle a b = true) := List.pairwise_mergeSort sle_trans sle_total xs
theorem sorted_unique {xs ys : List Str} (h1 : xs.Pairwise (fun a b => sle a b = true)) (h2 : ys.Pairwise (fun a b => sle a b = true)) (hp : xs.Perm ys) : xs = ys :=
  List.Perm.eq_of_pairwise (fun _ _ _ _ => sle_antisymm) h1 h2 hp
theorem sortS_congr {xs ys : List Str} (h : xs.Perm ys) : sortS xs = sortS ys := sorted_unique (sortS_sorted xs) (sortS_sorted ys) ((sortS_perm xs).trans (h.trans (sortS_perm ys).symm))
theorem rising_pairwise : ∀ (p : Str) (l : List Str), risingS p l = true → (p :: l).Pairwise (fun a b => sle a b = true)
  | p, [], _ => by simp
  | p, x :: r, h => by
    have h' := h
    unfold risingS at h'
    rw [Bool.and_eq_true] at h'
    have ih := rising_pairwise x r h'.2
    have hpx : sle p x = true := by
      have := h'.1
      rw [ltCps_eq] at this
      exact this
    refine List.pairwise_cons.mpr ⟨fun y hy => ?_, ih⟩
    rcases List.mem_cons.mp hy with rfl | hy
    · exact hpx
    · exact sle_trans _ _ _ hpx (List.rel_of_pairwise_cons ih hy)
theorem sorted_pairwise : ∀ (l : List Str), sortedS l = true → l.Pairwise (fun a b => sle a b = true)
  | [], _ => .nil
  | x :: r, h => rising_pairwise x r h

theorem strsAre {h : Heap} : ∀ {vs : List Value} {xs : List Str}, AllH h vs (xs.map TStr) → StrsAre vs xs
  | [], [], _ => .nil
  | _ :: _, [], x => nomatch x
  | [], _ :: _, x => nomatch x
  | v :: vs, x :: xs, .cons ⟨t, e⟩ r => by subst e; exact .cons x t (strsAre r)
theorem allH_strs {h : Heap} : ∀ {vs : List Value} {xs : List Str}, StrsAre vs xs → AllH h vs (xs.map TStr)
  | _, _, .nil => .nil
  | _, _, .cons y t r => .cons ⟨t, rfl⟩ (allH_strs r)

section
variable {C : Cx} {w : World} {k : Nat} {A : Around} {E : Value → Shared → Prop} {s : Shared}
theorem b_sorted {xs : List Str} (hz : xs.length < 64) : Fn w k (.builtin "sorted") [TStrs xs] (TStrs (sortS xs)) := .mk fun A s vs S R hb ht hl ha => by
  obtain ⟨v, rfl, hv⟩ := ha.one
  obtain ⟨a, vs, rfl, hls, _, hA⟩ := lst_at hv
  have hS := strsAre hA
  have hlen : vs.toList.length < 64 := by rw [hA.length, List.length_map]; exact hz
  refine sorted_strs (vs := vs.toList) (by rwa [Array.toArray_toList]) hS hlen fun out ss' h1 h2 h3 => ?_
  obtain rfl : ss' = sortS xs := sorted_unique (sorted_pairwise _ h3) (sortS_sorted xs) (h2.trans (sortS_perm xs).symm)
  have sub : Sub s.heap (sortedAll s.heap vs.toList out) := fun b o e => sortedAll_old e
  obtain ⟨e, he⟩ := sortedAll_at s.heap vs.toList out
  refine ⟨Kp.mk' sub, _, out, rfl, ⟨_, (hide_get ..).2 ⟨he, fun hm => ?_⟩, rfl, _, rfl⟩, allH_strs h1⟩
  obtain ⟨o, e⟩ := hl _ hm
  exact absurd (Heap.lt_size e) (Nat.not_lt.mpr (Nat.le_succ _))
theorem b_len {ps : List FP} (hz : ps.length ≤ 100000) : Fn w k (.builtin "len") [TLst ps] (TInt ps.length) := .mk fun A s vs S R hb ht hl ha => by
  obtain ⟨v, rfl, hv⟩ := ha.one
  obtain ⟨a, vs, rfl, hls, _, hA⟩ := lst_at hv
  have hlen := hA.length
  rw [Array.length_toList] at hlen
  rw [← hlen]
  exact len_list hls (by omega) ⟨Kp.toks (Nat.le_add_right _ 2), _, rfl⟩
theorem b_min {a b : Int} : Fn w k (.builtin "min") [TInt a, TInt b] (TInt (if b < a then b else a)) := .mk fun A s vs S R hb ht hl ha => by
  obtain ⟨v, u, rfl, ⟨t, rfl⟩, ⟨t', rfl⟩⟩ := ha.two
  refine upK (min_two_ints R.han fun h' tk hk => ⟨⟨h', tk, rfl, hk⟩, ?_⟩)
  split <;> exact ⟨_, rfl⟩
theorem b_divmod {a b : Int} (hb : b ≠ 0) (hp : Builtin.divisionGoesByPylong a b = false) : Fn w k (.builtin "divmod") [TInt a, TInt b] (TTup [TInt (a.fdiv b), TInt (a.fmod b)]) := .mk fun A s vs S R hb' ht hl ha => by
  obtain ⟨v, u, rfl, ⟨t, rfl⟩, ⟨t', rfl⟩⟩ := ha.two
  refine divmod_int hb ⟨Kp.mk' (push_sub _ _) (Nat.le_add_right _ 2), _, #[.int (a.fdiv b) s.toks, .int (a.fmod b) (s.toks + 1)], rfl, ⟨_, hide_push hl rfl, rfl, _, rfl⟩, .cons ⟨_, rfl⟩ (.cons ⟨_, rfl⟩ .nil)⟩ (.inl hp)
end

section
variable {F : Fx} {hK : Heap} {S₀ : List Addr} {ρ ρ' : List (Str × FP)} {ω ω' : List (Addr × OP)} {s s' : Shared} {A : Around} {Q : Flow → Shared → Prop} {p q r : FP} {e i : Expr} {pos apos epos lpos np px py tpos : Pos} {rest body : List Stmt} {a : Addr} {x y : Str} {O O' : OP} {ps qs : List FP}

theorem AllH.set {h : Heap} {p : FP} {v : Value} : ∀ {vs ps} (i : Nat), AllH h vs ps → p.holds h v → AllH h (vs.set i v) (ps.set i p)
  | _, _, i, .nil, _ => by simp; exact .nil
  | _, _, 0, .cons _ b, y => .cons y b
  | _, _, i + 1, .cons a b, y => .cons a (b.set i y)
theorem ext_fresh {h h' : Heap} (x : Heap.ExtBut h.objs.size h h') : Sub h h' := fun b o e => x b o (Nat.ne_of_lt (Heap.lt_size e)) e

/-- x, y = e -/
theorem ex_assign2F {k : Nat} (H : Fs F hK S₀ ρ ω s) (R : Room F.k A) (h : Ev (F.cx S₀ ρ ω) e (TLst [p, q]) ∨ Ev (F.cx S₀ ρ ω) e (TTup [p, q])) (hx : StoreOk F.env x) (hy : StoreOk F.env y)
    (kk : ∀ s', Fs F hK S₀ ((y, q) :: drp y ((x, p) :: drp x ρ)) ω s' → wpAny (MM F.w) A (execs rest F.env) Q NoE s')
    (hs : swapsWithSole [.Tuple [.Name x px, .Name y py] k tpos] e pos.line F.env = pure false := by rfl)
    (hw : swappedStores [.Tuple [.Name x px, .Name y py] k tpos] e F.env = pure none := by rfl) :
    wpAny (MM F.w) A (execs (.Assign [.Tuple [.Name x px, .Name y py] k tpos] e pos :: rest) F.env) Q NoE s := by
  refine wpAny_execs_cons (Assign_Tuple ?_ hs hw)
  have fin : ∀ (s₁ : Shared) (v u : Value), Fs F hK S₀ ρ ω s₁ → p.holds (hideAll s₁.heap (F.S S₀ ω)) v → q.holds (hideAll s₁.heap (F.S S₀ ω)) u → ∀ h', Heap.ExtBut s₁.heap.objs.size s₁.heap h' →
      wpAny (MM F.w) A (assignInOrder ((assignEach [.Name x px, .Name y py] F.env).map (·.2)) [v, u]) (fun _ s' => wpAny (MM F.w) A (execs rest F.env) Q NoE s') NoE { s₁ with heap := h' } := fun s₁ v u H₁ hv hu h' he => by
    have H₂ := H₁.step (Kp.mk' (t := s₁.toks) (ext_fresh he))
    have sub := hide_mono (S := F.S S₀ ω) (ext_fresh he)
    refine assignInOrder_cons (assign_Name (H₂.rebase.store hx (p.stab sub hv) fun s₃ H₃ => ?_))
    have sub3 : Sub (hideAll h' (F.S S₀ ω)) (hideAll s₃.heap (F.S S₀ ω)) := hide_sub (fun b o hb e => H₃.keep b o ((hide_get ..).2 ⟨e, fun hm => hb (by
      unfold Fx.S
      rcases List.mem_append.mp hm with h | h
      · exact List.mem_append_left _ h
      · exact List.mem_append_right _ (List.mem_append_left _ h))⟩)) fun a ha hn => absurd ha hn
    refine assignInOrder_cons (assign_Name ((H₂.unbase (hK' := hK) rfl H₃).store hy (q.stab sub3 (q.stab sub hu)) fun s₄ H₄ => ?_))
    exact assignInOrder_nil (kk s₄ H₄)
  rcases h with h | h
  · refine H.ev R h fun v s₁ H₁ hv => ?_
    obtain ⟨l, vs, rfl, hl, _, hA⟩ := lst_at hv
    obtain ⟨v, u, e, h1, h2⟩ := hA.two
    rw [assign_Tuple]
    refine wpAny_bind (wpAny_standAt ?_)
    unfold unpack
    have hsz : vs.size = 2 := by rw [← Array.length_toList, e]; rfl
    refine wpAny_bind (wpAny_holding ?_)
    show wpAny _ A (unpackItems (.ref l) 2 none) _ _ _
    rw [← hsz]
    exact kun_itemsOf R.han hl fun h' he => by rw [e]; exact fin s₁ v u H₁ h1 h2 h' he
  · refine H.ev R h fun v s₁ H₁ hv => ?_
    obtain ⟨l, vs, rfl, hl, _, hA⟩ := tup_at hv
    obtain ⟨v, u, e, h1, h2⟩ := hA.two
    have hsz : vs.size = 2 := by rw [← Array.length_toList, e]; rfl
    exact assign_Tuple_tuple R.han hl hsz.symm rfl fun h' he => by rw [e]; exact fin s₁ v u H₁ h1 h2 h' he

/-- x[i] += e, an own list -/
theorem ex_setaugF {j : Int} {k' : Nat} (H : Fs F hK S₀ ρ ((a, OLst ps) :: ω) s) (R : Room F.k A) (hx : (x, TRef a) ∈ ρ) (hi : Ev (F.cx S₀ ρ ((a, OLst ps) :: ω)) i (TInt j)) (he : Ev (F.cx S₀ ρ ((a, OLst ps) :: ω)) e q) (h0 : 0 ≤ j) (hj : j.toNat < ps.length) (hz : ps.length ≤ 10000) (hp : ps[j.toNat]? = some p)
    (hop : Op2 (F.cx S₀ ρ ((a, OLst ps) :: ω)) (inplaceOp .Add) p q r)
    (k : ∀ s', Fs F hK S₀ ρ ((a, OLst (ps.set j.toNat r)) :: ω) s' → wpAny (MM F.w) A (execs rest F.env) Q NoE s')
    (hd : (x == ("__debug__" : Str)) = false := by decide)
    (ha : ∀ ov iv new, augStore i ov iv new = (do holding [new, ov, iv] (setItem ov iv new); release [new, ov, iv] []; pure .next) := by intro _ _ _; rfl) :
    wpAny (MM F.w) A (execs (.AugAssign (.Subscript (.Name x np) i lpos) .Add e pos :: rest) F.env) Q NoE s := by
  refine wpAny_execs_cons (wpAny_AugAssign_Subscript_any ?_ ha)
  refine H.ev R (Ev.var (C := F.cx S₀ ρ ((a, OLst ps) :: ω)) hx hd) fun ov s₁ H₁ hov => ?_
  cases hov
  refine H₁.ev R hi fun iv s₂ H₂ hiv => ?_
  obtain ⟨t, rfl⟩ := hiv
  have jb : j < 2 ^ 63 := by omega
  refine wpAny_mono ((Op2.own_item (.head _) h0 jb hp).go A s₂ _ _ R H₂.xs rfl ⟨t, rfl⟩) (fun old s₃ ⟨k₃, hold⟩ => ?_) fun _ _ x => x
  have H₃ := H₂.step k₃
  refine wpAny_mono (he.go A s₃ R H₃.xs) (fun v s₄ ⟨k₄, hv⟩ => ?_) fun _ _ x => x
  have H₄ := H₃.step k₄
  refine wpAny_mono (hop.go A s₄ old v R H₄.xs (p.stab (hide_mono (keeps_sub k₄)) hold) hv) (fun new s₅ ⟨k₅, hnew⟩ => ?_) fun _ _ x => x
  have H₅ := H₄.step k₅
  obtain ⟨vs, ⟨n, o1⟩, o3⟩ := H₅.own1
  have hl := o3.length
  rw [Array.length_toList] at hl
  obtain ⟨n', hev⟩ := mapSeq_at (·.setIfInBounds j.toNat new) vs n
  have hs' : Heap.SameBut a s₅.heap (s₅.heap.update a (Obj.mapSeq (·.setIfInBounds j.toNat new))) := Heap.SameBut.update ..
  refine ki_setAt o1 h0 (by omega) (by omega) ?_
  refine k _ (H₅.mut1 (t := s₅.toks) hs' (Nat.le_refl _) ⟨_, by rw [Heap.get?_update_self _ o1 (by rw [hev]; rfl), hev], _, _, rfl, ?_⟩)
  rw [Array.toList_setIfInBounds]
  exact (o3.stab (mutS H₅ hs')).set _ (r.stab (mutS H₅ hs') hnew)
end
end Mine
namespace Mine

section
variable {w : World} {k : Nat} {s₀ : Shared} {env : Env} {Sc : List Addr} {hK : Heap} {S₀ : List Addr} {ρ ρ' : List (Str × FP)} {ω ω' : List (Addr × OP)} {s s' : Shared} {A : Around} {Q : Flow → Shared → Prop} {p q r : FP} {e i : Expr} {pos apos epos lpos np px py tpos : Pos} {rest body : List Stmt} {a : Addr} {x y : Str} {O O' : OP} {ps qs : List FP}
theorem ex_own {es : List Expr} (H : Fs ⟨w, k, s₀, env, Sc⟩ hK S₀ ρ ω s) (R : Room k A) (h : EvL (Fx.cx ⟨w, k, s₀, env, Sc⟩ S₀ ρ ω) lpos es ps) (hz : ps.length ≤ 1000) (hx : StoreOk env x)
    (kk : ∀ a s', Fs ⟨w, k, s₀, env, Sc⟩ hK S₀ ((x, TRef a) :: drp x ρ) ((a, OLst ps) :: ω) s' → Run w A (execs rest env) Q s')
    (hs : swapsWith (.List es lpos) (some (.Name x px)) pos.line env = pure false := by rfl) : Run w A (execs (.Assign [.Name x px] (.List es lpos) pos :: rest) env) Q s :=
  ⟨ex_ownF H R h hz hx (fun a s' H' => (kk a s' H').go) hs⟩
theorem ex_append (H : Fs ⟨w, k, s₀, env, Sc⟩ hK S₀ ρ ((a, OLst ps) :: ω) s) (R : Room k A) (hx : (x, TRef a) ∈ ρ) (he : Ev (Fx.cx ⟨w, k, s₀, env, Sc⟩ S₀ ρ ((a, OLst ps) :: ω)) e p) (hz : ps.length ≤ 10000)
    (kk : ∀ s', Fs ⟨w, k, s₀, env, Sc⟩ hK S₀ ρ ((a, OLst (ps ++ [p])) :: ω) s' → Run w A (execs rest env) Q s')
    (hi : interactive env = false := by rfl) (hs : swapsWith (.Call (.Attribute (.Name x np) "append" apos) [e] [] pos) none epos.line env = pure false := by rfl) (hd : (x == ("__debug__" : Str)) = false := by decide)
    (hline : (apos.endLine == pos.line) = true := by rfl) (hbase : ∀ env, attributeBase (.Name x np) "append" env (eval (.Name x np) env) = eval (.Name x np) env := by intro _; rfl)
    (he1 : ∀ env, starEach [e] env = (false, eval e env) :: starEach [] env := by intro _; rfl)
    (hfew : ((backTo pos (starEach [e] env)).all (fun x => !x.1) && (backToKw pos (keywordEach [] env)).all (fun x => x.1.isSome)
      && decide ([e].length + ([] : List Keyword).length + (if ([] : List Keyword).isEmpty then 0 else 1) < 30)) = true := by rfl) :
    Run w A (execs (.Expr (.Call (.Attribute (.Name x np) "append" apos) [e] [] pos) epos :: rest) env) Q s := ⟨ex_appendF H R hx he hz (fun s' H' => (kk s' H').go) hi hs hd hline hbase he1 hfew⟩
theorem ex_insert {j : Int} (H : Fs ⟨w, k, s₀, env, Sc⟩ hK S₀ ρ ((a, OLst ps) :: ω) s) (R : Room k A) (hx : (x, TRef a) ∈ ρ) (hi' : Ev (Fx.cx ⟨w, k, s₀, env, Sc⟩ S₀ ρ ((a, OLst ps) :: ω)) i (TInt j)) (he : Ev (Fx.cx ⟨w, k, s₀, env, Sc⟩ S₀ ρ ((a, OLst ps) :: ω)) e p) (hz : ps.length ≤ 10000) (h0 : 0 ≤ j) (hj : j ≤ ps.length)
    (kk : ∀ s', Fs ⟨w, k, s₀, env, Sc⟩ hK S₀ ρ ((a, OLst (ins ps j.toNat p)) :: ω) s' → Run w A (execs rest env) Q s')
    (hi : interactive env = false := by rfl) (hs : swapsWith (.Call (.Attribute (.Name x np) "insert" apos) [i, e] [] pos) none epos.line env = pure false := by rfl) (hd : (x == ("__debug__" : Str)) = false := by decide)
    (hline : (apos.endLine == pos.line) = true := by rfl) (hbase : ∀ env, attributeBase (.Name x np) "insert" env (eval (.Name x np) env) = eval (.Name x np) env := by intro _; rfl)
    (he1 : ∀ env, starEach [i, e] env = (false, eval i env) :: (false, eval e env) :: starEach [] env := by intro _; rfl)
    (hfew : ((backTo pos (starEach [i, e] env)).all (fun x => !x.1) && (backToKw pos (keywordEach [] env)).all (fun x => x.1.isSome)
      && decide ([i, e].length + ([] : List Keyword).length + (if ([] : List Keyword).isEmpty then 0 else 1) < 30)) = true := by rfl) :
    Run w A (execs (.Expr (.Call (.Attribute (.Name x np) "insert" apos) [i, e] [] pos) epos :: rest) env) Q s := ⟨ex_insertF H R hx hi' he hz h0 hj (fun s' H' => (kk s' H').go) hi hs hd hline hbase he1 hfew⟩
theorem ex_extend (H : Fs ⟨w, k, s₀, env, Sc⟩ hK S₀ ρ ((a, OLst ps) :: ω) s) (R : Room k A) (hx : (x, TRef a) ∈ ρ) (he : Ev (Fx.cx ⟨w, k, s₀, env, Sc⟩ S₀ ρ ((a, OLst ps) :: ω)) e (TLst qs)) (hz : ps.length + qs.length ≤ 10000) (hst : StoreOk env x)
    (kk : ∀ s', Fs ⟨w, k, s₀, env, Sc⟩ hK S₀ ((x, TRef a) :: drp x ρ) ((a, OLst (ps ++ qs)) :: ω) s' → Run w A (execs rest env) Q s') :
    Run w A (execs (.AugAssign (.Name x px) .Add e pos :: rest) env) Q s := ⟨ex_extendF H R hx he hz hst (fun s' H' => (kk s' H').go)⟩
theorem ex_assign2 {n : Nat} (H : Fs ⟨w, k, s₀, env, Sc⟩ hK S₀ ρ ω s) (R : Room k A) (h : Ev (Fx.cx ⟨w, k, s₀, env, Sc⟩ S₀ ρ ω) e (TLst [p, q]) ∨ Ev (Fx.cx ⟨w, k, s₀, env, Sc⟩ S₀ ρ ω) e (TTup [p, q])) (hx : StoreOk env x) (hy : StoreOk env y)
    (kk : ∀ s', Fs ⟨w, k, s₀, env, Sc⟩ hK S₀ ((y, q) :: drp y ((x, p) :: drp x ρ)) ω s' → Run w A (execs rest env) Q s')
    (hs : swapsWithSole [.Tuple [.Name x px, .Name y py] n tpos] e pos.line env = pure false := by rfl)
    (hw : swappedStores [.Tuple [.Name x px, .Name y py] n tpos] e env = pure none := by rfl) :
    Run w A (execs (.Assign [.Tuple [.Name x px, .Name y py] n tpos] e pos :: rest) env) Q s := ⟨ex_assign2F H R h hx hy (fun s' H' => (kk s' H').go) hs hw⟩
theorem ex_setaug {j : Int} (H : Fs ⟨w, k, s₀, env, Sc⟩ hK S₀ ρ ((a, OLst ps) :: ω) s) (R : Room k A) (hx : (x, TRef a) ∈ ρ) (hi : Ev (Fx.cx ⟨w, k, s₀, env, Sc⟩ S₀ ρ ((a, OLst ps) :: ω)) i (TInt j)) (he : Ev (Fx.cx ⟨w, k, s₀, env, Sc⟩ S₀ ρ ((a, OLst ps) :: ω)) e q) (h0 : 0 ≤ j) (hj : j.toNat < ps.length) (hz : ps.length ≤ 10000) (hp : ps[j.toNat]? = some p)
    (hop : Op2 (Fx.cx ⟨w, k, s₀, env, Sc⟩ S₀ ρ ((a, OLst ps) :: ω)) (inplaceOp .Add) p q r)
    (kk : ∀ s', Fs ⟨w, k, s₀, env, Sc⟩ hK S₀ ρ ((a, OLst (ps.set j.toNat r)) :: ω) s' → Run w A (execs rest env) Q s')
    (hd : (x == ("__debug__" : Str)) = false := by decide)
    (ha : ∀ ov iv new, augStore i ov iv new = (do holding [new, ov, iv] (setItem ov iv new); release [new, ov, iv] []; pure .next) := by intro _ _ _; rfl) :
    Run w A (execs (.AugAssign (.Subscript (.Name x np) i lpos) .Add e pos :: rest) env) Q s := ⟨ex_setaugF (k' := 0) H R hx hi he h0 hj hz hp hop (fun s' H' => (kk s' H').go) hd ha⟩
end

/-! ### _law_due -/
def lo (x y : Str) : Str := if sle x y = true then x else y
def hi (x y : Str) : Str := if sle x y = true then y else x
theorem sle_of_not {x y : Str} (h : sle x y ≠ true) : sle y x = true := by
  have := sle_total x y
  rw [Bool.or_eq_true] at this
  exact this.resolve_left h
theorem sort_two (x y : Str) : sortS [x, y] = [lo x y, hi x y] := by
  refine sorted_unique (sortS_sorted _) ?_ ((sortS_perm _).trans ?_)
  · unfold lo hi
    by_cases h : sle x y = true
    · rw [if_pos h, if_pos h]; simp [h]
    · rw [if_neg h, if_neg h]; simp [sle_of_not h]
  · unfold lo hi
    by_cases h : sle x y = true
    · rw [if_pos h, if_pos h]
    · rw [if_neg h, if_neg h]; exact List.Perm.swap ..
def inside (x y n : Str) : Bool := sle (lo x y) n && sle n (hi x y)
def betw (row : List Str) (x y : Str) : List Str := row.filter (inside x y)
def dueOne (row : List Str) (x y : Str) : Bool := (betw row x y).headD default == y
def slash : Str := Str.ofString "/"
def dueFold (row : List Str) (x : Str) (p : Str) (y : Str) : Str := if dueOne row x y = true then p ++ (slash ++ y) else p
theorem dueFold_t {row : List Str} {x p y : Str} (h : dueOne row x y = true) : dueFold row x p y = p ++ (slash ++ y) := if_pos h
theorem dueFold_f {row : List Str} {x p y : Str} (h : dueOne row x y = false) : dueFold row x p y = p := if_neg (by rw [h]; decide)
def duePath (row : List Str) (x : Str) : Str := row.foldl (dueFold row x) (Str.ofString "")
def due (row : List Str) : List Str := sortS (row.map (duePath row))

theorem inside_right (x y : Str) : inside x y y = true := by
  unfold inside lo hi
  have hr : ∀ z, sle z z = true := fun z => by have := sle_total z z; rwa [Bool.or_self] at this
  by_cases h : sle x y = true
  · rw [if_pos h, if_pos h, h, hr]; rfl
  · rw [if_neg h, if_neg h, hr, sle_of_not h]; rfl
theorem betw_head {row : List Str} {x y : Str} (h : y ∈ row) : ((betw row x y).map TStr)[((0 : Int)).toNat]? = some (TStr ((betw row x y).headD default)) := by
  have : betw row x y ≠ [] := List.ne_nil_of_mem (List.mem_filter.mpr ⟨h, inside_right x y⟩)
  cases e : betw row x y with
  | nil => exact absurd e this
  | cons a l => rfl
theorem getD_mem {row : List Str} {i : Nat} (h : i < row.length) : row.getD i default ∈ row := by
  rw [List.getD_eq_getElem?_getD, List.getElem?_eq_getElem h]; exact List.getElem_mem h
theorem foldl_take {α β : Type} (f : β → α → β) (b : β) (l : List α) (i : Nat) (d : α) (h : i < l.length) : (l.take (i + 1)).foldl f b = f ((l.take i).foldl f b) (l.getD i d) := by
  rw [List.take_add_one, List.foldl_append, List.getD_eq_getElem?_getD, List.getElem?_eq_getElem h]; rfl
theorem map_take {α β : Type} (f : α → β) (l : List α) (i : Nat) (d : α) (h : i < l.length) : (l.take (i + 1)).map f = (l.take i).map f ++ [f (l.getD i d)] := by
  rw [List.take_add_one, List.map_append, List.getD_eq_getElem?_getD, List.getElem?_eq_getElem h]; rfl
def Short (row : List Str) : Prop := row.length ≤ 6 ∧ ∀ x ∈ row, x.length ≤ 100
theorem fold_len {row : List Str} {x : Str} (h : ∀ y ∈ row, y.length ≤ 100) : ∀ (l : List Str), (∀ y ∈ l, y ∈ row) → ∀ p : Str, (l.foldl (dueFold row x) p).length ≤ p.length + 101 * l.length
  | [], _, p => by simp
  | y :: l, hl, p => by
    have ih := fold_len (x := x) h l (fun z hz => hl z (.tail _ hz)) (dueFold row x p y)
    have hy := h y (hl y (.head _))
    have : (dueFold row x p y).length ≤ p.length + 101 := by
      unfold dueFold
      split
      · rw [Str.length_append, Str.length_append]
        have : slash.length = 1 := by decide
        omega
      · omega
    rw [List.foldl_cons, List.length_cons]
    omega

theorem def_198 (w : World) : DefAt w 198 (fdAt 198) (bodyAt 198) := ⟨⟨_, _, _, rfl⟩, by rfl, rfl, rfl, rfl, rfl, rfl, rfl, rfl, by decide⟩
theorem n_sorted (w : World) : nsIn (KK w) mainGlobals (Str.ofString "sorted") = some none := by rfl
theorem bb_sorted : bootBuiltins (Str.ofString "sorted") = some (.builtin "sorted") := by kernel_rfl

theorem fn_due (w : World) (k : Nat) (row : List Str) (hz : Short row) : Fn w (k + 1) (.ref 198) [TStrs row] (TStrs (due row)) := by
  refine Fn.enter (names := [Str.ofString "row"]) (def_198 w) rfl (by decide) (by decide) (fun vs hv => ?_) fun A L S s₀ s R H => ?_
  · obtain ⟨a, rfl⟩ := args1 hv; rfl
  o_facts H
  refine ex_own (ps := []) H R EvL.nil (by decide) (storeOk_of (by decide)) fun a s₁ H₁ => ?_
  o_facts H₁
  refine ex_for (D := Unit) (q := fun i => TStr (row.getD i default)) (n := row.length) (fun i _ => True) (fun i _ => [(Str.ofString "paths", TRef a), (Str.ofString "row", TStrs row)]) (fun i _ => [(a, OLst (((row.take i).map (duePath row)).map TStr))]) (fun _ => False) (fun _ => []) (fun _ => [(a, OLst [])]) ()
    H₁ R trivial (Src.strs (Ev.var (by walk_at "mem"))) (storeOk_of (by decide)) (fun _ _ => rfl) (fun _ => rfl) (fun i d hK' S' s' hi _ H' => ?_) (fun d s' _ H' => ?_) (fun d s' h => h.elim)
  · o_facts H'
    refine ex_assign H' R Ev.cstr (storeOk_of (by decide)) fun s₂ H₂ => ?_
    o_facts H₂
    generalize hone : row.getD i default = one at H₂
    refine ex_for (D := Unit) (q := fun i => TStr (row.getD i default)) (n := row.length) (fun i _ => True) (fun j _ => [(Str.ofString "path", TStr ((row.take j).foldl (dueFold row one) (Str.ofString ""))), (Str.ofString "one", TStr one), (Str.ofString "paths", TRef a), (Str.ofString "row", TStrs row)]) (fun _ _ => [(a, OLst (((row.take i).map (duePath row)).map TStr))]) (fun _ => False) (fun _ => []) (fun _ => [(a, OLst [])]) ()
      H₂ R trivial (Src.strs (Ev.var (by walk_at "mem"))) (storeOk_of (by decide)) (fun _ _ => rfl) (fun _ => rfl) (fun j d hK' S' s' hj _ H₃ => ?_) (fun d s' _ H₃ => ?_) (fun d s' h => h.elim)
    · o_facts H₃
      generalize hoth : row.getD j default = oth at H₃
      have hmem : oth ∈ row := hoth ▸ getD_mem hj
      refine ex_assign2 (p := TStr (lo one oth)) (q := TStr (Mine.hi one oth)) H₃ R (.inl (Ev.eq (Ev.call (Ev.builtin rfl (n_sorted _) bb_sorted) (.inr (.inl ⟨_, rfl⟩)) (EvL.cons (Ev.list (EvL.cons (Ev.var (by walk_at "mem")) (EvL.cons (Ev.var (by walk_at "mem")) EvL.nil))) EvL.nil) (b_sorted (xs := [one, oth]) (show (2 : Nat) < 64 by decide))) (by unfold TStrs; rw [sort_two]; rfl))) (storeOk_of (by decide)) (storeOk_of (by decide)) fun s₄ H₄ => ?_
      o_facts H₄
      refine ex_if (b := dueOne row one oth) H₄ R (Tt.cmp (Ev.item (ps := (betw row one oth).map TStr) (Ev.eq (Ev.comp (n := row.length) (b := fun i => inside one oth (row.getD i default)) (q := fun i => TStr (row.getD i default)) (r := fun i => TStr (row.getD i default)) (ρ := [(Str.ofString "low", TStr (lo one oth)), (Str.ofString "high", TStr (Mine.hi one oth))])
        (Src.strs (Ev.var (by walk_at "mem"))) rfl (by decide) rfl (by decide) rfl (fun yp hyp => ?_) (by have := hz.1; omega) (fun i Cc S' hi => TtIfs.one (Tt.and (Tt.cmp (Ev.var (by walk_at "mem")) (Ev.var (by walk_at "mem")) Op2.le_str) fun _ => Tt.cmp (Ev.var (by walk_at "mem")) (Ev.var (by walk_at "mem")) Op2.le_str)) (fun i Cc S' hi _ => Ev.var (by walk_at "mem"))) ?_) Ev.cint (by decide) (by decide) (betw_head hmem)) (Ev.var (by walk_at "mem")) Op2.eq_str) fun s₅ H₅ => ?_
      · rcases List.mem_cons.mp hyp with rfl | hyp
        · exact ⟨by walk_at "mem", rfl, .inl rfl, rfl, rfl⟩
        · rw [List.mem_singleton] at hyp; subst hyp
          exact ⟨by walk_at "mem", rfl, .inl rfl, rfl, rfl⟩
      · unfold betw
        rw [range_filter default (inside one oth) TStr]
      · have e : (row.take (j + 1)).foldl (dueFold row one) (Str.ofString "") = dueFold row one ((row.take j).foldl (dueFold row one) (Str.ofString "")) oth := by rw [foldl_take _ _ _ _ default hj, hoth]
        cases hb : dueOne row one oth with
        | true =>
          have hlen := fold_len (x := one) hz.2 (row.take j) (fun y hy => List.mem_of_mem_take hy) (Str.ofString "")
          have h0 : (Str.ofString "").length = 0 := by decide
          have h1 : (Str.ofString "/").length = 1 := by decide
          have h2 := hz.2 oth hmem
          have h3 : (row.take j).length ≤ 6 := Nat.le_trans (List.length_take_le' ..) hz.1
          refine ex_aug H₅ R (by walk_at "mem") (Ev.bin Ev.cstr (Ev.var (by walk_at "mem")) (Op2.add_str (by omega))) (Op2.iadd_str (by rw [Str.length_append]; omega)) (storeOk_of (by decide)) fun s₆ H₆ => ?_
          o_facts H₆
          refine Run.nil (Run.nil ⟨(), trivial, ?_⟩)
          rw [e, dueFold_t hb]
          exact H₆.weak (by simp [slash])
        | false =>
          refine Run.nil (Run.nil ⟨(), trivial, ?_⟩)
          rw [e, dueFold_f hb]
          exact H₅.weak (by simp)
    · rw [List.take_length] at H₃
      refine ex_append H₃ R (by walk_at "mem") (Ev.var (by walk_at "mem")) (by rw [List.length_map, List.length_map, List.length_take]; have := hz.1; omega) fun s₄ H₄ => ?_
      refine Run.nil ⟨(), trivial, ?_⟩
      have e : ((row.take (i + 1)).map (duePath row)).map TStr = ((row.take i).map (duePath row)).map TStr ++ [TStr (row.foldl (dueFold row one) (Str.ofString ""))] := by
        rw [map_take _ _ _ default hi, List.map_append, hone]; rfl
      rw [e]
      exact H₄.weak (by simp)
  · rw [List.take_length] at H'
    have H₂ := H'.freeze (x := Str.ofString "paths") (by walk_at "mem")
    o_facts H₂
    refine ex_return (p := TStrs (due row)) H₂ R (Ev.call (Ev.builtin rfl (n_sorted _) bb_sorted) (.inr (.inl ⟨_, rfl⟩)) (EvL.cons (Ev.var (by walk_at "mem")) EvL.nil) (b_sorted (xs := row.map (duePath row)) (by rw [List.length_map]; have := hz.1; omega))) fun v s' H' hp => H'.ret hp
end Mine
namespace Mine
theorem n_enum (w : World) : nsIn (KK w) mainGlobals (Str.ofString "enumerate") = some none := by rfl
theorem bb_enum : bootBuiltins (Str.ofString "enumerate") = some (.type "enumerate") := by kernel_rfl
section
variable {F : Fx} {hK : Heap} {S₀ : List Addr} {ρ ρ' : List (Str × FP)} {ω ω' : List (Addr × OP)} {s s' : Shared} {A : Around} {Q : Flow → Shared → Prop}

/-- for x, y in enumerate(e) -/
theorem ex_forEF {D : Type} {ps : List FP} {q : Nat → FP} {x y : Str} {px py pos tpos np cpos : Pos} {tk : Nat} {e : Expr} {body rest : List Stmt} (Pd : Nat → D → Prop) (ρf : Nat → D → List (Str × FP)) (ωf : Nat → D → List (Addr × OP))
    (Pb : D → Prop) (ρb : D → List (Str × FP)) (ωb : D → List (Addr × OP)) (d₀ : D)
    (H : Fs F hK S₀ (ρf 0 d₀) (ωf 0 d₀) s) (R : Room F.k A) (hd : Pd 0 d₀) (hsrc : Ev (F.cx S₀ (ρf 0 d₀) (ωf 0 d₀)) e (TLst ps)) (hq : ∀ i p, ps[i]? = some p → p = q i) (hx : StoreOk F.env x) (hy : StoreOk F.env y)
    (hω : ∀ i d, (ωf i d).map (·.1) = (ωf 0 d₀).map (·.1)) (hωb : ∀ d, (ωb d).map (·.1) = (ωf 0 d₀).map (·.1))
    (turn : ∀ i d hK' S' s', i < ps.length → Pd i d → Fs F hK' S' ((y, q i) :: drp y ((x, TInt (i : Int)) :: drp x (ρf i d))) (ωf i d) s' →
      wpAny (MM F.w) A (execs body F.env) (fun f s'' => match f with
        | .next | .cont => ∃ d', Pd (i + 1) d' ∧ Fs F hK' S' (ρf (i + 1) d') (ωf (i + 1) d') s''
        | .brk => ∃ d', Pb d' ∧ Fs F hK' S' (ρb d') (ωb d') s''
        | .ret v => Q (.ret v) s'') NoE s')
    (fin : ∀ d s', Pd ps.length d → Fs F hK S₀ (ρf ps.length d) (ωf ps.length d) s' → wpAny (MM F.w) A (execs rest F.env) Q NoE s')
    (brk : ∀ d s', Pb d → Fs F hK S₀ (ρb d) (ωb d) s' → wpAny (MM F.w) A (execs rest F.env) Q NoE s')
    (hk : F.env.kindOf (Str.ofString "enumerate") = some .globalImplicit)
    (he : ∀ env, starEach [e] env = (false, eval e env) :: starEach [] env := by intro _; rfl)
    (hs : ∀ x, foldedSetIterable (.Call (.Name (Str.ofString "enumerate") np) [e] [] cpos) F.env x = pure x := by intro _; rfl) :
    wpAny (MM F.w) A (execs (.For (.Tuple [.Name x px, .Name y py] tk tpos) (.Call (.Name (Str.ofString "enumerate") np) [e] [] cpos) body [] pos :: rest) F.env) Q NoE s := by
  refine wpAny_execs_cons (wpAny_For ?_ hs)
  have hnm : Ev (F.cx S₀ (ρf 0 d₀) (ωf 0 d₀)) (.Name (Str.ofString "enumerate") np) (TVal (.type "enumerate")) := Ev.builtin hk (n_enum _) bb_enum
  refine Call_Name rfl ((hnm.go A s R H.xs).use fun fv s₁ k₁ hf => ?_)
  cases hf
  have H₁ := H.step k₁
  rw [he]
  refine PyProof.Rows.callWith_type rfl (evalArgs_plain (spliced_cons ((hsrc.go A s₁ R H₁.xs).use fun v s₂ k₂ hv => spliced_nil ?_)))
  obtain ⟨l, vs, rfl, hl, hlS, hA⟩ := lst_at hv
  have H₂' := H₁.step k₂
  have hlen := hA.length
  rw [Array.length_toList] at hlen
  refine call_enumerate_list hl fun h₃ hE hI hsz hk3 => ?_
  generalize hIt : s₂.heap.objs.size = It at hE hI hsz
  have hei : It + 1 ≠ It := Nat.succ_ne_self _
  have hle : l ≠ It + 1 := by obtain ⟨o, ho, _⟩ := hl; have := Heap.lt_size ho; rw [hIt] at this; exact Nat.ne_of_lt (Nat.lt_succ_of_lt this)
  have hli : l ≠ It := by obtain ⟨o, ho, _⟩ := hl; have := Heap.lt_size ho; rw [hIt] at this; exact Nat.ne_of_lt this
  have W := WalksT.enumerate (prog := PySem.Challenge.pw_rt0057_01) (w := F.w) R.han (It + 1) It l hei hle hli vs
  have k23 : Kp s₂ { s₂ with heap := h₃ } := Kp.mk' (t := s₂.toks) hk3
  have new1 : s₂.heap.get? (It + 1) = none := fresh_size _ _ (by rw [hIt]; exact Nat.le_succ _)
  have new2 : s₂.heap.get? It = none := fresh_size _ _ (by rw [hIt]; exact Nat.le_refl _)
  have hst : (∃ old, IsEnum h₃ (It + 1) It ((0 : Nat) : Int) old) ∧ h₃.IsListIter It l 0 ∧ h₃.IsList l vs := ⟨⟨_, hE⟩, hI, isList_stab hk3 hl⟩
  refine W.self 0 _ _ _ hst ?_
  let wr : List Addr := [It + 1, It]
  have hwr : ∀ b ∈ wr, s₂.heap.get? b = none := fun b hb => by
    simp only [wr, List.mem_cons, List.mem_nil_iff, or_false] at hb
    rcases hb with rfl | rfl
    · exact new1
    · exact new2
  have fresh0 : ∀ b ∈ wr, hK.get? b = none ∧ F.s₀.heap.get? b = none := fun b hb => by
    have h := hwr b hb
    constructor
    · cases e : hK.get? b with
      | none => rfl
      | some o => have := H₂'.keep b o e; rw [h] at this; cases this
    · cases e : F.s₀.heap.get? b with
      | none => rfl
      | some o => have := keeps_sub H₂'.same b o e; rw [h] at this; cases this
  have owS : ∀ b, b ∈ F.own ++ (ωf 0 d₀).map (·.1) → b ∈ F.S S₀ (ωf 0 d₀) := fun b hm => by
    unfold Fx.S
    rcases List.mem_append.mp hm with h | h
    · exact List.mem_append_left _ h
    · exact List.mem_append_right _ (List.mem_append_left _ h)
  have own : ∀ b ∈ wr, b ∉ F.own ++ (ωf 0 d₀).map (·.1) := fun b hb hm => by
    obtain ⟨o, e⟩ := H₂'.live b (owS b hm)
    rw [hwr b hb] at e; cases e
  have lown : l ∉ F.own ++ (ωf 0 d₀).map (·.1) := fun hm => hlS (owS l hm)
  have hSt : ∀ i h, ((∃ old, IsEnum h (It + 1) It ((i : Nat) : Int) old) ∧ h.IsListIter It l i ∧ h.IsList l vs) → ∀ b ∈ wr, ∃ o, h.get? b = some o := fun i h hh b hb => by
    simp only [wr, List.mem_cons, List.mem_nil_iff, or_false] at hb
    rcases hb with rfl | rfl
    · obtain ⟨⟨_, o⟩, _⟩ := hh; exact ⟨_, o⟩
    · obtain ⟨_, ⟨o, ho, _⟩, _⟩ := hh; exact ⟨o, ho⟩
  have frm : ∀ i (h h' : Heap), ((∃ old, IsEnum h (It + 1) It ((i : Nat) : Int) old) ∧ h.IsListIter It l i ∧ h.IsList l vs) → (∀ b, b = It + 1 ∨ b = It ∨ b = l → ∀ o, h.get? b = some o → h'.get? b = some o) → ((∃ old, IsEnum h' (It + 1) It ((i : Nat) : Int) old) ∧ h'.IsListIter It l i ∧ h'.IsList l vs) := fun i h h' hh hk =>
    W.frame i h h' hh fun b hb o e => hk b (by simpa using hb) o e
  have H₂ := H₂'.hideMore k23 (S₁ := wr) (fun b hb => hSt _ _ hst b hb) hwr
  have back : ∀ {s' : Shared} {ρ ω}, Fs F hK (wr ++ S₀) ρ ω s' → Fs F hK S₀ ρ ω s' := fun h => h.showMore (fun a ha => List.mem_append_right _ ha) H.sc
  have items : ∀ (s' : Shared), (∀ b o, b ∉ wr ++ (F.own ++ (ωf 0 d₀).map (·.1)) → s₂.heap.get? b = some o → s'.heap.get? b = some o) → ∀ i v, vs[i]? = some v → (q i).holds (hideAll s'.heap (F.S (wr ++ S₀) (ωf 0 d₀))) v := fun s' hk i v hv => by
    obtain ⟨p, hp', hh⟩ := hA.get' i (by simpa using hv)
    rw [← hq i p hp']
    refine p.stab (hide_sub (fun b o hb e => hk b o (fun hm => ?_) e) fun a ha hn => ?_) hh
    · rcases List.mem_append.mp hm with h | h
      · rw [hwr b h] at e; cases e
      · exact hb (owS b h)
    · unfold Fx.S at ha
      simp only [List.mem_append] at ha
      rcases ha with h | h | h | h
      · exact absurd (List.mem_append_left _ h) hn
      · exact absurd (List.mem_append_right _ (List.mem_append_left _ h)) hn
      · exact hwr a h
      · exact absurd (List.mem_append_right _ (List.mem_append_right _ h)) hn
  refine codeAny_forLoop_any (fun m s' => ∃ i d, m = ps.length - i ∧ i ≤ ps.length ∧ Pd i d ∧ Fs F hK (wr ++ S₀) (ρf i d) (ωf i d) s' ∧ ((∃ old, IsEnum s'.heap (It + 1) It ((i : Nat) : Int) old) ∧ s'.heap.IsListIter It l i ∧ s'.heap.IsList l vs) ∧
      (∀ b o, b ∉ wr ++ (F.own ++ (ωf 0 d₀).map (·.1)) → s₂.heap.get? b = some o → s'.heap.get? b = some o)) ?_ ps.length
    ⟨0, d₀, rfl, Nat.zero_le _, hd, H₂, hst, fun b o _ e => hk3 b o e⟩
  rintro m s' ⟨i, d, rfl, hi, hpd, H', hst', hk'⟩
  have ownd : ∀ b ∈ wr, b ∉ F.own ++ (ωf i d).map (·.1) := fun b hb => by rw [hω]; exact own b hb
  rcases Nat.lt_or_ge i ps.length with hlt | hge
  · refine wpAny_with_toks (Nat.le_refl _) (W.item i s' _ _ (by rw [hlen]; exact hlt) hst' fun T vals h' tk' hPt hTs hT hm hkk => ?_)
    intro htk
    obtain ⟨t, v, hv, rfl⟩ := hPt
    refine W.go _ _ _ i T _ _ _ hm fun h'' hst'' hk2 => ?_
    have hTw : T ∉ wr := W.apart i T h' hm
    have hT'' : IsTup h'' T #[.int i t, v] := by
      obtain ⟨o, ho, r⟩ := hT
      exact ⟨o, hk2 T o hTw ho, r⟩
    have hkk2 : ∀ b o, b ∉ wr → s'.heap.get? b = some o → h''.get? b = some o := fun b o hb e => hk2 b o hb (hkk b o hb e)
    have H₃ := H'.turn (h' := h'') (t := tk') (fun b hb => List.mem_append_left _ hb) fresh0 ownd (fun b hb => hSt _ _ hst'' b hb) hkk2 htk
    refine noE (assign_Tuple_tuple R.han hT'' rfl rfl fun h4 hx4 => ?_)
    have s34 : Sub h'' h4 := ext_fresh hx4
    have H₄ := H₃.step (s' := { s' with heap := h4, toks := tk' }) (Kp.mk' (s := { s' with heap := h'', toks := tk' }) (t := tk') s34)
    refine assignInOrder_cons (assign_Name (H₄.rebase.store hx (p := TInt (i : Int)) ⟨t, rfl⟩ fun s₅ H₅ => ?_))
    have sub5 : Sub (hideAll h4 (F.S (wr ++ S₀) (ωf i d))) (hideAll s₅.heap (F.S (wr ++ S₀) (ωf i d))) := hide_sub (fun b o hb e => H₅.keep b o ((hide_get ..).2 ⟨e, fun hm => hb (by
      unfold Fx.S
      rcases List.mem_append.mp hm with h | h
      · exact List.mem_append_left _ h
      · exact List.mem_append_right _ (List.mem_append_left _ h))⟩)) fun a ha hn => absurd ha hn
    have hvq : (q i).holds (hideAll h4 (F.S (wr ++ S₀) (ωf i d))) v := by
      have := items { s' with heap := h4, toks := tk' } (fun b o hb e => s34 b o (hkk2 b o (fun hm => hb (List.mem_append_left _ hm)) (hk' b o hb e))) i v hv
      unfold Fx.S at this ⊢
      rw [hω]
      exact this
    refine assignInOrder_cons (assign_Name (H₅.store hy (p := q i) ((q i).stab sub5 hvq) fun s₆ H₆ => assignInOrder_nil ?_))
    refine noE (wpAny_mono (turn i d _ _ s₆ hlt hpd H₆) (fun f s₇ hf => ?_) fun _ _ x => x)
    have step : ∀ {ρ' ω'}, ω'.map (·.1) = (ωf 0 d₀).map (·.1) → Fs F (hideAll h4 (F.own ++ (ωf i d).map (·.1))) (wr ++ S₀) ρ' ω' s₇ → Fs F hK (wr ++ S₀) ρ' ω' s₇ := fun hw h => H₄.unbase (hK' := hK) (by rw [hω, hw]) h
    have kept : ∀ {ρ' ω'}, Fs F (hideAll h4 (F.own ++ (ωf i d).map (·.1))) (wr ++ S₀) ρ' ω' s₇ → ∀ b o, b ∉ F.own ++ (ωf 0 d₀).map (·.1) → h4.get? b = some o → s₇.heap.get? b = some o := fun h b o hb e => h.keep b o ((hide_get ..).2 ⟨e, by rw [hω]; exact hb⟩)
    have next : ∀ d', Pd (i + 1) d' → Fs F (hideAll h4 (F.own ++ (ωf i d).map (·.1))) (wr ++ S₀) (ρf (i + 1) d') (ωf (i + 1) d') s₇ → ∃ m, m < ps.length - i ∧ ∃ i d, m = ps.length - i ∧ i ≤ ps.length ∧ Pd i d ∧ Fs F hK (wr ++ S₀) (ρf i d) (ωf i d) s₇ ∧ ((∃ old, IsEnum s₇.heap (It + 1) It ((i : Nat) : Int) old) ∧ s₇.heap.IsListIter It l i ∧ s₇.heap.IsList l vs) ∧
        (∀ b o, b ∉ wr ++ (F.own ++ (ωf 0 d₀).map (·.1)) → s₂.heap.get? b = some o → s₇.heap.get? b = some o) := fun d' hp' h =>
      ⟨ps.length - (i + 1), by omega, i + 1, d', rfl, hlt, hp', step (hω _ _) h, frm _ _ _ hst'' (fun b hb o e => kept h b o (by
          rcases hb with rfl | rfl | rfl
          · exact own _ (by simp [wr])
          · exact own _ (by simp [wr])
          · exact lown) (s34 b o e)),
        fun b o hb e => kept h b o (fun hm => hb (List.mem_append_right _ hm)) (s34 b o (hkk2 b o (fun hm => hb (List.mem_append_left _ hm)) (hk' b o hb e)))⟩
    cases f with
    | ret v => exact hf
    | brk => obtain ⟨d', hp', h⟩ := hf; exact brk d' s₇ hp' (back (step (hωb d') h))
    | next => obtain ⟨d', hp', h⟩ := hf; exact next d' hp' h
    | cont => obtain ⟨d', hp', h⟩ := hf; exact next d' hp' h
  · obtain rfl : i = ps.length := Nat.le_antisymm hi hge
    refine wpAny_with_toks (Nat.le_refl _) (W.done s' _ _ (by rw [hlen]; exact hst') fun h' tk' hkk => ?_)
    intro htk
    have H₃ := H'.turnShow (h' := h') (t := tk') H.sc (fun b hb hm => by
      obtain ⟨o, e⟩ := H₂'.live b (List.mem_append_right _ (List.mem_append_right _ hm))
      rw [hwr b hb] at e; cases e) fresh0 ownd (fun b o hb e => hkk b o hb e) htk
    exact noE (wpAny_execs_nil (fin d _ hpd H₃))
end
section
variable {w : World} {k : Nat} {s₀ : Shared} {env : Env} {Sc : List Addr} {hK : Heap} {S₀ : List Addr} {s s' : Shared} {A : Around} {Q : Flow → Shared → Prop}
theorem ex_forE {D : Type} {ps : List FP} {q : Nat → FP} {x y : Str} {px py pos tpos np cpos : Pos} {tk : Nat} {e : Expr} {body rest : List Stmt} (Pd : Nat → D → Prop) (ρf : Nat → D → List (Str × FP)) (ωf : Nat → D → List (Addr × OP))
    (Pb : D → Prop) (ρb : D → List (Str × FP)) (ωb : D → List (Addr × OP)) (d₀ : D)
    (H : Fs ⟨w, k, s₀, env, Sc⟩ hK S₀ (ρf 0 d₀) (ωf 0 d₀) s) (R : Room k A) (hd : Pd 0 d₀) (hsrc : Ev (Fx.cx ⟨w, k, s₀, env, Sc⟩ S₀ (ρf 0 d₀) (ωf 0 d₀)) e (TLst ps)) (hq : ∀ i p, ps[i]? = some p → p = q i) (hx : StoreOk env x) (hy : StoreOk env y)
    (hω : ∀ i d, (ωf i d).map (·.1) = (ωf 0 d₀).map (·.1)) (hωb : ∀ d, (ωb d).map (·.1) = (ωf 0 d₀).map (·.1))
    (turn : ∀ i d hK' S' s', i < ps.length → Pd i d → Fs ⟨w, k, s₀, env, Sc⟩ hK' S' ((y, q i) :: drp y ((x, TInt (i : Int)) :: drp x (ρf i d))) (ωf i d) s' →
      Run w A (execs body env) (fun f s'' => match f with
        | .next | .cont => ∃ d', Pd (i + 1) d' ∧ Fs ⟨w, k, s₀, env, Sc⟩ hK' S' (ρf (i + 1) d') (ωf (i + 1) d') s''
        | .brk => ∃ d', Pb d' ∧ Fs ⟨w, k, s₀, env, Sc⟩ hK' S' (ρb d') (ωb d') s''
        | .ret v => Q (.ret v) s'') s')
    (fin : ∀ d s', Pd ps.length d → Fs ⟨w, k, s₀, env, Sc⟩ hK S₀ (ρf ps.length d) (ωf ps.length d) s' → Run w A (execs rest env) Q s')
    (brk : ∀ d s', Pb d → Fs ⟨w, k, s₀, env, Sc⟩ hK S₀ (ρb d) (ωb d) s' → Run w A (execs rest env) Q s')
    (hk : env.kindOf (Str.ofString "enumerate") = some .globalImplicit)
    (he : ∀ env, starEach [e] env = (false, eval e env) :: starEach [] env := by intro _; rfl)
    (hs : ∀ x, foldedSetIterable (.Call (.Name (Str.ofString "enumerate") np) [e] [] cpos) env x = pure x := by intro _; rfl) :
    Run w A (execs (.For (.Tuple [.Name x px, .Name y py] tk tpos) (.Call (.Name (Str.ofString "enumerate") np) [e] [] cpos) body [] pos :: rest) env) Q s :=
  ⟨ex_forEF Pd ρf ωf Pb ρb ωb d₀ H R hd hsrc hq hx hy hω hωb (fun i d hK' S' s' h1 h2 h3 => (turn i d hK' S' s' h1 h2 h3).go) (fun d s' h1 h2 => (fin d s' h1 h2).go) (fun d s' h1 h2 => (brk d s' h1 h2).go) hk he hs⟩
end
end Mine
namespace Mine

abbrev TInts (xs : List Int) : FP := TLst (xs.map TInt)
def cellStep (ns : List Int) (c : List Int) (j : Nat) : List Int := c.set (j % 3) (c.getD (j % 3) 0 + (ns.getD j 0).fmod 10000000)
def cellsAt (ns : List Int) (i : Nat) : List Int := (List.range i).foldl (cellStep ns) [17, 331, 163]
def cellsOf (ns : List Int) : List Int := cellsAt (ns.take 60) (ns.take 60).length
def pool : List Str := [Str.ofString "\t", Str.ofString "\n", Str.ofString "\"", Str.ofString "&", Str.ofString "&#", Str.ofString "&a", Str.ofString "&b", Str.ofString "&c", Str.ofString "&lt;", Str.ofString "'", Str.ofString "<", Str.ofString "a"]
def textAt (c : Int) (k : Nat) : Str := pool.getD ((c.fdiv 5 + (k : Int)).fmod 12).toNat default
def texts (c : Int) : List Str := (List.range 6).map (textAt c)
def restAt (c : Int) : Nat → Int
  | 0 => c
  | j + 1 => (restAt c j).fdiv ((j : Int) + 1)
def ordAt (ts : List Str) (c : Int) : Nat → List Str
  | 0 => []
  | j + 1 => ins (ordAt ts c j) ((restAt c j).fmod ((j : Int) + 1)).toNat (ts.getD j default)
def cellAt (ns : List Int) (i : Nat) : Int := (cellsOf ns).getD i 0
def orderAt (ns : List Int) (i : Nat) : List Str := ordAt (texts (cellAt ns 0)) (cellAt ns (i + 1)) 6

theorem cellsAt_succ (ns : List Int) (i : Nat) : cellsAt ns (i + 1) = cellStep ns (cellsAt ns i) i := by
  unfold cellsAt; rw [List.range_succ, List.foldl_append]; rfl
theorem cellsAt_len (ns : List Int) (i : Nat) : (cellsAt ns i).length = 3 := by
  induction i with
  | zero => rfl
  | succ i ih => rw [cellsAt_succ]; unfold cellStep; rw [List.length_set, ih]
theorem cellsOf_len (ns : List Int) : (cellsOf ns).length = 3 := cellsAt_len _ _
theorem ints_item {o : List Int} {k : Nat} (h : k < o.length) : (o.map TInt)[k]? = some (TInt (o.getD k 0)) := by
  rw [List.getElem?_map, List.getElem?_eq_getElem h, List.getD_eq_getElem?_getD, List.getElem?_eq_getElem h]; rfl
theorem ins_map {α β : Type} (f : α → β) (l : List α) (k : Nat) (x : α) : (ins l k x).map f = ins (l.map f) k (f x) := by
  unfold ins; rw [List.map_append, List.map_cons, List.map_take, List.map_drop]
theorem ins_len {α : Type} (l : List α) (k : Nat) (x : α) : (ins l k x).length = l.length + 1 := by
  unfold ins; rw [List.length_append, List.length_cons, List.length_take, List.length_drop]; omega
theorem ordAt_len (ts : List Str) (c : Int) (j : Nat) : (ordAt ts c j).length = j := by
  induction j with
  | zero => rfl
  | succ j ih => unfold ordAt; rw [ins_len, ih]
theorem fmod_bounds (r : Int) {n : Int} (h : 0 < n) : 0 ≤ r.fmod n ∧ r.fmod n < n := ⟨Int.fmod_nonneg_of_pos _ h, Int.fmod_lt_of_pos _ h⟩

theorem def_181 (w : World) : DefAt w 181 (fdAt 181) (bodyAt 181) := ⟨⟨_, _, _, rfl⟩, by rfl, rfl, rfl, rfl, rfl, rfl, rfl, rfl, by decide⟩
theorem n_divmod (w : World) : nsIn (KK w) mainGlobals (Str.ofString "divmod") = some none := by rfl
theorem bb_divmod : bootBuiltins (Str.ofString "divmod") = some (.builtin "divmod") := by kernel_rfl

theorem fn_drawn (w : World) (k : Nat) (ns : List Int) (hz : ns.length ≤ 63) : Fn w (k + 1) (.ref 181) [TInts ns] (TTup [TInt ((cellAt ns 0).fmod 5), TLst [TStrs (orderAt ns 0), TStrs (orderAt ns 1)]]) := by
  refine Fn.enter (names := [Str.ofString "script"]) (def_181 w) rfl (by decide) (by decide) (fun vs hv => ?_) fun A L S s₀ s R H => ?_
  · obtain ⟨a, rfl⟩ := args1 hv; rfl
  o_facts H
  refine ex_own (ps := [TInt 17, TInt 331, TInt 163]) H R (EvL.cons Ev.cint (EvL.cons Ev.cint (EvL.cons Ev.cint EvL.nil))) (by decide) (storeOk_of (by decide)) fun a s₁ H₁ => ?_
  o_facts H₁
  have hlen : ((ns.map TInt).take 60).length = (ns.take 60).length := by rw [← List.map_take, List.length_map]
  have h60 : (ns.take 60).length ≤ 60 := by rw [List.length_take]; omega
  refine ex_forE (D := Unit) (ps := (ns.map TInt).take 60) (q := fun i => TInt ((ns.take 60).getD i 0)) (fun i _ => True) (fun i _ => [(Str.ofString "cells", TRef a), (Str.ofString "script", TInts ns)]) (fun i _ => [(a, OLst ((cellsAt (ns.take 60) i).map TInt))]) (fun _ => False) (fun _ => []) (fun _ => [(a, OLst [])]) ()
    H₁ R trivial (Ev.upto (i := 60) (Ev.var (by walk_at "mem")) Ev.cint (by decide) (by rw [List.length_map]; omega)) (fun i p hp => ?_) (storeOk_of (by decide)) (storeOk_of (by decide)) (fun _ _ => rfl) (fun _ => rfl) (fun i d hK' S' s' hi _ H' => ?_) (fun d s' _ H₂ => ?_) (fun d s' h => h.elim) rfl
  · rw [← List.map_take] at hp
    have hi : i < (ns.take 60).length := by
      have := (List.getElem?_eq_some_iff.mp hp).1
      rwa [List.length_map] at this
    rw [ints_item hi] at hp
    cases hp; rfl
  · o_facts H'
    have hm := fmod_bounds (i : Int) (n := 3) (by decide)
    have hj : ((i : Int).fmod 3).toNat = i % 3 := by
      rw [Int.fmod_eq_emod_of_nonneg _ (by decide)]; omega
    have hl3 := cellsAt_len (ns.take 60) i
    refine ex_setaug (j := (i : Int).fmod 3) (p := TInt ((cellsAt (ns.take 60) i).getD (i % 3) 0)) (q := TInt (((ns.take 60).getD i 0).fmod 10000000)) (r := TInt ((cellsAt (ns.take 60) i).getD (i % 3) 0 + ((ns.take 60).getD i 0).fmod 10000000)) H' R (by walk_at "mem") (Ev.bin (Ev.var (by walk_at "mem")) Ev.cint (Op2.mod_int (by decide))) (Ev.bin (Ev.var (by walk_at "mem")) Ev.cint (Op2.mod_int (by decide))) hm.1 (by rw [List.length_map, hl3]; omega) (by rw [List.length_map, hl3]; decide) (by rw [hj]; exact ints_item (by rw [hl3]; omega)) Op2.iadd_int fun s₃ H₃ => ?_
    refine Run.nil ⟨(), trivial, ?_⟩
    rw [hj] at H₃
    have e : (cellsAt (ns.take 60) (i + 1)).map TInt = ((cellsAt (ns.take 60) i).map TInt).set (i % 3) (TInt ((cellsAt (ns.take 60) i).getD (i % 3) 0 + ((ns.take 60).getD i 0).fmod 10000000)) := by
      rw [cellsAt_succ]; unfold cellStep; rw [List.map_set]
    rw [e]
    exact H₃.weak (by simp)
  · rw [hlen] at H₂
    have H₃ := H₂.freeze (x := Str.ofString "cells") (by walk_at "mem")
    o_facts H₃
    have hc : cellsAt (ns.take 60) (ns.take 60).length = cellsOf ns := rfl
    rw [hc] at H₃
    have hl3 := cellsOf_len ns
    refine ex_assign (p := TStrs pool) H₃ R (Ev.list (EvL.cons Ev.cstr (EvL.cons Ev.cstr (EvL.cons Ev.cstr (EvL.cons Ev.cstr (EvL.cons Ev.cstr (EvL.cons Ev.cstr (EvL.cons Ev.cstr (EvL.cons Ev.cstr (EvL.cons Ev.cstr (EvL.cons Ev.cstr (EvL.cons Ev.cstr (EvL.cons Ev.cstr EvL.nil))))))))))))) (storeOk_of (by decide)) fun s₄ H₄ => ?_
    o_facts H₄
    have c0 : ((cellsOf ns).map TInt)[(0 : Int).toNat]? = some (TInt (cellAt ns 0)) := ints_item (by rw [hl3]; decide)
    refine ex_assign_comp (n := 6) (b := fun _ => true) (q := fun i => TInt (i : Int)) (r := fun i => TStr (textAt (cellAt ns 0) i)) (ρc := [(Str.ofString "pool", TStrs pool), (Str.ofString "cells", TInts (cellsOf ns))]) H₄ R (Src.range Ev.cint rfl (by decide)) rfl (by decide) rfl (by decide) rfl (fun yp hyp => ?_) (by decide) (fun i Cc S' hi => TtIfs.nil) (fun i Cc S' hi _ => ?_) (storeOk_of (by decide)) fun s₅ H₅ => ?_
    · rcases List.mem_cons.mp hyp with rfl | hyp
      · exact ⟨by walk_at "mem", rfl, .inl rfl, rfl, rfl⟩
      · rw [List.mem_singleton] at hyp; subst hyp
        exact ⟨by walk_at "mem", rfl, .inl rfl, rfl, rfl⟩
    · have hm := fmod_bounds ((cellAt ns 0).fdiv 5 + (i : Int)) (n := 12) (by decide)
      refine Ev.item (i := ((cellAt ns 0).fdiv 5 + (i : Int)).fmod 12) (Ev.var (by walk_at "mem")) (Ev.bin (Ev.bin (Ev.bin (Ev.item (Ev.var (by walk_at "mem")) Ev.cint (by decide) (by decide) c0) Ev.cint (Op2.div_int (by decide) (PyProof.noPylong_small (by decide)))) (Ev.var (by walk_at "mem")) Op2.add_int) Ev.cint (Op2.mod_int (by decide))) hm.1 (by omega) ?_
      have hl : (((cellAt ns 0).fdiv 5 + (i : Int)).fmod 12).toNat < pool.length := by show _ < 12; omega
      rw [List.getElem?_map, List.getElem?_eq_getElem hl]
      unfold textAt
      rw [List.getD_eq_getElem?_getD, List.getElem?_eq_getElem hl]; rfl
    · rw [filter_all] at H₅
      have ht : (List.range 6).map (fun i => TStr (textAt (cellAt ns 0) i)) = (texts (cellAt ns 0)).map TStr := by unfold texts; rw [List.map_map]; rfl
      rw [ht] at H₅
      o_facts H₅
      refine ex_own (ps := []) H₅ R EvL.nil (by decide) (storeOk_of (by decide)) fun b s₆ H₆ => ?_
      o_facts H₆
      have hd : ((cellsOf ns).map TInt).drop 1 = [TInt (cellAt ns 1), TInt (cellAt ns 2)] := by
        unfold cellAt
        match h : cellsOf ns, hl3 with
        | [x, y, z], _ => rfl
      refine ex_for (D := Unit) (q := fun i => TInt (cellAt ns (i + 1))) (n := 2) (fun i _ => True) (fun i _ => [(Str.ofString "orders", TRef b), (Str.ofString "texts", TStrs (texts (cellAt ns 0))), (Str.ofString "cells", TInts (cellsOf ns))]) (fun i _ => [(b, OLst ((List.range i).map fun i => TStrs (orderAt ns i)))]) (fun _ => False) (fun _ => []) (fun _ => [(b, OLst [])]) ()
        (H₆.weak (by simp)) R trivial (Src.lst (ps := [TInt (cellAt ns 1), TInt (cellAt ns 2)]) (Ev.eq (Ev.from (i := 1) (Ev.var (by walk_at "mem")) Ev.cint (by decide) (by rw [List.length_map, hl3]; decide)) (congrArg TLst hd)) (fun i p hp => ?_)) (storeOk_of (by decide)) (fun _ _ => rfl) (fun _ => rfl) (fun i d hK' S' s' hi _ H' => ?_) (fun d s' _ H₇ => ?_) (fun d s' h => h.elim)
      · match i, hp with
        | 0, hp => cases hp; rfl
        | 1, hp => cases hp; rfl
        | i + 2, hp => simp at hp
      · o_facts H'
        generalize hcell : cellAt ns (i + 1) = cell at H'
        refine ex_assign H' R (Ev.var (by walk_at "mem")) (storeOk_of (by decide)) fun s₈ H₈ => ?_
        o_facts H₈
        refine ex_own (ps := []) H₈ R EvL.nil (by decide) (storeOk_of (by decide)) fun o s₉ H₉ => ?_
        o_facts H₉
        refine ex_for (D := Unit) (q := fun j => TInt (j : Int)) (n := 6) (fun i _ => True) (fun j _ => [(Str.ofString "order", TRef o), (Str.ofString "rest", TInt (restAt cell j)), (Str.ofString "orders", TRef b), (Str.ofString "texts", TStrs (texts (cellAt ns 0))), (Str.ofString "cells", TInts (cellsOf ns))]) (fun j _ => [(o, OLst ((ordAt (texts (cellAt ns 0)) cell j).map TStr)), (b, OLst ((List.range i).map fun i => TStrs (orderAt ns i)))]) (fun _ => False) (fun _ => []) (fun _ => [(o, OLst []), (b, OLst [])]) ()
          (H₉.weak (by simp [restAt])) R trivial (Src.range Ev.cint rfl (by decide)) (storeOk_of (by decide)) (fun _ _ => rfl) (fun _ => rfl) (fun j d hK' S' s' hj _ H₃ => ?_) (fun d s' _ H₃ => ?_) (fun d s' h => h.elim)
        · o_facts H₃
          have hj1 : (0 : Int) < (j : Int) + 1 := by omega
          have hm := fmod_bounds (restAt cell j) hj1
          refine ex_assign2 (p := TInt ((restAt cell j).fdiv ((j : Int) + 1))) (q := TInt ((restAt cell j).fmod ((j : Int) + 1))) H₃ R (.inr (Ev.call (Ev.builtin rfl (n_divmod _) bb_divmod) (.inr (.inl ⟨_, rfl⟩)) (EvL.cons (Ev.var (by walk_at "mem")) (EvL.cons (Ev.bin (Ev.var (by walk_at "mem")) Ev.cint Op2.add_int) EvL.nil)) (b_divmod (by omega) (PyProof.noPylong_small (by omega))))) (storeOk_of (by decide)) (storeOk_of (by decide)) fun s₄ H₄ => ?_
          o_facts H₄
          have ol := ordAt_len (texts (cellAt ns 0)) cell j
          refine ex_insert (j := (restAt cell j).fmod ((j : Int) + 1)) (p := TStr ((texts (cellAt ns 0)).getD j default)) H₄ R (by walk_at "mem") (Ev.var (by walk_at "mem")) (Ev.item (i := (j : Int)) (Ev.var (by walk_at "mem")) (Ev.var (by walk_at "mem")) (by omega) (by omega) (strs_item (by unfold texts; rw [List.length_map, List.length_range]; exact hj))) (by rw [List.length_map, ol]; omega) hm.1 (by rw [List.length_map, ol]; omega) fun s₅ H₅ => ?_
          refine Run.nil ⟨(), trivial, ?_⟩
          have e : (ordAt (texts (cellAt ns 0)) cell (j + 1)).map TStr = ins ((ordAt (texts (cellAt ns 0)) cell j).map TStr) ((restAt cell j).fmod ((j : Int) + 1)).toNat (TStr ((texts (cellAt ns 0)).getD j default)) := by
            conv => lhs; unfold ordAt
            rw [ins_map]
          rw [e]
          exact H₅.weak (by simp [restAt])
        · have H₄ := H₃.freeze (x := Str.ofString "order") (by walk_at "mem")
          o_facts H₄
          refine ex_append (p := TStrs (ordAt (texts (cellAt ns 0)) cell 6)) H₄ R (by walk_at "mem") (Ev.var (by walk_at "mem")) (by rw [List.length_map, List.length_range]; omega) fun s₅ H₅ => ?_
          refine Run.nil ⟨(), trivial, ?_⟩
          have e : (List.range (i + 1)).map (fun i => TStrs (orderAt ns i)) = (List.range i).map (fun i => TStrs (orderAt ns i)) ++ [TStrs (ordAt (texts (cellAt ns 0)) cell 6)] := by
            rw [List.range_succ, List.map_append]
            unfold orderAt
            rw [← hcell]; rfl
          rw [e]
          exact H₅.weak (by simp)
      · have H₈ := H₇.freeze (x := Str.ofString "orders") (by walk_at "mem")
        o_facts H₈
        have e2 : (List.range 2).map (fun i => TStrs (orderAt ns i)) = [TStrs (orderAt ns 0), TStrs (orderAt ns 1)] := rfl
        rw [e2] at H₈
        refine ex_return (p := TTup [TInt ((cellAt ns 0).fmod 5), TLst [TStrs (orderAt ns 0), TStrs (orderAt ns 1)]]) H₈ R (Ev.tuple (EvL.cons (Ev.bin (Ev.item (Ev.var (by walk_at "mem")) Ev.cint (by decide) (by decide) c0) Ev.cint (Op2.mod_int (by decide))) (EvL.cons (Ev.var (by walk_at "mem")) EvL.nil))) fun v s' H' hp => H'.ret hp
end Mine
namespace Mine

section
variable {F : Fx} {hK : Heap} {S₀ : List Addr} {ρ ρ' : List (Str × FP)} {ω ω' : List (Addr × OP)} {s s' : Shared} {A : Around} {Q : Flow → Shared → Prop} {a : Addr} {x : Str} {ps : List FP} {e : Expr}
theorem Tt.frozen {b : Bool} (hx : (x, TRef a) ∈ ρ) (ha : a ∉ F.S S₀ ω) (h : Tt (F.cx S₀ ((x, TLst ps) :: drp x ρ) ω) e b) : Tt (F.cx S₀ ρ ((a, OLst ps) :: ω)) e b := .mk fun A s R X => h.go A s R (X.frozen hx ha)
theorem Op2.ne_bool {C : Cx} {a b : Bool} : Op2 C (compareOp .NotEq) (TBool a) (TBool b) (TBool (a != b)) := .mk fun A s v u R X hv hu => by
  cases hv; cases hu; exact PyProof.Rows.ne_bool ⟨Kp.rfl', rfl⟩
theorem Op2.ne_boolE {C : Cx} {a b r : Bool} (h : (a != b) = r) : Op2 C (compareOp .NotEq) (TBool a) (TBool b) (TBool r) := h ▸ Op2.ne_bool
theorem Op2.eq_bool {C : Cx} {a b : Bool} : Op2 C (compareOp .Eq) (TBool a) (TBool b) (TBool (a == b)) := .mk fun A s v u R X hv hu => by
  cases hv; cases hu; exact PyProof.Rows.eq_bool ⟨Kp.rfl', rfl⟩

theorem ex_whileF {D : Type} {test : Expr} {body rest : List Stmt} {pos : Pos} (Pd : Nat → D → Prop) (ρf : D → List (Str × FP)) (ωf : D → List (Addr × OP)) (b : D → Bool) (n₀ : Nat) (d₀ : D)
    (H : Fs F hK S₀ (ρf d₀) (ωf d₀) s) (R : Room F.k A) (hd : Pd n₀ d₀)
    (ht : ∀ n d s', Pd n d → Fs F hK S₀ (ρf d) (ωf d) s' → Tt (F.cx S₀ (ρf d) (ωf d)) test (b d))
    (turn : ∀ n d s', Pd n d → b d = true → Fs F hK S₀ (ρf d) (ωf d) s' →
      wpAny (MM F.w) A (execs body F.env) (fun f s'' => match f with
        | .next | .cont => ∃ n' d', n' < n ∧ Pd n' d' ∧ Fs F hK S₀ (ρf d') (ωf d') s''
        | .brk => False
        | .ret v => Q (.ret v) s'') NoE s')
    (fin : ∀ n d s', Pd n d → b d = false → Fs F hK S₀ (ρf d) (ωf d) s' → wpAny (MM F.w) A (execs rest F.env) Q NoE s') :
    wpAny (MM F.w) A (execs (.While test body [] pos :: rest) F.env) Q NoE s := by
  refine wpAny_execs_cons (wpAny_While ?_)
  refine codeAny_whileLoop (fun n s' => ∃ d, Pd n d ∧ Fs F hK S₀ (ρf d) (ωf d) s') ?_ n₀ ⟨d₀, hd, H⟩
  rintro n s' ⟨d, hpd, H'⟩
  refine noE (wpAny_mono ((ht n d s' hpd H').go A s' R H'.xs) (fun b' s₁ ⟨k₁, hb⟩ => ?_) fun _ _ x => x)
  subst hb
  have H₁ := H'.step k₁
  cases hb : b d with
  | true =>
    simp only [if_true]
    refine noE (wpAny_mono (turn n d s₁ hpd hb H₁) (fun f s₂ hf => ?_) fun _ _ x => x)
    cases f with
    | ret v => exact hf
    | brk => exact hf.elim
    | next => obtain ⟨n', d', h1, h2, h3⟩ := hf; exact ⟨n', h1, d', h2, h3⟩
    | cont => obtain ⟨n', d', h1, h2, h3⟩ := hf; exact ⟨n', h1, d', h2, h3⟩
  | false =>
    simp only [Bool.false_eq_true, if_false]
    exact noE (wpAny_execs_nil (fin n d s₁ hpd hb H₁))
end
section
variable {w : World} {k : Nat} {s₀ : Shared} {env : Env} {Sc : List Addr} {hK : Heap} {S₀ : List Addr} {s s' : Shared} {A : Around} {Q : Flow → Shared → Prop}
theorem ex_while {D : Type} {test : Expr} {body rest : List Stmt} {pos : Pos} (Pd : Nat → D → Prop) (ρf : D → List (Str × FP)) (ωf : D → List (Addr × OP)) (b : D → Bool) (n₀ : Nat) (d₀ : D)
    (H : Fs ⟨w, k, s₀, env, Sc⟩ hK S₀ (ρf d₀) (ωf d₀) s) (R : Room k A) (hd : Pd n₀ d₀)
    (ht : ∀ n d s', Pd n d → Fs ⟨w, k, s₀, env, Sc⟩ hK S₀ (ρf d) (ωf d) s' → Tt (Fx.cx ⟨w, k, s₀, env, Sc⟩ S₀ (ρf d) (ωf d)) test (b d))
    (turn : ∀ n d s', Pd n d → b d = true → Fs ⟨w, k, s₀, env, Sc⟩ hK S₀ (ρf d) (ωf d) s' →
      Run w A (execs body env) (fun f s'' => match f with
        | .next | .cont => ∃ n' d', n' < n ∧ Pd n' d' ∧ Fs ⟨w, k, s₀, env, Sc⟩ hK S₀ (ρf d') (ωf d') s''
        | .brk => False
        | .ret v => Q (.ret v) s'') s')
    (fin : ∀ n d s', Pd n d → b d = false → Fs ⟨w, k, s₀, env, Sc⟩ hK S₀ (ρf d) (ωf d) s' → Run w A (execs rest env) Q s') :
    Run w A (execs (.While test body [] pos :: rest) env) Q s := ⟨ex_whileF Pd ρf ωf b n₀ d₀ H R hd ht (fun n d s' h1 h2 h3 => (turn n d s' h1 h2 h3).go) (fun n d s' h1 h2 h3 => (fin n d s' h1 h2 h3).go)⟩
end

def memB {α : Type} [DecidableEq α] (a : α) (as : List α) : Bool := decide (a ∈ as)
theorem memB_iff {α : Type} [DecidableEq α] {a : α} {as : List α} : memB a as = true ↔ a ∈ as := decide_eq_true_iff
section
variable {α : Type} [DecidableEq α] {enc : α → FP} {d : Nat} {C : Cx}
theorem Op2.in_lstB (he : ∀ a b, EqV d (enc a) (enc b) (decide (a = b))) (a : α) (as : List α) (hd : d ≤ 10) : Op2 C (compareOp .In) (enc a) (TLst (as.map enc)) (TBool (memB a as)) := Op2.in_lst he a as hd
theorem Op2.notin_lstB (he : ∀ a b, EqV d (enc a) (enc b) (decide (a = b))) (a : α) (as : List α) (hd : d ≤ 10) : Op2 C (compareOp .NotIn) (enc a) (TLst (as.map enc)) (TBool (!memB a as)) := Op2.notin_lst he a as hd
end
/-! ### _law_reached -/
abbrev pairAt (o : List Str) (k : Nat) : List Str := [at' o k, at' o (k + 1)]
def freeAt (o : List Str) (k : Nat) : Bool := !decide (ahead o k = []) && !decide (behind o k = [])
def badAt (ap ot : List (List Str)) (o : List Str) (k : Nat) : Bool := freeAt o k != (memB (pairAt o k) ap && memB (pairAt o k) ot)
def freshAt (o : List Str) (k : Nat) : List Str := o.take k ++ [at' o (k + 1), at' o k] ++ o.drop (k + 2)
def addAt (o : List Str) (k : Nat) (R : List (List Str)) : List (List Str) := if (freeAt o k && !memB (freshAt o k) R) = true then R ++ [freshAt o k] else R
def inner (ap ot : List (List Str)) (o : List Str) (R : List (List Str)) : Nat → Option (List (List Str))
  | 0 => some R
  | k + 1 => (inner ap ot o R k).bind fun R' => if badAt ap ot o k = true then none else some (addAt o k R')
def more (seen : Nat) (R : List (List Str)) : Bool := decide ((seen : Int) < (if (100 : Int) < (R.length : Int) then (100 : Int) else (R.length : Int)))
def bfs (ap ot : List (List Str)) : Nat → Nat → List (List Str) → List (List Str)
  | 0, _, R => R
  | f + 1, seen, R => if more seen R = true then (match inner ap ot (R.getD seen default) R 5 with | none => [] | some R' => bfs ap ot f (seen + 1) R') else R
theorem bfs_succ (ap ot : List (List Str)) (f seen : Nat) (R : List (List Str)) : bfs ap ot (f + 1) seen R = if more seen R = true then (match inner ap ot (R.getD seen default) R 5 with | none => [] | some R' => bfs ap ot f (seen + 1) R') else R := rfl
def reached (o : List Str) (ap ot : List (List Str)) : List (List Str) := bfs ap ot 101 0 [o]

theorem freshAt_len {o : List Str} (h : o.length = 6) {k : Nat} (hk : k < 5) : (freshAt o k).length = 6 := by
  unfold freshAt
  simp only [List.length_append, List.length_take, List.length_drop, List.length_cons, List.length_nil]
  omega
theorem addAt_ok {o : List Str} {k : Nat} {R : List (List Str)} (h : o.length = 6) (hk : k < 5) (hR : ∀ x ∈ R, x.length = 6) : (∀ x ∈ addAt o k R, x.length = 6) ∧ (addAt o k R).length ≤ R.length + 1 := by
  unfold addAt
  split
  · refine ⟨fun x hx => ?_, by simp⟩
    rcases List.mem_append.mp hx with hx | hx
    · exact hR x hx
    · rw [List.mem_singleton] at hx; subst hx; exact freshAt_len h hk
  · exact ⟨hR, Nat.le_succ _⟩
theorem more_iff {seen : Nat} {R : List (List Str)} (h : more seen R = true) : seen < R.length ∧ seen < 100 := by
  unfold more at h
  rw [decide_eq_true_eq] at h
  split at h <;> omega

theorem def_224 (w : World) : DefAt w 224 (fdAt 224) (bodyAt 224) := ⟨⟨_, _, _, rfl⟩, by rfl, rfl, rfl, rfl, rfl, rfl, rfl, rfl, by decide⟩
theorem n_len (w : World) : nsIn (KK w) mainGlobals (Str.ofString "len") = some none := by rfl
theorem bb_len : bootBuiltins (Str.ofString "len") = some (.builtin "len") := by kernel_rfl
theorem n_min (w : World) : nsIn (KK w) mainGlobals (Str.ofString "min") = some none := by rfl
theorem bb_min : bootBuiltins (Str.ofString "min") = some (.builtin "min") := by kernel_rfl
abbrev TRows (xs : List (List Str)) : FP := TLst (xs.map TStrs)
theorem rows_item {o : List (List Str)} {k : Nat} (h : k < o.length) : (o.map TStrs)[((k : Nat) : Int).toNat]? = some (TStrs (o.getD k default)) := by
  rw [List.getElem?_map, Int.toNat_natCast, List.getElem?_eq_getElem h]
  rw [List.getD_eq_getElem?_getD, List.getElem?_eq_getElem h]; rfl

theorem fn_reached (w : World) (k : Nat) (o : List Str) (ap ot : List (List Str)) (h6 : o.length = 6) : Fn w (k + 3) (.ref 224) [TStrs o, TRows ap, TRows ot] (TRows (reached o ap ot)) := by
  refine Fn.enter (names := [Str.ofString "order", Str.ofString "apart", Str.ofString "other"]) (def_224 w) rfl (by decide) (by decide) (fun vs hv => ?_) fun A L S s₀ s R H => ?_
  · obtain ⟨a, b, c, rfl⟩ := args3 hv; rfl
  o_facts H
  refine ex_own (ps := [TStrs o]) H R (EvL.cons (Ev.var (by walk_at "mem")) EvL.nil) (show (1 : Nat) ≤ 1000 by decide) (storeOk_of (by decide)) fun a s₁ H₁ => ?_
  o_facts H₁
  refine ex_assign H₁ R Ev.cint (storeOk_of (by decide)) fun s₂ H₂ => ?_
  o_facts H₂
  refine ex_while (D := Nat × List (List Str)) (fun n d => n = 100 - d.1 ∧ d.1 ≤ 100 ∧ (∀ x ∈ d.2, x.length = 6) ∧ d.2.length ≤ 1 + 5 * d.1 ∧ reached o ap ot = bfs ap ot (101 - d.1) d.1 d.2)
    (fun d => [(Str.ofString "seen", TInt (d.1 : Int)), (Str.ofString "reached", TRef a), (Str.ofString "order", TStrs o), (Str.ofString "apart", TRows ap), (Str.ofString "other", TRows ot)]) (fun d => [(a, OLst (d.2.map TStrs))]) (fun d => more d.1 d.2) 100 (0, [o])
    H₂ R ⟨rfl, Nat.zero_le _, by simpa using h6, by simp, rfl⟩ (fun n d s' hp H' => ?_) (fun n d s' hp hm H' => ?_) (fun n d s' hp hm H' => ?_)
  · refine Tt.frozen (x := Str.ofString "reached") (by walk_at "mem") H'.notS ?_
    simp only [drp, ofS_inj, String.reduceEq, if_false, if_true]
    have hl : (d.2.map TStrs).length ≤ 100000 := by rw [List.length_map]; omega
    refine Tt.cmp (Ev.var (by walk_at "mem")) (Ev.call (Ev.builtin rfl (n_min _) bb_min) (.inr (.inl ⟨_, rfl⟩)) (EvL.cons (Ev.eq (Ev.call (Ev.builtin rfl (n_len _) bb_len) (.inr (.inl ⟨_, rfl⟩)) (EvL.cons (Ev.var (by walk_at "mem")) EvL.nil) (b_len hl)) (by rw [List.length_map])) (EvL.cons Ev.cint EvL.nil)) b_min) Op2.lt_int
  · obtain ⟨seen, rows⟩ := d
    obtain ⟨hn, h100, hR, hRl, hbfs⟩ := hp
    dsimp only at hn h100 hR hRl hbfs H' hm
    obtain ⟨hs1, hs2⟩ := more_iff hm
    have hh6 : (rows.getD seen default).length = 6 := hR _ (by rw [List.getD_eq_getElem?_getD, List.getElem?_eq_getElem hs1]; exact List.getElem_mem hs1)
    have hbfs' : reached o ap ot = match inner ap ot (rows.getD seen default) rows 5 with | none => [] | some R' => bfs ap ot (100 - seen) (seen + 1) R' := by
      rw [hbfs, show 101 - seen = (100 - seen) + 1 by omega]
      rw [bfs_succ, if_pos hm]
    refine ex_assign (p := TStrs (rows.getD seen default)) H' R (Ev.own_item (i := (seen : Int)) (.head _) (Ev.var (by walk_at "mem")) (Ev.var (by walk_at "mem")) (by omega) (by omega) (rows_item hs1)) (storeOk_of (by decide)) fun s₃ H₃ => ?_
    o_facts H₃
    generalize hhere : rows.getD seen default = here at H₃ hh6 hbfs'
    refine ex_for (D := List (List Str)) (q := fun i => TInt (i : Int)) (n := 5) (fun i R' => inner ap ot here rows i = some R' ∧ (∀ x ∈ R', x.length = 6) ∧ R'.length ≤ rows.length + i) (fun i _ => [(Str.ofString "here", TStrs here), (Str.ofString "seen", TInt (seen : Int)), (Str.ofString "reached", TRef a), (Str.ofString "order", TStrs o), (Str.ofString "apart", TRows ap), (Str.ofString "other", TRows ot)])
      (fun _ R' => [(a, OLst (R'.map TStrs))]) (fun _ => False) (fun _ => []) (fun _ => [(a, OLst [])]) rows
      H₃ R ⟨rfl, hR, Nat.le_refl _⟩ (Src.range Ev.cint rfl (by decide)) (storeOk_of (by decide)) (fun _ _ => rfl) (fun _ => rfl) (fun i R' hK' S' s' hi hP H' => ?_) (fun R' s' hP H' => ?_) (fun d s' h => h.elim)
    · o_facts H'
      obtain ⟨hin, hR', hRl'⟩ := hP
      have i0 : (0 : Int) ≤ (i : Int) := Int.natCast_nonneg _
      have ib : (i : Int) < 2 ^ 63 := by omega
      refine ex_assign (p := TStrs (pairAt here i)) H' R (Ev.list (EvL.cons (Ev.item (Ev.var (by walk_at "mem")) (Ev.var (by walk_at "mem")) i0 ib (strs_item (by omega))) (EvL.cons (Ev.item (i := ((i + 1 : Nat) : Int)) (Ev.var (by walk_at "mem")) (Ev.eq (Ev.bin (Ev.var (by walk_at "mem")) Ev.cint Op2.add_int) (by push_cast; rfl)) (by omega) (by omega) (strs_item (by omega))) EvL.nil))) (storeOk_of (by decide)) fun s₁ H₁ => ?_
      o_facts H₁
      have eup : ∀ {S₁ : List Addr} {ρ₁ : List (Str × FP)} {ω₁ : List (Addr × OP)} {lp np pos ip : Pos}, (Str.ofString "here", TStrs here) ∈ ρ₁ → (Str.ofString "k", TInt (i : Int)) ∈ ρ₁ → Ev (Fx.cx ⟨w, k + 2, s₀, callEnvC (fdAt 224) L 224, S⟩ S₁ ρ₁ ω₁) (.Subscript (.Name (Str.ofString "here") lp) (.Slice none (some (.Name (Str.ofString "k") ip)) none np) pos) (TStrs (here.take i)) := fun h1 h2 =>
        Ev.eq (Ev.upto (i := (i : Int)) (Ev.var h1) (Ev.var h2) i0 (by rw [List.length_map]; omega)) (by rw [Int.toNat_natCast, ← List.map_take])
      have efr : ∀ {S₁ : List Addr} {ρ₁ : List (Str × FP)} {ω₁ : List (Addr × OP)} {lp np pos ip cp bp : Pos} {ck : Nat}, (Str.ofString "here", TStrs here) ∈ ρ₁ → (Str.ofString "k", TInt (i : Int)) ∈ ρ₁ → Ev (Fx.cx ⟨w, k + 2, s₀, callEnvC (fdAt 224) L 224, S⟩ S₁ ρ₁ ω₁) (.Subscript (.Name (Str.ofString "here") lp) (.Slice (some (.BinOp (.Name (Str.ofString "k") ip) .Add (.Constant (.int 2) ck cp) bp)) none none np) pos) (TStrs (here.drop (i + 2))) := fun h1 h2 =>
        Ev.eq (Ev.from (i := ((i + 2 : Nat) : Int)) (Ev.var h1) (Ev.eq (Ev.bin (Ev.var h2) Ev.cint Op2.add_int) (by push_cast; rfl)) (by omega) (by rw [List.length_map]; omega)) (by rw [Int.toNat_natCast, ← List.map_drop])
      refine ex_assign (p := TBool (freeAt here i)) H₁ R (Ev.and (Ev.cmp (Ev.call (Ev.global rfl (g_217 _)) (.inl ⟨_, rfl, k_217 _⟩) (EvL.cons (Ev.var (by walk_at "mem")) (EvL.cons (eup (by walk_at "mem") (by walk_at "mem")) EvL.nil)) (fn_within w _ _ _ _ (by rw [List.length_take]; omega))) (Ev.list EvL.nil) (Op2.ne_lst eqS (ahead here i) [] (by decide)))
        fun _ => Ev.cmp (Ev.call (Ev.global rfl (g_217 _)) (.inl ⟨_, rfl, k_217 _⟩) (EvL.cons (Ev.var (by walk_at "mem")) (EvL.cons (efr (by walk_at "mem") (by walk_at "mem")) EvL.nil)) (fn_within w _ _ _ _ (by rw [List.length_drop]; omega))) (Ev.list EvL.nil) (Op2.ne_lst eqS (behind here i) [] (by decide))) (storeOk_of (by decide)) fun s₂ H₂ => ?_
      o_facts H₂
      refine ex_if (b := badAt ap ot here i) H₂ R (Tt.cmp (Ev.var (by walk_at "mem")) (Ev.and (Ev.cmp (Ev.var (by walk_at "mem")) (Ev.var (by walk_at "mem")) (Op2.in_lstB eqL (pairAt here i) ap (by decide))) fun _ => Ev.cmp (Ev.var (by walk_at "mem")) (Ev.var (by walk_at "mem")) (Op2.in_lstB eqL (pairAt here i) ot (by decide))) (Op2.ne_boolE rfl)) fun s₃ H₃ => ?_
      cases hb : badAt ap ot here i with
      | true =>
        refine ex_return (p := TRows []) H₃ R (Ev.list EvL.nil) fun v s' H' hp => ?_
        have hnone : ∀ j, i < j → inner ap ot here rows j = none := fun j hj => by
          induction j with
          | zero => omega
          | succ j ih =>
            unfold inner
            rcases Nat.lt_succ_iff_lt_or_eq.mp hj with h | rfl
            · rw [ih h]; rfl
            · rw [hin]; simp [hb]
        have e : reached o ap ot = [] := by rw [hbfs', hnone 5 hi]
        rw [e]
        exact H'.ret hp
      | false =>
        refine Run.nil ?_
        have hl6 := List.length_take_le i here
        refine ex_assign (p := TStrs (freshAt here i)) H₃ R (Ev.eq (Ev.bin (Ev.bin (eup (by walk_at "mem") (by walk_at "mem")) (Ev.rev (Ev.var (by walk_at "mem")) (by show 2 ≤ 100000; decide)) (Op2.add_lst (by rw [List.length_map, List.length_take]; show _ + 2 ≤ _; omega))) (efr (by walk_at "mem") (by walk_at "mem")) (Op2.add_lst (by rw [List.length_append, List.length_map, List.length_map, List.length_take, List.length_drop]; show _ + 2 + _ ≤ _; omega))) (by unfold freshAt; show _ = TLst (List.map TStr _); rw [List.map_append, List.map_append]; rfl)) (storeOk_of (by decide)) fun s₄ H₄ => ?_
        o_facts H₄
        have hin' : inner ap ot here rows (i + 1) = some (addAt here i R') := by
          unfold inner
          rw [hin]; simp [hb]
        have hok := addAt_ok hh6 hi hR'
        refine ex_if (b := freeAt here i && !memB (freshAt here i) R') H₄ R (Tt.and (Tt.of_bool (Ev.var (by walk_at "mem")) (fun _ _ => rfl)) fun _ => Tt.frozen (x := Str.ofString "reached") (by walk_at "mem") H₄.notS ?_) fun s₅ H₅ => ?_
        · simp only [drp, ofS_inj, String.reduceEq, if_false, if_true]
          exact Tt.cmp (Ev.var (by walk_at "mem")) (Ev.var (by walk_at "mem")) (Op2.notin_lstB eqL (freshAt here i) R' (by decide))
        · cases hc : (freeAt here i && !memB (freshAt here i) R') with
          | true =>
            refine ex_append (p := TStrs (freshAt here i)) H₅ R (by walk_at "mem") (Ev.var (by walk_at "mem")) (by rw [List.length_map]; omega) fun s₆ H₆ => ?_
            refine Run.nil (Run.nil ⟨addAt here i R', ⟨hin', hok.1, by omega⟩, ?_⟩)
            have e : (addAt here i R').map TStrs = R'.map TStrs ++ [TStrs (freshAt here i)] := by
              unfold addAt; rw [if_pos hc, List.map_append]; rfl
            rw [e]
            exact H₆.weak (by simp)
          | false =>
            refine Run.nil (Run.nil ⟨addAt here i R', ⟨hin', hok.1, by omega⟩, ?_⟩)
            have e : addAt here i R' = R' := by unfold addAt; rw [if_neg (by rw [hc]; decide)]
            rw [e]
            exact H₅.weak (by simp)
    · obtain ⟨hin, hR', hRl'⟩ := hP
      refine ex_aug H' R (by walk_at "mem") Ev.cint Op2.iadd_int (storeOk_of (by decide)) fun s₄ H₄ => ?_
      o_facts H₄
      refine Run.nil ⟨100 - (seen + 1), (seen + 1, R'), by omega, ⟨rfl, by omega, hR', by dsimp only; omega, ?_⟩, ?_⟩
      · rw [hbfs', hin]
        rw [show 101 - (seen + 1) = 100 - seen by omega]
      · exact H₄.weak (by simp)
  · obtain ⟨seen, rows⟩ := d
    obtain ⟨hn, h100, hR, hRl, hbfs⟩ := hp
    dsimp only at hn h100 hR hRl hbfs H' hm
    have e : reached o ap ot = rows := by
      rw [hbfs, show 101 - seen = (100 - seen) + 1 by omega]
      rw [bfs_succ, if_neg (by rw [hm]; decide)]
    rw [e]
    have H₂ := H'.freeze (x := Str.ofString "reached") (by walk_at "mem")
    o_facts H₂
    exact ex_return (p := TRows rows) H₂ R (Ev.var (by walk_at "mem")) fun v s' H' hp => H'.ret hp
end Mine
namespace Mine

/-- a dict from texts to texts, of the function's own -/
def ODict (w : World) (kvs : List (Str × Str)) : OP := ⟨fun _ o => ∃ l, o.IsDictOf (strKind PySem.Challenge.pw_rt0057_01 w) l ∧ KVs l kvs, fun _ h => h⟩
def put (kvs : List (Str × Str)) (k v : Str) : List (Str × Str) := if (kvs.any fun kv => decide (kv.1 = k)) = true then kvs.map (fun kv => if kv.1 = k then (kv.1, v) else kv) else kvs ++ [(k, v)]
theorem KVs.any {l es} (h : KVs l es) (k : Str) : (l.any fun kv => decide (kv.1 = k)) = es.any fun kv => decide (kv.1 = k) := by
  induction h with
  | nil => rfl
  | cons _ ih => rw [List.any_cons, List.any_cons, ih]
theorem KVs.mapPut {l es} (h : KVs l es) (k v : Str) (t : Tok) : KVs (l.map fun kv => if kv.1 = k then (kv.1, .str v t) else kv) (es.map fun kv => if kv.1 = k then (kv.1, v) else kv) := by
  induction h with
  | nil => exact .nil
  | @cons k' v' t' l es _ ih =>
    rw [List.map_cons, List.map_cons]
    by_cases e : k' = k
    · simp only [e, if_true]; exact .cons ih
    · simp only [e, if_false]; exact .cons ih
theorem KVs.snoc {l es} (h : KVs l es) (k v : Str) (t : Tok) : KVs (l ++ [(k, .str v t)]) (es ++ [(k, v)]) := by
  induction h with
  | nil => exact .cons .nil
  | cons _ ih => exact .cons ih
theorem KVs.stored {l es} (h : KVs l es) (k v : Str) (t : Tok) : KVs (PySem.stored l k (.str v t)) (put es k v) := by
  unfold PySem.stored put
  rw [h.any]
  split
  · exact h.mapPut k v t
  · exact h.snoc k v t
theorem KVs.length {l es} (h : KVs l es) : l.length = es.length := by
  induction h with
  | nil => rfl
  | cons _ ih => simp [ih]
theorem put_length (es : List (Str × Str)) (k v : Str) : (put es k v).length ≤ es.length + 1 := by
  unfold put
  split
  · rw [List.length_map]; omega
  · rw [List.length_append]; exact Nat.le_refl _

section
variable {F : Fx} {hK : Heap} {S₀ : List Addr} {ρ ρ' : List (Str × FP)} {ω ω' : List (Addr × OP)} {s s' : Shared} {A : Around} {Q : Flow → Shared → Prop} {p q r : FP} {e i l x' : Expr} {pos apos epos lpos np px py tpos p1 p2 p3 : Pos} {rest body : List Stmt} {d : Addr} {x y : Str} {kvs : List (Str × Str)} {k v : Str}

theorem Op2.in_dict (hd : (d, ODict F.w kvs) ∈ ω) (hs : (d == sysModules) = false) : Op2 (F.cx S₀ ρ ω) (compareOp .In) (TStr k) (TRef d) (TBool (kvs.lookup k).isSome) := .mk fun A s v u R X ⟨t, hv⟩ hu => by
  cases hv; cases hu
  obtain ⟨o, o1, l, o2, o3⟩ := X.own _ hd
  refine wpAny_in_of (knd := strKind PySem.Challenge.pw_rt0057_01 F.w) (strKind_is _ _ _ _) hs (Heap.DictOf.mapOf (Heap.dictOf_iff.mpr ⟨o, o1, o2⟩)) ⟨Kp.toks, ?_⟩
  show Value.bool _ = .bool _
  have := o3.at k
  cases e : kvs.lookup k with
  | none => rw [e] at this; rw [this]; rfl
  | some y => rw [e] at this; obtain ⟨t', h⟩ := this; rw [h]; rfl
theorem Ev.dict_item (ho : Ev (F.cx S₀ ρ ω) l (TRef d)) (hi : Ev (F.cx S₀ ρ ω) i (TStr k)) (hd : (d, ODict F.w kvs) ∈ ω) (hv : kvs.lookup k = some v)
    (hs : ∀ o u, ∃ ops, subscripted i false o u = operate ops (getItem o u) := by intro _ _; exact ⟨_, rfl⟩) : Ev (F.cx S₀ ρ ω) (.Subscript l i pos) (TStr v) := .mk fun A s R X =>
  Subscript_ ((ho.go A s R X).use fun ov s₁ k₁ a' => ((hi.go A s₁ R (X.keeps k₁)).use fun u s₂ k₂ b => by
    obtain ⟨ops, hs⟩ := hs ov u
    cases a'
    obtain ⟨t, rfl⟩ := b
    obtain ⟨o, o1, l, o2, o3⟩ := (X.keeps (Kp.trans' k₁ k₂)).own _ hd
    have hm := Heap.DictOf.mapOf (Heap.dictOf_iff.mpr ⟨o, o1, o2⟩)
    have := o3.at k
    rw [hv] at this
    obtain ⟨t', h⟩ := this
    exact tail_any hm.typeIs slot_dict_getitem.lookup (wpAny_getItem_of (knd := strKind PySem.Challenge.pw_rt0057_01 F.w) (strKind_is _ _ _ _) hm h ⟨Kp.trans' (Kp.trans' k₁ k₂) Kp.toks, _, rfl⟩) hs))

/-- l[i] = e, l an own dict -/
theorem ex_setdictF (H : Fs F hK S₀ ρ ω s) (R : Room F.k A) (he : Ev (F.cx S₀ ρ ω) e (TStr v)) (ho : Ev (F.cx S₀ ρ ω) l (TRef d)) (hi : Ev (F.cx S₀ ρ ω) i (TStr k)) (hd : (d, ODict F.w kvs) ∈ ω) (hz : kvs.length ≤ 10000)
    (hw : ω'.map (·.1) = ω.map (·.1)) (hω : ∀ aq ∈ ω', aq = (d, ODict F.w (put kvs k v)) ∨ (aq ∈ ω ∧ aq.1 ≠ d))
    (kk : ∀ s', Fs F hK S₀ ρ ω' s' → wpAny (MM F.w) A (execs rest F.env) Q NoE s')
    (hs : swapsWith e (some (.Subscript l i lpos)) pos.line F.env = pure false := by rfl) : wpAny (MM F.w) A (execs (.Assign [.Subscript l i lpos] e pos :: rest) F.env) Q NoE s := by
  refine wpAny_execs_cons (wpAny_Assign_Subscript ?_ hs)
  refine H.ev R he fun u s₁ H₁ hu => H₁.ev R ho fun ov s₂ H₂ hov => H₂.ev R hi fun iv s₃ H₃ hiv => ?_
  obtain ⟨t, rfl⟩ := hu
  obtain ⟨t', rfl⟩ := hiv
  cases hov
  obtain ⟨o, o1, l, o2, o3⟩ := H₃.owns _ hd
  have hD : s₃.heap.DictOf (strKind PySem.Challenge.pw_rt0057_01 F.w) d l := Heap.dictOf_iff.mpr ⟨o, o1, o2⟩
  refine wpAny_setItem_pairs (hsz := by rw [o3.length, sizeLine_eq]; omega) (strKind_is _ _ _ _) hD fun h' hd' hs' => ?_
  obtain ⟨o', e1, e2⟩ := Heap.dictOf_iff.mp hd'
  exact kk _ (H₃.mut (O' := ODict F.w (put kvs k v)) (t := s₃.toks + 1) (List.mem_map.mpr ⟨_, hd, rfl⟩) hw hω hs' (Nat.le_succ _) ⟨o', e1, _, e2, o3.stored k v t⟩)

theorem notSys (H : Fs F hK S₀ ρ ω s) : (s.heap.objs.size == sysModules) = false := by
  have h3 : s.heap.objs.size ≠ sysModules := fun q => by
    obtain ⟨oc, od, sl, lk⟩ := (def_28 F.w).look
    have := Heap.lt_size (H.base.kin _ _ lk)
    rw [q] at this
    exact absurd this (by decide)
  simpa using h3
theorem push_dict (H : Fs F hK S₀ ρ ω s) : Fs F hK S₀ ρ ((s.heap.objs.size, ODict F.w []) :: ω) { s with heap := s.heap.push { cls := .type "dict", data := .dict #[] } } :=
  H.own_push rfl (by
    have h := Heap.DictOf.new (knd := strKind PySem.Challenge.pw_rt0057_01 F.w) s.heap
    obtain ⟨o, e1, e2⟩ := Heap.dictOf_iff.mp h
    rw [Heap.get?_push_size _ rfl] at e1
    cases e1
    exact ⟨_, e2, .nil⟩)

/-- x = [{}, {}, {}] -/
theorem ex_sonsF (H : Fs F hK S₀ ρ ω s) (hx : StoreOk F.env x)
    (kk : ∀ d0 d1 d2 s', (d0 == sysModules) = false → (d1 == sysModules) = false → (d2 == sysModules) = false → Fs F hK S₀ ((x, TLst [TRef d0, TRef d1, TRef d2]) :: drp x ρ) ((d2, ODict F.w []) :: (d1, ODict F.w []) :: (d0, ODict F.w []) :: ω) s' → wpAny (MM F.w) A (execs rest F.env) Q NoE s')
    (hs : swapsWith (.List [.Dict [] [] p1, .Dict [] [] p2, .Dict [] [] p3] lpos) (some (.Name x px)) pos.line F.env = pure false := by rfl) :
    wpAny (MM F.w) A (execs (.Assign [.Name x px] (.List [.Dict [] [] p1, .Dict [] [] p2, .Dict [] [] p3] lpos) pos :: rest) F.env) Q NoE s := by
  refine wpAny_execs_cons (wpAny_Assign_Name ?_ hs)
  have n0 := notSys H
  have H₁ := push_dict H
  have n1 := notSys H₁
  have H₂ := push_dict H₁
  have n2 := notSys H₂
  have H₃ := push_dict H₂
  refine List_ ?_
  show wpAny _ _ (spliced [(false, eval (.Dict [] [] p1) F.env), (false, eval (.Dict [] [] p2) F.env), (false, eval (.Dict [] [] p3) F.env)]) _ _ _
  refine spliced_cons (wpAny_Dict_empty (spliced_cons (wpAny_Dict_empty (spliced_cons (wpAny_Dict_empty (spliced_nil ?_))))))
  refine wpAny_newObj_type ?_ (by show (3 : Nat) ≤ sizeLine; decide)
  have H₄ := H₃.step (Kp.mk' (push_sub _ { cls := .type "list", dict := none, data := .seq [.ref s.heap.objs.size, .ref (s.heap.push { cls := .type "dict", data := .dict #[] }).objs.size, .ref ((s.heap.push { cls := .type "dict", data := .dict #[] }).push { cls := .type "dict", data := .dict #[] }).objs.size].toArray }) (t := s.toks))
  refine H₄.store hx (p := TLst [TRef _, TRef _, TRef _]) ?_ fun s'' H'' => kk _ _ _ s'' n0 n1 n2 H''
  exact ⟨_, _, rfl, ⟨_, hide_push H₃.live rfl, rfl, _, rfl⟩, .cons rfl (.cons rfl (.cons rfl .nil))⟩
end
end Mine
namespace Mine
def OIs (o : Obj) : OP := ⟨fun _ o' => o' = o, fun _ h => h⟩
section
variable {F : Fx} {hK : Heap} {S₀ : List Addr} {ρ ρ' : List (Str × FP)} {ω ω' : List (Addr × OP)} {s s' : Shared} {A : Around} {Q : Flow → Shared → Prop} {a : Addr} {O O' : OP}
theorem Fs.reown (H : Fs F hK S₀ ρ ((a, O) :: ω) s) (h : ∀ o, s.heap.get? a = some o → O.holds (hideAll s.heap (F.S S₀ ((a, O) :: ω))) o → O'.holds (hideAll s.heap (F.S S₀ ((a, O) :: ω))) o) : Fs F hK S₀ ρ ((a, O') :: ω) s :=
  { H with owns := (fun aq ha => by
      rcases List.mem_cons.mp ha with rfl | ha
      · obtain ⟨o, e1, e2⟩ := H.owns (a, O) (.head _)
        exact ⟨o, e1, h o e1 e2⟩
      · exact H.owns aq (.tail _ ha)) }

/-- for x in l, l an own list that the body leaves alone -/
theorem ex_forOF {D : Type} {ps : List FP} {q : Nat → FP} {x l : Str} {px lp pos : Pos} {body rest : List Stmt} (Pd : Nat → D → Prop) (ρf : Nat → D → List (Str × FP)) (ωf : Nat → D → List (Addr × OP)) (d₀ : D)
    (H : Fs F hK S₀ (ρf 0 d₀) ((a, OLst ps) :: ωf 0 d₀) s) (R : Room F.k A) (hd : Pd 0 d₀) (hl : (l, TRef a) ∈ ρf 0 d₀) (hq : ∀ i p, ps[i]? = some p → p = q i) (hx : StoreOk F.env x) (hω : ∀ i d, (ωf i d).map (·.1) = (ωf 0 d₀).map (·.1))
    (turn : ∀ i d o hK' S' s', i < ps.length → Pd i d → Fs F hK' S' ((x, q i) :: drp x (ρf i d)) ((a, OIs o) :: ωf i d) s' →
      wpAny (MM F.w) A (execs body F.env) (fun f s'' => match f with
        | .next | .cont => ∃ d', Pd (i + 1) d' ∧ Fs F hK' S' (ρf (i + 1) d') ((a, OIs o) :: ωf (i + 1) d') s''
        | .brk => False
        | .ret v => Q (.ret v) s'') NoE s')
    (fin : ∀ d s', Pd ps.length d → Fs F hK S₀ (ρf ps.length d) ((a, OLst ps) :: ωf ps.length d) s' → wpAny (MM F.w) A (execs rest F.env) Q NoE s')
    (hdb : (l == ("__debug__" : Str)) = false := by decide)
    (hs : ∀ x, foldedSetIterable (.Name l lp) F.env x = pure x := by intro _; rfl) :
    wpAny (MM F.w) A (execs (.For (.Name x px) (.Name l lp) body [] pos :: rest) F.env) Q NoE s := by
  refine wpAny_execs_cons (wpAny_For ?_ hs)
  refine wpAny_mono ((Ev.var (C := F.cx S₀ (ρf 0 d₀) ((a, OLst ps) :: ωf 0 d₀)) hl hdb).go A s R H.xs) (fun lv s₁ ⟨k₁, hlv⟩ => ?_) fun _ _ x => x
  cases hlv
  have H₁ := H.step k₁
  obtain ⟨vs, ⟨nn, o1⟩, hA⟩ := H₁.own1
  have hL : s₁.heap.IsList a vs := ⟨_, o1, rfl, _, rfl⟩
  have hlen := hA.length
  rw [Array.length_toList] at hlen
  refine wpAny_pyIter_list hL ?_
  generalize hob : ({ cls := .type "list", data := .seq vs nn } : Obj) = ob at o1
  have H₁' : Fs F hK S₀ (ρf 0 d₀) ((a, OIs ob) :: ωf 0 d₀) s₁ := H₁.reown (O' := OIs ob) fun o e _ => by rw [o1] at e; cases e; rfl
  have fr : s₁.heap.get? s₁.heap.objs.size = none := fresh_size _ _ (Nat.le_refl _)
  have hne : a ≠ s₁.heap.objs.size := fun e => by rw [e, fr] at o1; cases o1
  have W := Walks.list (prog := PySem.Challenge.pw_rt0057_01) (w := F.w) R.han s₁.heap.objs.size a hne vs
  generalize hI : s₁.heap.objs.size = It at *
  generalize hh2 : s₁.heap.push _ = h₂
  have k23 : Sub s₁.heap h₂ := hh2 ▸ push_sub _ _
  have hit : h₂.IsListIter It a 0 := by rw [← hh2, ← hI]; exact ⟨_, Heap.get?_push_size _ rfl, rfl, rfl⟩
  let wr : List Addr := [It]
  have hwr : ∀ b ∈ wr, s₁.heap.get? b = none := fun b hb => by
    simp only [wr, List.mem_cons, List.mem_nil_iff, or_false] at hb
    subst hb; exact fr
  have fresh0 : ∀ b ∈ wr, hK.get? b = none ∧ F.s₀.heap.get? b = none := fun b hb => by
    have h := hwr b hb
    constructor
    · cases e : hK.get? b with
      | none => rfl
      | some o => have := H₁.keep b o e; rw [h] at this; cases this
    · cases e : F.s₀.heap.get? b with
      | none => rfl
      | some o => have := keeps_sub H₁.same b o e; rw [h] at this; cases this
  let ωg : Nat → D → List (Addr × OP) := fun i d => (a, OIs ob) :: ωf i d
  have hωg : ∀ i d, (ωg i d).map (·.1) = (ωg 0 d₀).map (·.1) := fun i d => by simp only [ωg, List.map_cons, hω i d]
  have owS : ∀ b, b ∈ F.own ++ (ωg 0 d₀).map (·.1) → b ∈ F.S S₀ (ωg 0 d₀) := fun b hm => by
    unfold Fx.S
    rcases List.mem_append.mp hm with h | h
    · exact List.mem_append_left _ h
    · exact List.mem_append_right _ (List.mem_append_left _ h)
  have own : ∀ b ∈ wr, b ∉ F.own ++ (ωg 0 d₀).map (·.1) := fun b hb hm => by
    obtain ⟨o, e⟩ := H₁'.live b (owS b hm)
    rw [hwr b hb] at e; cases e
  have H₂ : Fs F hK (wr ++ S₀) (ρf 0 d₀) (ωg 0 d₀) { s₁ with heap := h₂ } := H₁'.hideMore (Kp.mk' (t := s₁.toks) k23) (S₁ := wr) (fun b hb => by
    simp only [wr, List.mem_cons, List.mem_nil_iff, or_false] at hb
    subst hb; obtain ⟨o, ho, _⟩ := hit; exact ⟨o, ho⟩) hwr
  have back : ∀ {s' : Shared} {ρ ω}, Fs F hK (wr ++ S₀) ρ ω s' → Fs F hK S₀ ρ ω s' := fun h => h.showMore (fun a ha => List.mem_append_right _ ha) H.sc
  -- the list's items, whatever came since
  have items : ∀ (h : Heap), (∀ b o, b ∉ wr ++ (F.own ++ (ωg 0 d₀).map (·.1)) → s₁.heap.get? b = some o → h.get? b = some o) → Sub (hideAll s₁.heap (F.S S₀ ((a, OLst ps) :: ωf 0 d₀))) (hideAll h (F.S (wr ++ S₀) (ωg 0 d₀))) := fun h hk => hide_sub (fun b o hb e => hk b o (fun hm => by
      rcases List.mem_append.mp hm with h | h
      · rw [hwr b h] at e; cases e
      · exact hb (owS b h)) e) fun b ha hn => by
    unfold Fx.S at ha
    simp only [List.mem_append] at ha
    rcases ha with h | h | h | h
    · exact absurd (List.mem_append_left _ h) hn
    · exact absurd (List.mem_append_right _ (List.mem_append_left _ h)) hn
    · exact hwr b h
    · exact absurd (List.mem_append_right _ (List.mem_append_right _ h)) hn
  have lstAt : ∀ {ρ' : List (Str × FP)} {i : Nat} {d : D} {h : Addr → Heap} {hk S' : _} {s' : Shared}, Fs F hk S' ρ' (ωg i d) s' → s'.heap.IsList a vs := fun {ρ' i d h hk S' s'} H' => by
    obtain ⟨o, e1, e2⟩ := H'.owns (a, OIs ob) (.head _)
    cases e2
    rw [← hob] at e1
    exact ⟨_, e1, rfl, _, rfl⟩
  refine codeAny_forLoop (fun m s' => ∃ i d, m = ps.length - i ∧ i ≤ ps.length ∧ Pd i d ∧ Fs F hK (wr ++ S₀) (ρf i d) (ωg i d) s' ∧ s'.heap.IsListIter It a i ∧
      (∀ b o, b ∉ wr ++ (F.own ++ (ωg 0 d₀).map (·.1)) → s₁.heap.get? b = some o → s'.heap.get? b = some o)) ?_ ps.length
    ⟨0, d₀, rfl, Nat.zero_le _, hd, H₂, hit, fun b o _ e => k23 b o e⟩
  rintro m s' ⟨i, d, rfl, hi, hpd, H', hst', hk'⟩
  have ownd : ∀ b ∈ wr, b ∉ F.own ++ (ωg i d).map (·.1) := fun b hb => by rw [hωg]; exact own b hb
  have hls := lstAt (h := fun _ => s'.heap) H'
  rcases Nat.lt_or_ge i ps.length with hlt | hge
  · refine wpAny_with_toks (Nat.le_refl _) (W.item i s' _ _ (by rw [hlen]; exact hlt) ⟨hst', hls⟩ fun v h' tk hv hst'' hkk => ?_)
    intro htk
    have H₃ := H'.turn (h' := h') (t := tk) (fun b hb => List.mem_append_left _ hb) fresh0 ownd (fun b hb => by
      simp only [wr, List.mem_cons, List.mem_nil_iff, or_false] at hb
      subst hb; obtain ⟨⟨o, ho, _⟩, _⟩ := hst''; exact ⟨o, ho⟩) (fun b o hb e => hkk b o hb e) htk
    refine noE (wpAny_assign_Name (H₃.rebase.store hx (p := q i) ?_ fun s₄ H₄ => noE (wpAny_mono (turn i d ob _ _ s₄ hlt hpd H₄) (fun f s₅ hf => ?_) fun _ _ x => x)))
    · obtain ⟨p, hp', hh⟩ := hA.get' i (by simpa using hv)
      rw [← hq i p hp']
      have := p.stab (items h' fun b o hb e => hkk b o (fun hm => hb (List.mem_append_left _ hm)) (hk' b o hb e)) hh
      unfold Fx.S at this ⊢
      rw [hωg]
      exact this
    · have step : ∀ {ρ'} (i' : Nat) (d' : D), Fs F (hideAll h' (F.own ++ (ωg i d).map (·.1))) (wr ++ S₀) ρ' (ωg i' d') s₅ → Fs F hK (wr ++ S₀) ρ' (ωg i' d') s₅ := fun i' d' h => H₃.unbase (hK' := hK) (by rw [hωg i d, hωg i' d']) h
      have kept : ∀ {ρ' ω'}, Fs F (hideAll h' (F.own ++ (ωg i d).map (·.1))) (wr ++ S₀) ρ' ω' s₅ → ∀ b o, b ∉ F.own ++ (ωg 0 d₀).map (·.1) → h'.get? b = some o → s₅.heap.get? b = some o := fun h b o hb e => h.keep b o ((hide_get ..).2 ⟨e, by rw [hωg]; exact hb⟩)
      have next : ∀ d', Pd (i + 1) d' → Fs F (hideAll h' (F.own ++ (ωg i d).map (·.1))) (wr ++ S₀) (ρf (i + 1) d') (ωg (i + 1) d') s₅ → ∃ m, m < ps.length - i ∧ ∃ i d, m = ps.length - i ∧ i ≤ ps.length ∧ Pd i d ∧ Fs F hK (wr ++ S₀) (ρf i d) (ωg i d) s₅ ∧ s₅.heap.IsListIter It a i ∧
          (∀ b o, b ∉ wr ++ (F.own ++ (ωg 0 d₀).map (·.1)) → s₁.heap.get? b = some o → s₅.heap.get? b = some o) := fun d' hp' h =>
        ⟨ps.length - (i + 1), by omega, i + 1, d', rfl, hlt, hp', step _ _ h, hst''.1.at fun o e => kept h It o (own _ (by simp [wr])) e,
          fun b o hb e => kept h b o (fun hm => hb (List.mem_append_right _ hm)) (hkk b o (fun hm => hb (List.mem_append_left _ hm)) (hk' b o hb e))⟩
      cases f with
      | ret v => exact hf
      | brk => exact hf.elim
      | next => obtain ⟨d', hp', h⟩ := hf; exact next d' hp' h
      | cont => obtain ⟨d', hp', h⟩ := hf; exact next d' hp' h
  · obtain rfl : i = ps.length := Nat.le_antisymm hi hge
    refine wpAny_with_toks (Nat.le_refl _) (W.done s' _ _ (by rw [hlen]; exact ⟨hst', hls⟩) fun h' tk hkk => ?_)
    intro htk
    have H₃ := H'.turnShow (h' := h') (t := tk) H.sc (fun b hb hm => by
      obtain ⟨o, e⟩ := H₁.live b (List.mem_append_right _ (List.mem_append_right _ hm))
      rw [hwr b hb] at e; cases e) fresh0 ownd (fun b o hb e => hkk b o hb e) htk
    have hsub := items h' fun b o hb e => hkk b o (fun hm => hb (List.mem_append_left _ hm)) (hk' b o hb e)
    have H₄ : Fs F hK S₀ (ρf ps.length d) ((a, OLst ps) :: ωf ps.length d) { s' with heap := h', toks := tk } := H₃.reown (O' := OLst ps) fun o e1 e2 => by
      cases e2
      refine ⟨nn, vs, hob.symm, (hA.stab hsub).stab (hide_sub (fun _ _ _ e => e) fun b hb hn => absurd ?_ hn)⟩
      unfold Fx.S at hb ⊢
      rw [show ((a, OIs ob) :: ωf ps.length d).map (·.1) = (ωg 0 d₀).map (·.1) from hωg _ _] at hb
      simp only [List.mem_append] at hb ⊢
      rcases hb with h | h | h
      · exact .inl h
      · exact .inr (.inl h)
      · exact .inr (.inr (.inr h))
    exact noE (wpAny_execs_nil (fin d _ hpd H₄))
end
section
variable {w : World} {k : Nat} {s₀ : Shared} {env : Env} {Sc : List Addr} {hK : Heap} {S₀ : List Addr} {s s' : Shared} {A : Around} {Q : Flow → Shared → Prop} {a : Addr} {ρ : List (Str × FP)} {ω ω' : List (Addr × OP)} {e i l : Expr} {pos lpos px p1 p2 p3 : Pos} {rest : List Stmt} {d : Addr} {x : Str} {kvs : List (Str × Str)} {kk vv : Str}
theorem ex_forO {D : Type} {ps : List FP} {q : Nat → FP} {x l : Str} {px lp pos : Pos} {body rest : List Stmt} (Pd : Nat → D → Prop) (ρf : Nat → D → List (Str × FP)) (ωf : Nat → D → List (Addr × OP)) (d₀ : D)
    (H : Fs ⟨w, k, s₀, env, Sc⟩ hK S₀ (ρf 0 d₀) ((a, OLst ps) :: ωf 0 d₀) s) (R : Room k A) (hd : Pd 0 d₀) (hl : (l, TRef a) ∈ ρf 0 d₀) (hq : ∀ i p, ps[i]? = some p → p = q i) (hx : StoreOk env x) (hω : ∀ i d, (ωf i d).map (·.1) = (ωf 0 d₀).map (·.1))
    (turn : ∀ i d o hK' S' s', i < ps.length → Pd i d → Fs ⟨w, k, s₀, env, Sc⟩ hK' S' ((x, q i) :: drp x (ρf i d)) ((a, OIs o) :: ωf i d) s' →
      Run w A (execs body env) (fun f s'' => match f with
        | .next | .cont => ∃ d', Pd (i + 1) d' ∧ Fs ⟨w, k, s₀, env, Sc⟩ hK' S' (ρf (i + 1) d') ((a, OIs o) :: ωf (i + 1) d') s''
        | .brk => False
        | .ret v => Q (.ret v) s'') s')
    (fin : ∀ d s', Pd ps.length d → Fs ⟨w, k, s₀, env, Sc⟩ hK S₀ (ρf ps.length d) ((a, OLst ps) :: ωf ps.length d) s' → Run w A (execs rest env) Q s')
    (hdb : (l == ("__debug__" : Str)) = false := by decide)
    (hs : ∀ x, foldedSetIterable (.Name l lp) env x = pure x := by intro _; rfl) :
    Run w A (execs (.For (.Name x px) (.Name l lp) body [] pos :: rest) env) Q s :=
  ⟨ex_forOF Pd ρf ωf d₀ H R hd hl hq hx hω (fun i d o hK' S' s' h1 h2 h3 => (turn i d o hK' S' s' h1 h2 h3).go) (fun d s' h1 h2 => (fin d s' h1 h2).go) hdb hs⟩
theorem ex_setdict (H : Fs ⟨w, k, s₀, env, Sc⟩ hK S₀ ρ ω s) (R : Room k A) (he : Ev (Fx.cx ⟨w, k, s₀, env, Sc⟩ S₀ ρ ω) e (TStr vv)) (ho : Ev (Fx.cx ⟨w, k, s₀, env, Sc⟩ S₀ ρ ω) l (TRef d)) (hi : Ev (Fx.cx ⟨w, k, s₀, env, Sc⟩ S₀ ρ ω) i (TStr kk)) (hd : (d, ODict w kvs) ∈ ω) (hz : kvs.length ≤ 10000)
    (hw : ω'.map (·.1) = ω.map (·.1)) (hω : ∀ aq ∈ ω', aq = (d, ODict w (put kvs kk vv)) ∨ (aq ∈ ω ∧ aq.1 ≠ d))
    (kont : ∀ s', Fs ⟨w, k, s₀, env, Sc⟩ hK S₀ ρ ω' s' → Run w A (execs rest env) Q s')
    (hs : swapsWith e (some (.Subscript l i lpos)) pos.line env = pure false := by rfl) : Run w A (execs (.Assign [.Subscript l i lpos] e pos :: rest) env) Q s :=
  ⟨ex_setdictF H R he ho hi hd hz hw hω (fun s' H' => (kont s' H').go) hs⟩
theorem ex_sons (H : Fs ⟨w, k, s₀, env, Sc⟩ hK S₀ ρ ω s) (hx : StoreOk env x)
    (kont : ∀ d0 d1 d2 s', (d0 == sysModules) = false → (d1 == sysModules) = false → (d2 == sysModules) = false → Fs ⟨w, k, s₀, env, Sc⟩ hK S₀ ((x, TLst [TRef d0, TRef d1, TRef d2]) :: drp x ρ) ((d2, ODict w []) :: (d1, ODict w []) :: (d0, ODict w []) :: ω) s' → Run w A (execs rest env) Q s')
    (hs : swapsWith (.List [.Dict [] [] p1, .Dict [] [] p2, .Dict [] [] p3] lpos) (some (.Name x px)) pos.line env = pure false := by rfl) :
    Run w A (execs (.Assign [.Name x px] (.List [.Dict [] [] p1, .Dict [] [] p2, .Dict [] [] p3] lpos) pos :: rest) env) Q s :=
  ⟨ex_sonsF H hx (fun d0 d1 d2 s' h0 h1 h2 H' => (kont d0 d1 d2 s' h0 h1 h2 H').go) hs⟩
end
end Mine
namespace Mine

/-! ### _law_grown -/
abbrev Sons := Nat → List (Str × Str)
def wstep (M : Sons) (name : Str) (ps : Str × Int) : Str × Int := match (M (ps.2 + 1).toNat).lookup ps.1 with | some p => (p, cmp3 name (baseP p)) | none => ps
def wrun (M : Sons) (name : Str) : Nat → Str × Int
  | 0 => (slash, 0)
  | n + 1 => wstep M name (wrun M name n)
def gplace (st : Sons × List Str) (name : Str) : Str := joinP (wrun st.1 name st.2.length).1 name
def gsons (st : Sons × List Str) (name : Str) : Sons := fun j => if j = ((wrun st.1 name st.2.length).2 + 1).toNat then put (st.1 j) (wrun st.1 name st.2.length).1 (gplace st name) else st.1 j
def gstep (st : Sons × List Str) (name : Str) : Sons × List Str := (gsons st name, st.2 ++ [gplace st name])
def gAt (o : List Str) (i : Nat) : Sons × List Str := (o.take i).foldl gstep (fun _ => [], [])
def grown (o : List Str) : List Str := sortS (o.foldl gstep (fun _ => [], [])).2

theorem gAt_succ {o : List Str} {i : Nat} (h : i < o.length) : gAt o (i + 1) = gstep (gAt o i) (o.getD i default) := foldl_take _ _ _ _ _ h
theorem cmp3_bounds (x y : Str) : -1 ≤ cmp3 x y ∧ cmp3 x y ≤ 1 := by
  unfold cmp3
  cases slt y x <;> cases slt x y <;> decide
def Fits (n : Nat) (M : Sons) : Prop := ∀ j, (M j).length ≤ n ∧ ∀ kv ∈ M j, kv.2.length ≤ 1 + 101 * n
theorem lookup_mem {k v : Str} : ∀ {l : List (Str × Str)}, l.lookup k = some v → (k, v) ∈ l
  | (a, b) :: l, h => by
    rw [List.lookup_cons] at h
    cases e : k == a with
    | true => rw [e] at h; cases h; rw [show k = a by simpa using e]; exact .head _
    | false => rw [e] at h; exact .tail _ (lookup_mem h)
theorem wrun_ok {M : Sons} {n : Nat} (h : Fits n M) (name : Str) (t : Nat) : (wrun M name t).1.length ≤ 1 + 101 * n ∧ -1 ≤ (wrun M name t).2 ∧ (wrun M name t).2 ≤ 1 := by
  induction t with
  | zero => exact ⟨by show slash.length ≤ _; have : slash.length = 1 := by decide
                      omega, (show (-1 : Int) ≤ 0 by decide), (show (0 : Int) ≤ 1 by decide)⟩
  | succ t ih =>
    unfold wrun wstep
    cases e : (M ((wrun M name t).2 + 1).toNat).lookup (wrun M name t).1 with
    | none => exact ih
    | some p => exact ⟨(h _).2 _ (lookup_mem e), (cmp3_bounds _ _).1, (cmp3_bounds _ _).2⟩
theorem joinP_len (a b : Str) : (joinP a b).length ≤ a.length + 1 + b.length := by
  have h1 : (Str.ofString "/").length = 1 := by decide
  unfold joinP
  split
  · omega
  · split
    · rw [Str.length_append]; omega
    · rw [Str.length_append, Str.length_append]; omega
theorem put_mem {es : List (Str × Str)} {k v : Str} {n : Nat} (h : ∀ kv ∈ es, kv.2.length ≤ n) (hv : v.length ≤ n) : ∀ kv ∈ put es k v, kv.2.length ≤ n := fun kv hkv => by
  unfold put at hkv
  split at hkv
  · obtain ⟨x, hx, rfl⟩ := List.mem_map.mp hkv
    split
    · exact hv
    · exact h x hx
  · rcases List.mem_append.mp hkv with hk | hk
    · exact h kv hk
    · rw [List.mem_singleton] at hk; subst hk; exact hv
theorem gstep_ok {st : Sons × List Str} {n : Nat} {name : Str} (h : Fits n st.1) (hn : name.length ≤ 100) : Fits (n + 1) (gstep st name).1 ∧ (gplace st name).length ≤ 1 + 101 * (n + 1) := by
  have hw := wrun_ok h name st.2.length
  have hp : (gplace st name).length ≤ 1 + 101 * (n + 1) := by
    have := joinP_len (wrun st.1 name st.2.length).1 name
    unfold gplace
    omega
  refine ⟨fun j => ?_, hp⟩
  show ((gsons st name) j).length ≤ _ ∧ ∀ kv ∈ gsons st name j, _
  unfold gsons
  have hj := h j
  split
  · exact ⟨Nat.le_trans (put_length ..) (Nat.succ_le_succ hj.1), put_mem (fun kv hkv => Nat.le_trans (hj.2 kv hkv) (by omega)) hp⟩
  · exact ⟨Nat.le_succ_of_le hj.1, fun kv hkv => Nat.le_trans (hj.2 kv hkv) (by omega)⟩
theorem gAt_ok {o : List Str} (h : ∀ x ∈ o, x.length ≤ 100) : ∀ i, i ≤ o.length → Fits i (gAt o i).1 ∧ (gAt o i).2.length = i
  | 0, _ => ⟨fun j => ⟨Nat.le_refl _, fun kv hkv => nomatch hkv⟩, rfl⟩
  | i + 1, hi => by
    have ih := gAt_ok h i (by omega)
    rw [gAt_succ hi]
    refine ⟨(gstep_ok ih.1 (h _ (getD_mem hi))).1, ?_⟩
    show ((gAt o i).2 ++ [_]).length = _
    rw [List.length_append, ih.2]; rfl

def dd (d0 d1 d2 : Addr) (j : Nat) : Addr := if j = 0 then d0 else if j = 1 then d1 else d2
abbrev sonsω (w : World) (d0 d1 d2 : Addr) (M : Sons) : List (Addr × OP) := [(d2, ODict w (M 2)), (d1, ODict w (M 1)), (d0, ODict w (M 0))]
theorem sons_mem {w : World} {d0 d1 d2 : Addr} {M : Sons} {j : Nat} (hj : j < 3) (x : Addr × OP) : (dd d0 d1 d2 j, ODict w (M j)) ∈ x :: sonsω w d0 d1 d2 M := by
  match j, hj with
  | 0, _ => simp [dd]
  | 1, _ => simp [dd]
  | 2, _ => simp [dd]
theorem sons_at (d0 d1 d2 : Addr) {j : Nat} (hj : j < 3) : [TRef d0, TRef d1, TRef d2][j]? = some (TRef (dd d0 d1 d2 j)) := by
  match j, hj with
  | 0, _ => rfl
  | 1, _ => rfl
  | 2, _ => rfl
theorem sons_upd {w : World} {d0 d1 d2 a : Addr} {O : OP} {M : Sons} {j : Nat} (hj : j < 3) (hn : (((a, O) :: sonsω w d0 d1 d2 M).map (·.1)).Nodup) (k v : Str) :
    ∀ aq ∈ (a, O) :: sonsω w d0 d1 d2 (fun i => if i = j then put (M i) k v else M i), aq = (dd d0 d1 d2 j, ODict w (put (M j) k v)) ∨ (aq ∈ (a, O) :: sonsω w d0 d1 d2 M ∧ aq.1 ≠ dd d0 d1 d2 j) := by
  simp only [List.map_cons, List.map_nil, List.nodup_cons, List.mem_cons, List.mem_nil_iff, or_false, not_or, List.nodup_nil, and_true, not_false_eq_true] at hn
  obtain ⟨⟨n1, n2, n3⟩, ⟨n4, n5⟩, n6⟩ := hn
  intro aq h
  simp only [List.mem_cons, List.mem_nil_iff, or_false] at h
  match j, hj with
  | 0, _ =>
    rcases h with rfl | rfl | rfl | rfl
    · exact .inr ⟨by simp, n3⟩
    · exact .inr ⟨by simp, n5⟩
    · exact .inr ⟨by simp, n6⟩
    · exact .inl rfl
  | 1, _ =>
    rcases h with rfl | rfl | rfl | rfl
    · exact .inr ⟨by simp, n2⟩
    · exact .inr ⟨by simp, n4⟩
    · exact .inl rfl
    · exact .inr ⟨by simp, Ne.symm n6⟩
  | 2, _ =>
    rcases h with rfl | rfl | rfl | rfl
    · exact .inr ⟨by simp, n1⟩
    · exact .inl rfl
    · exact .inr ⟨by simp, Ne.symm n4⟩
    · exact .inr ⟨by simp, Ne.symm n5⟩

theorem def_205 (w : World) : DefAt w 205 (fdAt 205) (bodyAt 205) := ⟨⟨_, _, _, rfl⟩, by rfl, rfl, rfl, rfl, rfl, rfl, rfl, rfl, by decide⟩
theorem g_129 (w : World) : nsIn (KK w) mainGlobals (Str.ofString "basename") = some (some (.ref 129)) := by rfl
theorem k_129 (w : World) : keepIn (KK w) (.ref 129) = true := by rfl
theorem g_122 (w : World) : nsIn (KK w) mainGlobals (Str.ofString "join") = some (some (.ref 122)) := by rfl
theorem k_122 (w : World) : keepIn (KK w) (.ref 122) = true := by rfl

theorem fn_grown (w : World) (k : Nat) (o : List Str) (hz : Short o) : Fn w (k + 6) (.ref 205) [TStrs o] (TStrs (grown o)) := by
  refine Fn.enter (names := [Str.ofString "order"]) (def_205 w) rfl (by decide) (by decide) (fun vs hv => ?_) fun A L S s₀ s R H => ?_
  · obtain ⟨a, rfl⟩ := args1 hv; rfl
  o_facts H
  refine ex_sons H (storeOk_of (by decide)) fun d0 d1 d2 s₁ y0 y1 y2 H₁ => ?_
  o_facts H₁
  have ysys : ∀ j, (dd d0 d1 d2 j == sysModules) = false := fun j => by
    unfold dd
    split
    · exact y0
    · split
      · exact y1
      · exact y2
  refine ex_own (ps := []) H₁ R EvL.nil (Nat.zero_le _) (storeOk_of (by decide)) fun a s₂ H₂ => ?_
  o_facts H₂
  refine ex_for (D := Unit) (q := fun i => TStr (o.getD i default)) (n := o.length) (fun i _ => True) (fun i _ => [(Str.ofString "paths", TRef a), (Str.ofString "sons", TLst [TRef d0, TRef d1, TRef d2]), (Str.ofString "order", TStrs o)]) (fun i _ => (a, OLst ((gAt o i).2.map TStr)) :: sonsω w d0 d1 d2 (gAt o i).1) (fun _ => False) (fun _ => []) (fun _ => (a, OLst []) :: sonsω w d0 d1 d2 (gAt o 0).1) ()
    H₂ R trivial (Src.strs (Ev.var (by walk_at "mem"))) (storeOk_of (by decide)) (fun _ _ => rfl) (fun _ => rfl) (fun i d hK' S' s' hi _ H' => ?_) (fun d s' _ H₃ => ?_) (fun d s' h => h.elim)
  · o_facts H'
    have hok := gAt_ok hz.2 i (Nat.le_of_lt hi)
    have hname : (o.getD i default).length ≤ 100 := hz.2 _ (getD_mem hi)
    have hi6 : i < 6 := Nat.lt_of_lt_of_le hi hz.1
    have hsucc := gAt_succ hi
    have hst := gstep_ok hok.1 hname
    generalize hM : gAt o i = st at H' hok hsucc hst
    generalize hnm : o.getD i default = name at H' hname hsucc hst
    refine ex_assign H' R Ev.cstr (storeOk_of (by decide)) fun s₃ H₃ => ?_
    o_facts H₃
    refine ex_assign H₃ R Ev.cint (storeOk_of (by decide)) fun s₄ H₄ => ?_
    o_facts H₄
    refine ex_forO (D := Unit) (ps := st.2.map TStr) (q := fun i => TStr (st.2.getD i default)) (fun i _ => True) (fun j _ => [(Str.ofString "side", TInt (wrun st.1 name j).2), (Str.ofString "path", TStr (wrun st.1 name j).1), (Str.ofString "name", TStr name), (Str.ofString "paths", TRef a), (Str.ofString "sons", TLst [TRef d0, TRef d1, TRef d2]), (Str.ofString "order", TStrs o)]) (fun _ _ => sonsω w d0 d1 d2 st.1) ()
      H₄ R trivial (by walk_at "mem") (fun i p => strs_get) (storeOk_of (by decide)) (fun _ _ => rfl) (fun j d ob hK' S' s' hj _ H₅ => ?_) (fun d s' _ H₅ => ?_)
    · o_facts H₅
      have hw := wrun_ok hok.1 name j
      have hnext : wrun st.1 name (j + 1) = wstep st.1 name (wrun st.1 name j) := rfl
      generalize wrun st.1 name j = r at H₅ hw hnext
      have hidx : (r.2 + 1).toNat < 3 := by omega
      have esons : ∀ {S₁ : List Addr} {ρ₁ : List (Str × FP)} {ω₁ : List (Addr × OP)} {lp pos ip cp bp : Pos} {ck : Nat}, (Str.ofString "sons", TLst [TRef d0, TRef d1, TRef d2]) ∈ ρ₁ → (Str.ofString "side", TInt r.2) ∈ ρ₁ →
          Ev (Fx.cx ⟨w, k + 5, s₀, callEnvC (fdAt 205) L 205, S⟩ S₁ ρ₁ ω₁) (.Subscript (.Name (Str.ofString "sons") lp) (.BinOp (.Name (Str.ofString "side") ip) .Add (.Constant (.int 1) ck cp) bp) pos) (TRef (dd d0 d1 d2 (r.2 + 1).toNat)) := fun h1 h2 =>
        Ev.item (i := r.2 + 1) (Ev.var h1) (Ev.bin (Ev.var h2) Ev.cint Op2.add_int) (by omega) (by omega) (sons_at d0 d1 d2 hidx)
      refine ex_if (b := ((st.1 (r.2 + 1).toNat).lookup r.1).isSome) H₅ R (Tt.cmp (Ev.var (by walk_at "mem")) (esons (by walk_at "mem") (by walk_at "mem")) (Op2.in_dict (sons_mem hidx _) (ysys _))) fun s₆ H₆ => ?_
      cases hl : (st.1 (r.2 + 1).toNat).lookup r.1 with
      | none =>
        refine Run.nil (Run.nil ⟨(), trivial, ?_⟩)
        rw [hnext]
        unfold wstep
        rw [hl]
        exact H₆.weak (by simp)
      | some p =>
        have hpl : p.length ≤ 10000 := by
          have := (hok.1 (r.2 + 1).toNat).2 _ (lookup_mem hl)
          dsimp only at this
          omega
        refine ex_assign H₆ R (Ev.dict_item (esons (by walk_at "mem") (by walk_at "mem")) (Ev.var (by walk_at "mem")) (sons_mem hidx _) hl) (storeOk_of (by decide)) fun s₇ H₇ => ?_
        o_facts H₇
        refine ex_assign H₇ R (Ev.call (Ev.global rfl (g_28 _)) (.inl ⟨_, rfl, k_28 _⟩) (EvL.cons (Ev.var (by walk_at "mem")) (EvL.cons (Ev.call (Ev.global rfl (g_129 _)) (.inl ⟨_, rfl, k_129 _⟩) (EvL.cons (Ev.var (by walk_at "mem")) EvL.nil) (fn_base w k _ hpl)) EvL.nil)) (fn_cmp3 w _ _ _)) (storeOk_of (by decide)) fun s₈ H₈ => ?_
        o_facts H₈
        refine Run.nil (Run.nil ⟨(), trivial, ?_⟩)
        rw [hnext]
        unfold wstep
        rw [hl]
        exact H₈.weak (by simp)
    · rw [List.length_map] at H₅
      have hw := wrun_ok hok.1 name st.2.length
      have e1 : gplace st name = joinP (wrun st.1 name st.2.length).1 name := rfl
      have e2 : gsons st name = fun j => if j = ((wrun st.1 name st.2.length).2 + 1).toNat then put (st.1 j) (wrun st.1 name st.2.length).1 (gplace st name) else st.1 j := rfl
      have hplace := hst.2
      generalize wrun st.1 name st.2.length = r at H₅ hw e1 e2
      have hidx : (r.2 + 1).toNat < 3 := by omega
      refine ex_assign (p := TStr (gplace st name)) H₅ R (Ev.eq (Ev.call (Ev.global rfl (g_122 _)) (.inl ⟨_, rfl, k_122 _⟩) (EvL.cons (Ev.var (by walk_at "mem")) (EvL.cons (Ev.var (by walk_at "mem")) EvL.nil)) (fn_join w k _ _ (by omega))) (by rw [e1])) (storeOk_of (by decide)) fun s₆ H₆ => ?_
      o_facts H₆
      have hnd := (List.nodup_append.mp H₆.nd).2.1
      refine ex_setdict (d := dd d0 d1 d2 (r.2 + 1).toNat) (kk := r.1) (vv := gplace st name) (kvs := st.1 (r.2 + 1).toNat) (ω' := (a, OLst (st.2.map TStr)) :: sonsω w d0 d1 d2 (gsons st name)) H₆ R (Ev.var (by walk_at "mem")) (Ev.item (i := r.2 + 1) (Ev.var (by walk_at "mem")) (Ev.bin (Ev.var (by walk_at "mem")) Ev.cint Op2.add_int) (by omega) (by omega) (sons_at d0 d1 d2 hidx)) (Ev.var (by walk_at "mem")) (sons_mem hidx _) (by have := (hok.1 (r.2 + 1).toNat).1; omega) rfl (by rw [e2]; exact sons_upd hidx hnd _ _) fun s₇ H₇ => ?_
      refine ex_append (p := TStr (gplace st name)) H₇ R (by walk_at "mem") (Ev.var (by walk_at "mem")) (by rw [List.length_map, hok.2]; omega) fun s₈ H₈ => ?_
      refine Run.nil ⟨(), trivial, ?_⟩
      rw [hsucc]
      have e3 : (gstep st name).2.map TStr = st.2.map TStr ++ [TStr (gplace st name)] := by
        show (st.2 ++ [_]).map TStr = _
        rw [List.map_append]; rfl
      rw [e3]
      exact H₈.weak (by simp)
  · have hg : gAt o o.length = o.foldl gstep (fun _ => [], []) := by unfold gAt; rw [List.take_length]
    have hok := gAt_ok hz.2 o.length (Nat.le_refl _)
    have H₄ := H₃.freeze (x := Str.ofString "paths") (by walk_at "mem")
    o_facts H₄
    refine ex_return (p := TStrs (grown o)) H₄ R (Ev.eq (Ev.call (Ev.builtin rfl (n_sorted _) bb_sorted) (.inr (.inl ⟨_, rfl⟩)) (EvL.cons (Ev.var (by walk_at "mem")) EvL.nil) (b_sorted (xs := (gAt o o.length).2) (by rw [hok.2]; have := hz.1; omega))) (by unfold grown; rw [hg])) fun v s' H' hp => H'.ret hp
end Mine
namespace Mine
open AutoSeq1 (wpAny_loadPart')

theorem mro_map : mroOf (.type "map") = pure [.type "map", .type "object"] := by rw [mroOf_type]; kernel_rfl
theorem lookup_map_new : typeLookup (.type "map") "__new__" = pure (some (.builtin "map.__new__")) := by rw [typeLookup_type, builtinLookup_eq_fast]; kernel_rfl
theorem slot_map_init : Slot "map" "__init__" "object.__init__" :=
  .of (owner := "object") (n := "__init__") (by rw [typeLookup_type, builtinLookup_eq_fast]; kernel_rfl) (by decide +kernel) (by decide +kernel) (by decide +kernel)
    (by first | exact .inl (by decide +kernel) | exact .inr (by decide +kernel)) (by rw [isSubtype_type]; kernel_rfl)
theorem slot_map_next : Slot "map" "__next__" "map.__next__" :=
  .of (owner := "map") (n := "__next__") (by rw [typeLookup_type, builtinLookup_eq_fast]; kernel_rfl) (by decide +kernel) (by decide +kernel) (by decide +kernel)
    (by first | exact .inl (by decide +kernel) | exact .inr (by decide +kernel)) (by rw [isSubtype_type]; kernel_rfl)
theorem slot_map_iter : Slot "map" "__iter__" "map.__iter__" :=
  .of (owner := "map") (n := "__iter__") (by rw [typeLookup_type, builtinLookup_eq_fast]; kernel_rfl) (by decide +kernel) (by decide +kernel) (by decide +kernel)
    (by first | exact .inl (by decide +kernel) | exact .inr (by decide +kernel)) (by rw [isSubtype_type]; kernel_rfl)
theorem owner_map : Manifest.owners.lookup (String.ofList ['p', 'a', 'm'].reverse) = some Manifest.sig_map := by kernel_rfl
theorem args_map_next_1 (a : Value) : argsOk "map.__next__" ⟨[a], []⟩ := by
  unfold argsOk; rw [signature?_of (id := "map.__next__") (n := ['_', '_', 't', 'x', 'e', 'n', '_', '_']) (o := ['p', 'a', 'm']) (by kernel_rfl) owner_map]; kernel_rfl
theorem args_map_iter_1 (a : Value) : argsOk "map.__iter__" ⟨[a], []⟩ := by
  unfold argsOk; rw [signature?_of (id := "map.__iter__") (n := ['_', '_', 'r', 'e', 't', 'i', '_', '_']) (o := ['p', 'a', 'm']) (by kernel_rfl) owner_map]; kernel_rfl
theorem entry_map_new : entryFor table "map.__new__" = some Builtin.«map.__new__» := entryFor_of_tree (by kernel_rfl)
theorem entry_map_next : entryFor table "map.__next__" = some Builtin.«map.__next__» := entryFor_of_tree (by kernel_rfl)
theorem entry_map_iter : entryFor table "map.__iter__" = some Builtin.«dict_keyiterator.__iter__» :=
  entryFor_alias (id' := "dict_keyiterator.__iter__") (by kernel_rfl) (by first | rfl | decide +kernel | (unfold String.splitOn; simp +decide [String.splitOnAux])) (by decide +kernel) (by kernel_rfl)
theorem called_map : TypeCalled "map" "map.__new__" "object.__init__" :=
  ⟨by decide +kernel, by decide +kernel, ⟨_, _, mro_map⟩, madeBy_type mro_map lookup_map_new (by decide +kernel), by decide +kernel, by rw [isSubtype_type]; kernel_rfl, slot_map_init⟩
theorem typeCall_map_2 (a b : Value) : checkTypeCall "map" ⟨[a, b], []⟩ = pure () := by kernel_rfl
theorem newCall_map_2 (a b : Value) : checkBuiltinCall "map.__new__" ⟨[.type "map", a, b], []⟩ = pure () := by kernel_rfl
theorem args_obj_init_3 (a b c : Value) : argsOk "object.__init__" ⟨[a, b, c], []⟩ := by
  unfold argsOk; rw [signature?_of (id := "object.__init__") (n := ['_', '_', 't', 'i', 'n', 'i', '_', '_']) (o := ['t', 'c', 'e', 'j', 'b', 'o']) (by kernel_rfl) PySem.F.owner_object]; kernel_rfl
theorem sub_map : isSubtype (.type "map") (.type "map") = pure true := by rw [isSubtype_type]; kernel_rfl
theorem map_no_len : typeLookup (.type "map") "__len__" = pure none := by rw [typeLookup_type, builtinLookup_eq_fast]; kernel_rfl
theorem map_no_hint : typeLookup (.type "map") "__length_hint__" = pure none := by rw [typeLookup_type, builtinLookup_eq_fast]; kernel_rfl

abbrev IsMap (h : Heap) (m t : Addr) (f : Value) : Prop := h.get? m = some { cls := .type "map", dict := none, data := .fields #[.ref t, f], slots := #[] }

theorem meets_map_new (f : Value) (l : Addr) (items : Array Value) (n : Nat) (dct : Option Addr) (sl : Array (Option Value)) :
    Meets (Builtin.«map.__new__» ⟨[.type "map", f, .ref l], []⟩) (fun _ R s => s.heap.get? l = some { cls := .type "list", dict := dct, data := .seq items n, slots := sl } ∧
      ∀ h' , Sub s.heap h' → h'.IsListIter s.heap.objs.size l 0 → h'.get? (s.heap.objs.size + 1) = some { cls := .type "tuple", data := .seq #[.ref s.heap.objs.size] } → IsMap h' (s.heap.objs.size + 2) (s.heap.objs.size + 1) f → R (.ok (.ret (.ref (s.heap.objs.size + 2)))) { s with heap := h' }) :=
  .of_wp fun prog w A R s h => by
    obtain ⟨hp, g, d, tk, os⟩ := s
    obtain ⟨hl, h⟩ := h
    have hsub := sub_map
    have hL : Heap.IsList (Shared.heap ⟨hp, g, d, tk, os⟩) l items := ⟨_, hl, rfl, n, rfl⟩
    wp_walk using wpAny_loadPart' hl, wpAny_pyIter_list hL
    refine ⟨_, rfl, ?_⟩
    have z1 : (hp.push { cls := Value.type "list_iterator", data := Data.fields #[Value.ref l, Value.int 0 0] }).objs.size = hp.objs.size + 1 := Heap.size_push ..
    have z2 : ((hp.push { cls := Value.type "list_iterator", data := Data.fields #[Value.ref l, Value.int 0 0] }).push { cls := Value.type "tuple", data := Data.seq #[Value.ref hp.objs.size] }).objs.size = hp.objs.size + 2 := by rw [Heap.size_push, z1]
    have e1 : (#[].push (Value.ref hp.objs.size)).toList.toArray = #[Value.ref hp.objs.size] := rfl
    dsimp only
    rw [e1, z1, z2]
    refine h _ (fun b o e => ?_) ?_ ?_ ?_
    · exact push_sub _ _ _ _ (push_sub _ _ _ _ (push_sub _ _ _ _ e))
    · exact ⟨_, push_sub _ _ _ _ (push_sub _ _ _ _ (Heap.get?_push_size _ rfl)), rfl, rfl⟩
    · refine push_sub _ _ _ _ ?_
      have := Heap.get?_push_size (hp.push { cls := Value.type "list_iterator", data := Data.fields #[Value.ref l, Value.int 0 0] }) (o := { cls := Value.type "tuple", data := Data.seq #[Value.ref hp.objs.size] }) rfl
      rw [z1] at this
      exact this
    · have := Heap.get?_push_size ((hp.push { cls := Value.type "list_iterator", data := Data.fields #[Value.ref l, Value.int 0 0] }).push { cls := Value.type "tuple", data := Data.seq #[Value.ref hp.objs.size] }) (o := { cls := Value.type "map", data := Data.fields #[Value.ref (hp.objs.size + 1), f] }) rfl
      rw [z2] at this
      exact this

section
variable {prog : Program} {w : World} {A : Around} {E : Value → Shared → Prop} {s : Shared}
theorem call_map {f : Value} {l : Addr} {items : Array Value} {Q : Value → Shared → Prop} (hL : s.heap.IsList l items)
    (h : ∀ h', Sub s.heap h' → h'.IsListIter s.heap.objs.size l 0 → h'.get? (s.heap.objs.size + 1) = some { cls := .type "tuple", data := .seq #[.ref s.heap.objs.size] } → IsMap h' (s.heap.objs.size + 2) (s.heap.objs.size + 1) f → Q (.ref (s.heap.objs.size + 2)) { s with heap := h' }) :
    wpAny (model prog w) A (call (.type "map") [f, .ref l]) Q E s := by
  obtain ⟨⟨c, dct, dt, sl⟩, hl, hc, n, hd⟩ := hL
  replace hc : c = .type "list" := hc
  replace hd : dt = .seq items n := hd
  subst hc hd
  refine callType_new called_map (by decide) (typeCall_map_2 _ _) (newCall_map_2 _ _) (fun obj => args_obj_init_3 obj _ _) entry_map_new (meets_map_new f l items n dct sl) ⟨hl, fun h' a b c e => ?_⟩
  exact ⟨⟨_, e, rfl⟩, h h' a b c e⟩

theorem map_next_item {m t it l : Addr} {f : Value} {i : Nat} {items : Array Value} {x : Value} {Q : Value → Shared → Prop} (hm : IsMap s.heap m t f) (ht : s.heap.get? t = some { cls := .type "tuple", data := .seq #[.ref it] }) (hit : s.heap.IsListIter it l i) (hl : s.heap.IsList l items) (hx : items[i]? = some x) (hmi : m ≠ it)
    (hc : ∀ h', h'.IsListIter it l (i + 1) → Heap.SameBut it s.heap h' → wpAny (model prog w) A (call f [x]) Q E { s with heap := h' }) :
    wpAny (model prog w) A (Builtin.«map.__next__» ⟨[.ref m], []⟩) (fun fin s' => ∃ v, fin = .done (.ret v) ∧ Q v s') E s := by
  show wpAny _ _ (field (.ref m) 0 >>= _) _ _ _
  refine wpAny_bind (wpAny_field hm rfl (x := .ref t) rfl ?_)
  refine wpAny_bind (wpAny_seqItems ht rfl ?_)
  dsimp only
  refine wpAny_bind (wpAny_arrayLoop ?_)
  rw [List.forIn_cons]
  refine wpAny_bind (wpAny_bind (wpAny_holding (wpAny_nextOf_list_item hit hl hx fun h₁ hit₁ hs₁ => ?_)))
  replace hs₁ : Heap.SameBut it s.heap h₁ := hs₁
  refine wpAny_pure ?_
  dsimp only
  rw [List.forIn_nil]
  refine wpAny_pure ?_
  have hm₁ : IsMap h₁ m t f := (hs₁.2 m hmi).trans hm
  show wpAny _ _ (field (.ref m) 1 >>= _) _ _ _
  refine wpAny_bind (wpAny_field hm₁ rfl (x := f) rfl ?_)
  refine wpAny_bind (wpAny_holding (wpAny_mono (hc h₁ hit₁ hs₁) (fun v s₂ hq => ?_) fun _ _ x => x))
  refine wpAny_bind (wpAny_letGo ?_)
  exact wpAny_pure ⟨v, rfl, hq⟩

theorem map_next_end {m t it l : Addr} {f : Value} {i : Nat} {items : Array Value} {Q : Fin → Shared → Prop} (hh : A.handled = none) (hm : IsMap s.heap m t f) (ht : s.heap.get? t = some { cls := .type "tuple", data := .seq #[.ref it] }) (hit : s.heap.IsListIter it l i) (hl : s.heap.IsList l items) (hx : items[i]? = none)
    (hE : ∀ h' e, Heap.ExtBut it s.heap h' → (∃ o, h'.get? e = some o ∧ o.cls = .type "StopIteration") → E (.ref e) { s with heap := h' }) :
    wpAny (model prog w) A (Builtin.«map.__next__» ⟨[.ref m], []⟩) Q E s := by
  show wpAny _ _ (field (.ref m) 0 >>= _) _ _ _
  refine wpAny_bind (wpAny_field hm rfl (x := .ref t) rfl ?_)
  refine wpAny_bind (wpAny_seqItems ht rfl ?_)
  dsimp only
  refine wpAny_bind (wpAny_arrayLoop ?_)
  rw [List.forIn_cons]
  exact wpAny_bind (wpAny_bind (wpAny_holding (wpAny_nextOf_list_end hh hit hl hx hE)))

theorem pyNext_map_item {m t it l : Addr} {f : Value} {i : Nat} {items : Array Value} {x : Value} {Q : Option Value → Shared → Prop} (hm : IsMap s.heap m t f) (ht : s.heap.get? t = some { cls := .type "tuple", data := .seq #[.ref it] }) (hit : s.heap.IsListIter it l i) (hl : s.heap.IsList l items) (hx : items[i]? = some x) (hmi : m ≠ it)
    (hc : ∀ h', h'.IsListIter it l (i + 1) → Heap.SameBut it s.heap h' → wpAny (model prog w) A.in1 (call f [x]) (fun v s' => Q (some v) s') NoE { s with heap := h' }) :
    wpAny (model prog w) A (pyNext (.ref m)) Q E s := by
  have hT : s.TypeIs (.ref m) "map" := ⟨_, hm, rfl⟩
  unfold pyNext
  refine wpAny_bind (wpAny_attempt (wpAny_callSpecial?_slot (name := Str.ofString "__next__") hT slot_map_next (wpAny_call_entry slot_map_next hT entry_map_next ?_ (args_map_next_1 _))))
  exact map_next_item hm ht hit hl hx hmi fun h' a b => wpAny_mono (hc h' a b) (fun v s' hq => wpAny_pure hq) fun _ _ x => x.elim
theorem pyNext_map_end {m t it l : Addr} {f : Value} {i : Nat} {items : Array Value} {Q : Option Value → Shared → Prop} (hh : A.handled = none) (hm : IsMap s.heap m t f) (ht : s.heap.get? t = some { cls := .type "tuple", data := .seq #[.ref it] }) (hit : s.heap.IsListIter it l i) (hl : s.heap.IsList l items) (hx : items[i]? = none)
    (hQ : ∀ h', Heap.ExtBut it s.heap h' → Q none { s with heap := h' }) :
    wpAny (model prog w) A (pyNext (.ref m)) Q E s := by
  have hT : s.TypeIs (.ref m) "map" := ⟨_, hm, rfl⟩
  unfold pyNext
  refine wpAny_bind (wpAny_attempt (wpAny_callSpecial?_slot (name := Str.ofString "__next__") hT slot_map_next (wpAny_call_entry slot_map_next hT entry_map_next ?_ (args_map_next_1 _))))
  refine map_next_end (A := A.in1) hh hm ht hit hl hx fun h' e he' hx' => ?_
  obtain ⟨o, ho, hc⟩ := hx'
  refine wpAny_bind (wpAny_isInstance (T := "StopIteration") (b := true) ⟨o, ho, hc⟩ isSubtype_stop ?_)
  exact wpAny_pure (hQ _ he')
theorem pyIter_map {m t : Addr} {f : Value} {Q : Value → Shared → Prop} (hm : IsMap s.heap m t f) (h : Q (.ref m) s) : wpAny (model prog w) A (pyIter (.ref m)) Q E s := by
  have hT : s.TypeIs (.ref m) "map" := ⟨_, hm, rfl⟩
  refine wpAny_pyIter_slot hT slot_map_iter (wpAny_call_entry slot_map_iter hT entry_map_iter ?_ (args_map_iter_1 _))
  show wpAny _ _ (ret (.ref m)) _ _ s
  exact wpAny_pure ⟨_, rfl, "map", _, hT, slot_map_next.lookup, h⟩
end
end Mine
namespace Mine
open AutoSeq1 (wpAny_loadPart')

def MapSt (h₀ : Heap) (it l : Addr) (i : Nat) (s : Shared) : Prop := (∀ b o, b ≠ it → h₀.get? b = some o → s.heap.get? b = some o) ∧ s.heap.IsListIter it l i ∧ 0 ≤ s.toks
theorem StrsAre.get? {vs : List Value} {xs : List Str} (h : StrsAre vs xs) (i : Nat) (hi : i < xs.length) : ∃ t, vs[i]? = some (.str (xs.getD i default) t) := by
  induction h generalizing i with
  | nil => simp at hi
  | @cons y t vs ys _ ih =>
    match i with
    | 0 => exact ⟨t, rfl⟩
    | i + 1 => obtain ⟨t', e⟩ := ih i (by simpa using hi); exact ⟨t', by simpa using e⟩
theorem StrsAre.len {vs : List Value} {xs : List Str} (h : StrsAre vs xs) : vs.length = xs.length := by
  induction h with
  | nil => rfl
  | cons _ _ _ ih => simp [ih]

theorem walks_map {w : World} {A : Around} {k : Nat} {xs : List Str} {vs : Array Value} {hb h₀ : Heap} {m t it l : Addr} (hh : A.handled = none) (R : Room (k + 1) A.in1) (B : Base w hb) (sub : Sub hb h₀) (hit : hb.get? it = none)
    (hm : IsMap h₀ m t (.ref 101)) (ht : h₀.get? t = some { cls := .type "tuple", data := .seq #[.ref it] }) (hi0 : h₀.IsListIter it l 0) (hl : h₀.IsList l vs) (hvs : StrsAre vs.toList xs) (hmi : m ≠ it) (hti : t ≠ it) (hli : l ≠ it) :
    WalksS PySem.Challenge.pw_rt0057_01 w A m (List.range h₀.objs.size) [it] (fun a b => b = a) xs.length (fun i v => ∃ t, v = .str (xs.getD i default) t) (MapSt h₀ it l) where
  sub := fun b hb => by
    rw [List.mem_singleton] at hb; subst hb
    obtain ⟨o, ho, _⟩ := hi0
    exact List.mem_range.mpr (Heap.lt_size ho)
  grefl := fun _ => rfl
  gtrans := fun _ _ _ h1 h2 => h2.trans h1
  frame := fun i s h' tk ⟨a, b, c⟩ htk hk => by
    refine ⟨fun b o hb e => hk b (List.mem_range.mpr (Heap.lt_size e)) o (a b o hb e), ?_, Nat.le_trans c htk⟩
    obtain ⟨oi, hoi, _⟩ := hi0
    exact b.at fun o e => hk it (List.mem_range.mpr (Heap.lt_size hoi)) o e
  item := fun i s Q E hi ⟨a, b, c⟩ hQ => by
    have hm' : IsMap s.heap m t (.ref 101) := a m _ hmi hm
    have hl' : s.heap.IsList l vs := hl.at fun o e => a l o hli e
    obtain ⟨tk, hx⟩ := StrsAre.get? hvs i hi
    refine pyNext_map_item hm' (a t _ hti ht) b hl' (by simpa using hx) hmi fun h' hit' hs' => ?_
    replace hs' : Heap.SameBut it s.heap h' := hs'
    have hbs : Sub hb h' := fun b o e => by
      have hne : b ≠ it := fun q => by rw [q, hit] at e; cases e
      exact (hs'.2 b hne).trans (a b o hne (sub b o e))
    refine wpAny_mono ((fn_fspath w k (xs.getD i default)).go A.in1 { s with heap := h' } [.str (xs.getD i default) tk] [] R (B.stab hbs) c (fun a h => nomatch h) (.cons ⟨tk, rfl⟩ .nil)) (fun v s₂ ⟨k₂, hv⟩ => ?_) fun _ _ x => x
    have s2 := keeps_sub k₂
    obtain ⟨⟨h2, t2, rfl, _⟩, tt⟩ := k₂
    exact hQ v _ hv ⟨fun b o hb e => s2 b o ((hs'.2 b hb).trans (a b o hb e)), hit'.at fun o e => s2 it o e, Nat.le_trans c tt⟩ ⟨fun b o hb e => s2 b o ((hs'.2 b (fun q => hb (by rw [q]; exact List.mem_singleton.mpr rfl))).trans e), rfl, rfl, rfl, tt⟩
  done := fun s Q E ⟨a, b, c⟩ hQ => by
    have hm' : IsMap s.heap m t (.ref 101) := a m _ hmi hm
    have hl' : s.heap.IsList l vs := hl.at fun o e => a l o hli e
    have hlen := StrsAre.len hvs
    refine pyNext_map_end hh hm' (a t _ hti ht) b hl' (by rw [← hlen]; simp) fun h' he => hQ _ ⟨fun b o hb e => he b o (fun q => hb (by rw [q]; exact List.mem_singleton.mpr rfl)) e, rfl, rfl, rfl, Nat.le_refl _⟩
  self := fun i s Q E ⟨a, b, c⟩ hQ => pyIter_map (a m _ hmi hm) hQ

section
variable {prog : Program} {w : World} {A : Around} {E : Value → Shared → Prop} {s : Shared} {I : Addr} {fp wr : List Addr} {G : Array GenState → Array GenState → Prop} {n : Nat} {P : Nat → Value → Prop} {St : Nat → Shared → Prop}
theorem collect_map {Q : List Value → Shared → Prop} (W : WalksS prog w A.in1 I fp wr G n P St) (hT : ∀ i s, St i s → s.TypeIs (.ref I) "map") (hst : St 0 s) (hfp : ∀ b ∈ fp, b < s.heap.objs.size) (hI : I ∈ fp)
    (hQ : ∀ s' acc, Moved wr G s s' → ItemsOf P acc n → Q acc.toList s') (hn : n ≤ sizeLine) : wpAny (model prog w) A (collect (.ref I)) Q E s := by
  have hSf : s.heap.objs.size ∉ fp := fun hm => Nat.lt_irrefl _ (hfp _ hm)
  have hSI : s.heap.objs.size ≠ I := fun e => hSf (e ▸ hI)
  generalize hS : s.heap.objs.size = S at hSf hSI
  let o₀ : Obj := { cls := .type "list", data := .seq ([] : List Value).toArray }
  have hst₁ := W.frame 0 s (s.heap.push o₀) s.toks hst (Nat.le_refl _) fun b _ o e => Heap.get?_push_of_some _ e
  have hT₁ := hT 0 _ hst₁
  have hS₁ : (s.heap.push o₀).get? S = some o₀ := hS ▸ Heap.get?_push_size _ rfl
  have hS₂ := Heap.get?_update_self (Obj.mapSeq (·.push Value.none)) hS₁ rfl
  have hS₃ := Heap.get?_update_self (Obj.mapSeq (·.pop)) hS₂ rfl
  have oth : ∀ b o, b ≠ S → (s.heap.push o₀).get? b = some o → (((s.heap.push o₀).update S (Obj.mapSeq (·.push Value.none))).update S (Obj.mapSeq (·.pop))).get? b = some o :=
    fun b o hb e => (Heap.get?_update_other _ _ (Ne.symm hb)).trans ((Heap.get?_update_other _ _ (Ne.symm hb)).trans e)
  unfold collect
  refine wpAny_bind (wpAny_runValue (codeAny_builtin F.entry_proto_collect ?_))
  rw [Around.under_plainId F.plain_proto_collect _]
  show wpAny _ A.in1 (newList [] >>= fun l => again (.builtin "list.__iadd__" ⟨[l, .ref I], []⟩)) _ _ s
  refine wpAny_bind (wpAny_newObj_type ?_)
  rw [hS]
  refine wpAny_pure ⟨plainId_quiet F.plain_list_iadd _, codeAny_builtin F.entry_list_iadd ?_⟩
  rw [Around.under_plainId F.plain_list_iadd _]
  show wpAny _ A.in1 (Builtin.List.listExtendWith (.ref S) (.ref I) (.ref S)) _ _ _
  unfold Builtin.List.listExtendWith
  refine wpAny_bind (wpAny_typeOf hT₁ ?_)
  have h1 : Builtin.List.listSameRef (.ref S) (.ref I) = false := by simp [Builtin.List.listSameRef, hSI]
  have h2 : (Value.type "map" == Value.type "list") = false := by decide
  have h3 : (Value.type "map" == Value.type "tuple") = false := by decide
  simp only [h1, h2, h3, Bool.or_false, Bool.false_eq_true, if_false]
  refine wpAny_bind (W.self 0 _ _ _ hst₁ (wpAny_bind (wpAny_holding ?_)))
  unfold Builtin.List.listLengthHint
  refine wpAny_bind (wpAny_specialOf hT₁ map_no_len ?_)
  show wpAny _ A.in1 (specialOf (Value.ref I) (Str.ofString "__length_hint__") >>= _) _ _ _
  refine wpAny_bind (wpAny_specialOf hT₁ map_no_hint (wpAny_pure ?_))
  show wpAny _ A.in1 (rule "list.extend.makes-room" >>= fun _ => Builtin.List.listTouch (.ref S) >>= fun _ => again (.builtin "list.extend.loop" ⟨[.ref S, .ref I, .ref S], []⟩)) _ _ _
  refine wpAny_bind (wpAny_rule (wpAny_bind ?_))
  show wpAny _ A.in1 (updateSeq S (·.push .none) >>= fun _ => updateSeq S (·.pop)) _ _ _
  refine wpAny_bind (wpAny_updateSeq hS₁ rfl (wpAny_updateSeq hS₂ rfl ?_))
  refine wpAny_pure ⟨plainId_quiet F.plain_extend_loop _, codeAny_extend_loopS W hn _ hSf _ n 0 _ _ _ rfl (Nat.zero_le _)
    (W.frame 0 ({ s with heap := s.heap.push o₀ } : Shared) _ s.toks hst₁ (Nat.le_refl _) fun b hb o e => oth b o (fun h => hSf (h ▸ hb)) e) hS₃ (ItemsOf.nil P) fun s' acc' c' hm hS' hacc => ?_⟩
  show wpAny _ A (load S >>= _) _ _ s'
  refine wpAny_bind (wpAny_load hS' (wpAny_pure (hQ s' acc' ?_ hacc)))
  subst hS
  exact Moved.drop_new (o := o₀) (tk := s.toks) (Moved.trans W.gtrans ((Moved.refl W.grefl).then_heap (Nat.le_refl _) fun b o hb e => oth b o (fun h => hb (h ▸ List.mem_cons_self)) e) hm) (Nat.le_refl _)
end
end Mine
namespace Mine
open AutoSeq1 (wpAny_loadPart')
section
variable {prog : Program} {w : World} {A : Around} {E : Value → Shared → Prop} {s : Shared} {I : Addr} {fp wr : List Addr} {G : Array GenState → Array GenState → Prop} {n : Nat} {P : Nat → Value → Prop} {St : Nat → Shared → Prop}
theorem tuple_new_map {Q₁ : Value → Shared → Prop} (W : WalksS prog w A.in1.in1 I fp wr G n P St) (hT : ∀ i s, St i s → s.TypeIs (.ref I) "map") (hst : St 0 s) (hfp : ∀ b ∈ fp, b < s.heap.objs.size) (hI : I ∈ fp)
    (h : ∀ s' acc, Moved wr G s s' → ItemsOf P acc n → Q₁ (.ref s'.heap.objs.size) { s' with heap := s'.heap.push { cls := .type "tuple", data := .seq acc } }) (hsz : n ≤ sizeLine) :
    codeAny (model prog w) A (.call (.builtin "tuple.__new__") ⟨[.type "tuple", .ref I], []⟩) (wants Q₁ E) s := by
  refine codeAny_of_tree ?_
  show wpAny _ A.in1 (do checkBuiltinCall "tuple.__new__" ⟨[.type "tuple", .ref I], []⟩; again (.builtin "tuple.__new__" ⟨[.type "tuple", .ref I], []⟩)) _ _ s
  refine wpAny_bind (wpAny_of_eq (F.newCall_tuple_1 _) (wpAny_pure ⟨plainId_quiet F.plain_tuple_new _, codeAny_builtin F.entry_tuple_new ?_⟩))
  rw [Around.under_plainId F.plain_tuple_new _]
  have hsub := sub_tuple_self
  have hinit := init_tuple_lookup
  have hmh := madeHere_tuple
  have hTI := hT 0 s hst
  wp_walk using wpAny_typeOf hTI, collect_map (hn := hsz) W hT hst hfp hI
  intro s' acc hm hacc
  show wpAny _ _ (Builtin.Tuple.tupleExact acc.toList.toArray >>= fun v => ret v) _ _ _
  unfold Builtin.Tuple.tupleExact
  refine wpAny_bind (wpAny_newObj_type ?_ (by show acc.toList.toArray.size ≤ sizeLine; simp only [Array.toArray_toList]; rw [hacc.1]; exact hsz))
  refine wpAny_pure ?_
  have e : acc.toList.toArray = acc := by simp
  rw [e]
  exact h s' acc hm hacc

theorem call_tuple_map {Q : Value → Shared → Prop} (W : WalksS prog w A.in1.in1.in1 I fp wr G n P St) (hT : ∀ i s, St i s → s.TypeIs (.ref I) "map") (hst : St 0 s) (hfp : ∀ b ∈ fp, b < s.heap.objs.size) (hI : I ∈ fp)
    (hQ : ∀ s' acc, Moved wr G s s' → ItemsOf P acc n → Q (.ref s'.heap.objs.size) { s' with heap := s'.heap.push { cls := .type "tuple", data := .seq acc } }) (hsz : n ≤ sizeLine) :
    wpAny (model prog w) A (call (.type "tuple") [.ref I]) Q E s := by
  refine callType_codes (Q₁ := fun obj s₁ => s₁.TypeIs obj "tuple" ∧ Q obj s₁) F.called_tuple (F.typeCall_tuple_1 _) F.entry_object_init
    (tuple_new_map (hsz := hsz) W hT hst hfp hI fun s' acc hm hacc => ⟨⟨_, Heap.get?_push_size _ rfl, rfl⟩, hQ s' acc hm hacc⟩) fun obj s₁ h₁ => ?_
  exact ⟨h₁.1, F.args_object_init_2 obj _, object_init_meets F.called_tuple.init.lookup F.called_tuple.made (by decide) prog w A.in1 _ s₁ ⟨h₁.1, rfl, h₁.2⟩⟩
end

theorem n_tuple (w : World) : nsIn (KK w) mainGlobals (Str.ofString "tuple") = some none := by rfl
theorem bb_tuple : bootBuiltins (Str.ofString "tuple") = some (.type "tuple") := by kernel_rfl
theorem n_map (w : World) : nsIn (KK w) mainGlobals (Str.ofString "map") = some none := by rfl
theorem bb_map : bootBuiltins (Str.ofString "map") = some (.type "map") := by kernel_rfl

theorem Room.in4 {k : Nat} {A : Around} (r : Room (k + 1) A) : Room k A.in1.in1.in1.in1 := ⟨r.han, by have := r.dep; show A.depth + k < _; omega, by have := r.uni; show A.units + 1 + 1 + 1 + 1 + 10 * k + 20 < _; omega⟩

theorem items_strs {xs : List Str} {h : Heap} {acc : Array Value} (hi : ItemsOf (fun i v => ∃ t, v = .str (xs.getD i default) t) acc xs.length) : AllH h acc.toList (xs.map TStr) := by
  have : ∀ (n : Nat) (l : List Value) (ys : List Str), l.length = ys.length → (∀ (j : Nat) (v : Value), l[j]? = some v → ∃ t, v = Value.str (ys.getD j default) t) → AllH h l (ys.map TStr) := by
    intro n l
    induction l with
    | nil => intro ys e _; match ys, e with | [], _ => exact .nil
    | cons v l ih =>
      intro ys e hv
      match ys, e with
      | y :: ys, e =>
        refine .cons (hv 0 v rfl) (ih ys (by simpa using e) fun j u hu => ?_)
        exact hv (j + 1) u (by simpa using hu)
  refine this 0 acc.toList xs (by rw [Array.length_toList]; exact hi.1) fun j v hv => hi.2 j v (by simpa using hv)

theorem Ev.tuple_map {C : Cx} {xs : List Str} {e : Expr} {tp mp fp' pos pos' : Pos} {k : Nat} (hk : C.k = k + 2) (he : Ev C e (TStrs xs)) (hz : xs.length ≤ 1000)
    (hkt : C.env.kindOf (Str.ofString "tuple") = some .globalImplicit) (hkm : C.env.kindOf (Str.ofString "map") = some .globalImplicit) (hkf : C.env.kindOf (Str.ofString "fspath") = some .globalImplicit)
    (hs1 : ∀ env, starEach [(.Name (Str.ofString "fspath") fp'), e] env = (false, eval (.Name (Str.ofString "fspath") fp') env) :: (false, eval e env) :: starEach [] env := by intro _; rfl) :
    Ev C (.Call (.Name (Str.ofString "tuple") tp) [.Call (.Name (Str.ofString "map") mp) [.Name (Str.ofString "fspath") fp', e] [] pos'] [] pos) (TTup (xs.map TStr)) := .mk fun A s R X => by
  have ht : Ev C (.Name (Str.ofString "tuple") tp) (TVal (.type "tuple")) := Ev.builtin hkt (n_tuple _) bb_tuple
  have hm : Ev C (.Name (Str.ofString "map") mp) (TVal (.type "map")) := Ev.builtin hkm (n_map _) bb_map
  have hf : Ev C (.Name (Str.ofString "fspath") fp') (TVal (.ref 101)) := Ev.global hkf (g_101 _)
  refine Call_Name rfl ((ht.go A s R X).use fun fv s₁ k₁ h => ?_)
  cases h
  have X₁ := X.keeps k₁
  refine PyProof.Rows.callWith_type rfl (evalArgs_plain ?_)
  show wpAny _ A (spliced [(false, eval (.Call (.Name (Str.ofString "map") mp) [.Name (Str.ofString "fspath") fp', e] [] pos') C.env)]) _ _ _
  refine spliced_cons ?_
  refine Call_Name rfl ((hm.go A s₁ R X₁).use fun fv s₂ k₂ h => ?_)
  cases h
  have X₂ := X₁.keeps k₂
  rw [hs1]
  refine PyProof.Rows.callWith_type rfl (evalArgs_plain (spliced_cons ((hf.go A s₂ R X₂).use fun f s₃ k₃ h => spliced_cons ((he.go A s₃ R (X₂.keeps k₃)).use fun lv s₄ k₄ hv => spliced_nil ?_))))
  cases h
  have X₄ := (X₂.keeps k₃).keeps k₄
  have k04 : Kp s s₄ := Kp.trans' (Kp.trans' k₁ k₂) (Kp.trans' k₃ k₄)
  obtain ⟨l, vs, rfl, hl, _, hA⟩ := lst_at hv
  have hS := strsAre hA
  have hlen := StrsAre.len hS
  refine call_map hl fun h₀ sub hit htp hmp => spliced_nil ?_
  generalize hIt : s₄.heap.objs.size = It at hit htp hmp
  have fresh : s₄.heap.get? It = none := fresh_size _ _ (by rw [hIt]; exact Nat.le_refl _)
  have hlt : l < It := by obtain ⟨o, ho, _⟩ := hl; rw [← hIt]; exact Heap.lt_size ho
  have n1 : It + 2 ≠ It := Nat.ne_of_gt (Nat.lt_add_of_pos_right (by decide))
  have n2 : It + 1 ≠ It := Nat.succ_ne_self _
  have hR : Room (k + 1) A.in1.in1.in1.in1 := Room.in4 (by have := R; rwa [hk] at this)
  have W := walks_map (A := A.in1.in1.in1) (k := k) R.han hR X₄.base sub fresh hmp htp hit (isList_stab sub hl) hS n1 n2 (Nat.ne_of_lt hlt)
  refine call_tuple_map W (fun i s' st => ⟨_, st.1 _ _ n1 hmp, rfl⟩) ⟨fun b o _ e => e, hit, X₄.tok⟩ (fun b hb => List.mem_range.mp hb) (List.mem_range.mpr (Heap.lt_size hmp)) (fun s' acc hm hacc => ?_) (by rw [sizeLine_eq]; omega)
  have s4' : Sub s₄.heap s'.heap := fun b o e => hm.heap b o (fun hb => by rw [List.mem_singleton] at hb; rw [hb, fresh] at e; cases e) (sub b o e)
  have k4' : Kp s₄ s' := ⟨⟨s'.heap, s'.toks, by
    have e1 := hm.gens
    have e2 := hm.drawn
    have e3 := hm.os
    obtain ⟨a, b, c, d, e⟩ := s'
    simp only at e1 e2 e3 ⊢
    rw [e1, e2, e3], s4'⟩, hm.toks⟩
  have X' := X₄.keeps k4'
  exact ⟨Kp.trans' k04 (Kp.trans' k4' (Kp.mk' (t := s'.toks) (push_sub _ _))), _, acc, rfl, ⟨_, hide_push X'.live rfl, rfl, _, rfl⟩, items_strs hacc⟩
end Mine
namespace Mine
open PySem.SeqAt
open AutoSeq1 (wpAny_loadPart')
open MeetsSeq MeetsSeq2 MeetsSeq3 SeqRoads2

def listLt : List Str → List Str → Bool
  | [], [] => false
  | [], _ :: _ => true
  | _ :: _, [] => false
  | x :: xs, y :: ys => if (x == y) = true then listLt xs ys else slt x y
def listGt (xs ys : List Str) : Bool := listLt ys xs
theorem listLt_size : ∀ {xs ys : List Str} , xs = [] ∨ ys = [] → listLt xs ys = decide (xs.length < ys.length)
  | [], [], _ => rfl
  | [], _ :: _, _ => by simp [listLt]
  | _ :: _, [], _ => by simp [listLt]
  | _ :: _, _ :: _, h => by simp at h
theorem listGt_size {xs ys : List Str} (h : xs = [] ∨ ys = []) : listGt xs ys = decide (xs.length > ys.length) := listLt_size h.symm
theorem strs_get? {vs : Array Value} {xs : List Str} (h : StrsAre vs.toList xs) (i : Nat) (hi : i < xs.length) : ∃ t, vs[((i : Nat) : Int).toNat]? = some (.str (xs[i]'hi) t) := by
  obtain ⟨t, e⟩ := StrsAre.get? h i hi
  refine ⟨t, ?_⟩
  rw [List.getD_eq_getElem?_getD, List.getElem?_eq_getElem hi] at e
  simpa using e
theorem strs_none {vs : Array Value} {xs : List Str} (h : StrsAre vs.toList xs) (i : Nat) (hi : xs.length ≤ i) : vs[((i : Nat) : Int).toNat]? = none := by
  have := StrsAre.len h
  rw [Array.length_toList] at this
  simp; omega
theorem strs_size {vs : Array Value} {xs : List Str} (h : StrsAre vs.toList xs) : vs.size = xs.length := by rw [← Array.length_toList]; exact StrsAre.len h

theorem listLt_cons (x y : Str) (xs ys : List Str) : listLt (x :: xs) (y :: ys) = if (x == y) = true then listLt xs ys else slt x y := rfl
theorem lt_loopS (l b : Addr) (items items2 : Array Value) (n n2 : Nat) (dd dd2 : Option Addr) (sl sl2 : Array (Option Value)) (xs ys : List Str) (hx : StrsAre items.toList xs) (hy : StrsAre items2.toList ys) (k : Nat) :
    ∀ i : Nat, i ≤ xs.length → i ≤ ys.length → xs.length - i = k → Meets (Builtin.«list.__eq__.loop» ⟨[.ref l, .ref b, rawInt i, rawInt 0], []⟩)
      (fun A R s => s.heap.get? l = some { cls := .type "list", dict := dd, data := .seq items n, slots := sl } ∧ s.heap.get? b = some { cls := .type "list", dict := dd2, data := .seq items2 n2, slots := sl2 } ∧
        R (.ok (.ret (.bool (listLt (xs.drop i) (ys.drop i))))) s) := by
  have stop : ∀ i : Nat, i ≤ xs.length → i ≤ ys.length → xs.length = i ∨ ys.length = i → Meets (Builtin.«list.__eq__.loop» ⟨[.ref l, .ref b, rawInt i, rawInt 0], []⟩)
      (fun A R s => s.heap.get? l = some { cls := .type "list", dict := dd, data := .seq items n, slots := sl } ∧ s.heap.get? b = some { cls := .type "list", dict := dd2, data := .seq items2 n2, slots := sl2 } ∧
        R (.ok (.ret (.bool (listLt (xs.drop i) (ys.drop i))))) s) := by
    intro i h1 h2 he prog w A R s h
    obtain ⟨hp, g, d, tk, os⟩ := s
    obtain ⟨hl, hb, h⟩ := h
    have hd : listLt (xs.drop i) (ys.drop i) = decide (items.size < items2.size) := by
      rw [listLt_size (by rcases he with e | e <;> simp [e]), strs_size hx, strs_size hy, List.length_drop, List.length_drop]
      rw [decide_eq_decide]
      omega
    rw [hd] at h
    wp_walk using wpAny_loadPart' hl, wpAny_loadPart' hb
    rcases he with e | e
    · rw [strs_none hx i (by omega)]
      wp_walk using wpAny_loadPart' hl, wpAny_loadPart' hb
      exact h
    · rw [strs_none hy i (by omega)]
      cases items[((i : Nat) : Int).toNat]? <;> (wp_walk using wpAny_loadPart' hl, wpAny_loadPart' hb; exact h)
  induction k with
  | zero => intro i h1 h2 hk; exact stop i h1 h2 (.inl (by omega))
  | succ k ih =>
    intro i h1 h2 hk
    by_cases hyl : ys.length = i
    · exact stop i h1 h2 (.inr hyl)
    intro prog w A R s h
    have hlt : i < xs.length := by omega
    have hlt2 : i < ys.length := by omega
    obtain ⟨t, e1⟩ := strs_get? hx i hlt
    obtain ⟨u, e2⟩ := strs_get? hy i hlt2
    obtain ⟨hp, g, d, tk, os⟩ := s
    obtain ⟨hl, hb, h⟩ := h
    rw [List.drop_eq_getElem_cons hlt, List.drop_eq_getElem_cons hlt2, listLt_cons] at h
    have hc : ((i : Int) + 1) = ((i + 1 : Nat) : Int) := by push_cast; rfl
    wp_walk using wpAny_loadPart' hl, wpAny_loadPart' hb
    rw [e1, e2]
    refine wpAny_bind (EqAt.str_str xs[i] t ys[i] u prog w _ _ ?_)
    cases he : xs[i] == ys[i] with
    | true =>
      rw [he] at h
      wp_walk
      rw [hc]
      exact ⟨plainId_quiet plain_eq_loop _, codeAny_builtin entry_eq_loop (by
        rw [Around.under_plainId plain_eq_loop _]
        exact ih (i + 1) (by omega) (by omega) (by omega) prog w A R _ ⟨hl, hb, by simpa using h⟩)⟩
    | false =>
      rw [he] at h
      wp_walk using wpAny_loadPart' hl, wpAny_loadPart' hb
      rw [e1, e2]
      refine wpAny_bind (show wpAny _ _ (compareOp .Lt (.str xs[i] t) (.str ys[i] u)) _ _ _ from P.lt_str ?_)
      refine wpAny_pure ?_
      simpa [slt] using h

theorem list_ltS (l b : Addr) (items items2 : Array Value) (n n2 : Nat) (dd dd2 : Option Addr) (sl sl2 : Array (Option Value)) (xs ys : List Str) (hx : StrsAre items.toList xs) (hy : StrsAre items2.toList ys) :
    Meets (Builtin.«list.__lt__» ⟨[.ref l, .ref b], []⟩)
      (fun A R s => s.heap.get? l = some { cls := .type "list", dict := dd, data := .seq items n, slots := sl } ∧ s.heap.get? b = some { cls := .type "list", dict := dd2, data := .seq items2 n2, slots := sl2 } ∧
        R (.ok (.ret (.bool (listLt xs ys)))) s) := by
  intro prog w A R s h
  obtain ⟨hp, g, d, tk, os⟩ := s
  obtain ⟨hl, hb, h⟩ := h
  have f3 := AutoSeq1.sub_list_list
  wp_walk using wpAny_loadPart' hl, wpAny_loadPart' hb
  exact ⟨plainId_quiet plain_eq_loop _, codeAny_builtin entry_eq_loop (by
    rw [Around.under_plainId plain_eq_loop _]
    exact lt_loopS l b items items2 n n2 dd dd2 sl sl2 xs ys hx hy _ 0 (Nat.zero_le _) (Nat.zero_le _) rfl prog w A R _ ⟨hl, hb, by simpa using h⟩)⟩

theorem rc_lt {prog : Program} {w : World} {A : Around} {E : Value → Shared → Prop} {s : Shared} {v u : Value} {S : List Addr} {xs ys : List Str} {Q : Value → Shared → Prop} (hu : A.units < cLine) (hv : (TStrs xs).holds (hideAll s.heap S) v) (hw : (TStrs ys).holds (hideAll s.heap S) u) (h : Q (.bool (listLt xs ys)) s) :
    wpAny (model prog w) A (richCompare .Lt v u) Q E s := by
  obtain ⟨a, vs, rfl, hl, _, hA⟩ := lst_at hv
  obtain ⟨b, us, rfl, hb, _, hB⟩ := lst_at hw
  obtain ⟨⟨cls, dd, data, sl⟩, ho, hc, n, hd⟩ := id hl
  obtain ⟨⟨cls2, dd2, data2, sl2⟩, ho2, hc2, n2, hd2⟩ := id hb
  simp only at hc hd hc2 hd2
  subst hc hd hc2 hd2
  exact richCompare_meets_room (op := .Lt) ⟨_, ho, rfl⟩ ⟨_, ho2, rfl⟩ PySem.F.slot_list_lt PySem.F.entry_list_lt (PySem.F.args_list_lt_2 _ _) (list_ltS a b vs us n n2 dd dd2 sl sl2 xs ys (strsAre hA) (strsAre hB))
    ⟨ho, ho2, show Value.bool (listLt xs ys) ≠ Value.notImplemented ∧ Q (.bool (listLt xs ys)) s from ⟨(fun x => nomatch x), h⟩⟩ hu

theorem listGt_cons (x y : Str) (xs ys : List Str) : listGt (x :: xs) (y :: ys) = if (x == y) = true then listGt xs ys else slt y x := by
  show (if (y == x) = true then _ else _) = _
  rw [show (y == x) = (x == y) from by rw [Bool.eq_iff_iff, beq_iff_eq, beq_iff_eq]; exact eq_comm]; rfl
theorem gt_loopS (l b : Addr) (items items2 : Array Value) (n n2 : Nat) (dd dd2 : Option Addr) (sl sl2 : Array (Option Value)) (xs ys : List Str) (hx : StrsAre items.toList xs) (hy : StrsAre items2.toList ys) (k : Nat) :
    ∀ i : Nat, i ≤ xs.length → i ≤ ys.length → xs.length - i = k → Meets (Builtin.«list.__eq__.loop» ⟨[.ref l, .ref b, rawInt i, rawInt 4], []⟩)
      (fun A R s => s.heap.get? l = some { cls := .type "list", dict := dd, data := .seq items n, slots := sl } ∧ s.heap.get? b = some { cls := .type "list", dict := dd2, data := .seq items2 n2, slots := sl2 } ∧
        R (.ok (.ret (.bool (listGt (xs.drop i) (ys.drop i))))) s) := by
  have stop : ∀ i : Nat, i ≤ xs.length → i ≤ ys.length → xs.length = i ∨ ys.length = i → Meets (Builtin.«list.__eq__.loop» ⟨[.ref l, .ref b, rawInt i, rawInt 4], []⟩)
      (fun A R s => s.heap.get? l = some { cls := .type "list", dict := dd, data := .seq items n, slots := sl } ∧ s.heap.get? b = some { cls := .type "list", dict := dd2, data := .seq items2 n2, slots := sl2 } ∧
        R (.ok (.ret (.bool (listGt (xs.drop i) (ys.drop i))))) s) := by
    intro i h1 h2 he prog w A R s h
    obtain ⟨hp, g, d, tk, os⟩ := s
    obtain ⟨hl, hb, h⟩ := h
    have hd : listGt (xs.drop i) (ys.drop i) = decide (items.size > items2.size) := by
      rw [listGt_size (by rcases he with e | e <;> simp [e]), strs_size hx, strs_size hy, List.length_drop, List.length_drop]
      rw [decide_eq_decide]
      omega
    rw [hd] at h
    wp_walk using wpAny_loadPart' hl, wpAny_loadPart' hb
    rcases he with e | e
    · rw [strs_none hx i (by omega)]
      wp_walk using wpAny_loadPart' hl, wpAny_loadPart' hb
      exact h
    · rw [strs_none hy i (by omega)]
      cases items[((i : Nat) : Int).toNat]? <;> (wp_walk using wpAny_loadPart' hl, wpAny_loadPart' hb; exact h)
  induction k with
  | zero => intro i h1 h2 hk; exact stop i h1 h2 (.inl (by omega))
  | succ k ih =>
    intro i h1 h2 hk
    by_cases hyl : ys.length = i
    · exact stop i h1 h2 (.inr hyl)
    intro prog w A R s h
    have hlt : i < xs.length := by omega
    have hlt2 : i < ys.length := by omega
    obtain ⟨t, e1⟩ := strs_get? hx i hlt
    obtain ⟨u, e2⟩ := strs_get? hy i hlt2
    obtain ⟨hp, g, d, tk, os⟩ := s
    obtain ⟨hl, hb, h⟩ := h
    rw [List.drop_eq_getElem_cons hlt, List.drop_eq_getElem_cons hlt2, listGt_cons] at h
    have hc : ((i : Int) + 1) = ((i + 1 : Nat) : Int) := by push_cast; rfl
    wp_walk using wpAny_loadPart' hl, wpAny_loadPart' hb
    rw [e1, e2]
    refine wpAny_bind (EqAt.str_str xs[i] t ys[i] u prog w _ _ ?_)
    cases he : xs[i] == ys[i] with
    | true =>
      rw [he] at h
      wp_walk
      rw [hc]
      exact ⟨plainId_quiet plain_eq_loop _, codeAny_builtin entry_eq_loop (by
        rw [Around.under_plainId plain_eq_loop _]
        exact ih (i + 1) (by omega) (by omega) (by omega) prog w A R _ ⟨hl, hb, by simpa using h⟩)⟩
    | false =>
      rw [he] at h
      wp_walk using wpAny_loadPart' hl, wpAny_loadPart' hb
      rw [e1, e2]
      refine wpAny_bind (show wpAny _ _ (compareOp .Gt (.str xs[i] t) (.str ys[i] u)) _ _ _ from P.gt_str ?_)
      refine wpAny_pure ?_
      simpa [slt] using h

theorem list_gtS (l b : Addr) (items items2 : Array Value) (n n2 : Nat) (dd dd2 : Option Addr) (sl sl2 : Array (Option Value)) (xs ys : List Str) (hx : StrsAre items.toList xs) (hy : StrsAre items2.toList ys) :
    Meets (Builtin.«list.__gt__» ⟨[.ref l, .ref b], []⟩)
      (fun A R s => s.heap.get? l = some { cls := .type "list", dict := dd, data := .seq items n, slots := sl } ∧ s.heap.get? b = some { cls := .type "list", dict := dd2, data := .seq items2 n2, slots := sl2 } ∧
        R (.ok (.ret (.bool (listGt xs ys)))) s) := by
  intro prog w A R s h
  obtain ⟨hp, g, d, tk, os⟩ := s
  obtain ⟨hl, hb, h⟩ := h
  have f3 := AutoSeq1.sub_list_list
  wp_walk using wpAny_loadPart' hl, wpAny_loadPart' hb
  exact ⟨plainId_quiet plain_eq_loop _, codeAny_builtin entry_eq_loop (by
    rw [Around.under_plainId plain_eq_loop _]
    exact gt_loopS l b items items2 n n2 dd dd2 sl sl2 xs ys hx hy _ 0 (Nat.zero_le _) (Nat.zero_le _) rfl prog w A R _ ⟨hl, hb, by simpa using h⟩)⟩

theorem rc_gt {prog : Program} {w : World} {A : Around} {E : Value → Shared → Prop} {s : Shared} {v u : Value} {S : List Addr} {xs ys : List Str} {Q : Value → Shared → Prop} (hu : A.units < cLine) (hv : (TStrs xs).holds (hideAll s.heap S) v) (hw : (TStrs ys).holds (hideAll s.heap S) u) (h : Q (.bool (listGt xs ys)) s) :
    wpAny (model prog w) A (richCompare .Gt v u) Q E s := by
  obtain ⟨a, vs, rfl, hl, _, hA⟩ := lst_at hv
  obtain ⟨b, us, rfl, hb, _, hB⟩ := lst_at hw
  obtain ⟨⟨cls, dd, data, sl⟩, ho, hc, n, hd⟩ := id hl
  obtain ⟨⟨cls2, dd2, data2, sl2⟩, ho2, hc2, n2, hd2⟩ := id hb
  simp only at hc hd hc2 hd2
  subst hc hd hc2 hd2
  exact richCompare_meets_room (op := .Gt) ⟨_, ho, rfl⟩ ⟨_, ho2, rfl⟩ PySem.F.slot_list_gt PySem.F.entry_list_gt (PySem.F.args_list_gt_2 _ _) (list_gtS a b vs us n n2 dd dd2 sl sl2 xs ys (strsAre hA) (strsAre hB))
    ⟨ho, ho2, show Value.bool (listGt xs ys) ≠ Value.notImplemented ∧ Q (.bool (listGt xs ys)) s from ⟨(fun x => nomatch x), h⟩⟩ hu
end Mine
namespace Mine

theorem b_min2 {w : World} {k : Nat} {xs ys : List Str} : Fn w k (.builtin "min") [TLst [TStrs xs, TStrs ys]] (TStrs (if listLt ys xs = true then ys else xs)) := .mk fun A s vs S R hb ht hl ha => by
  obtain ⟨v, rfl, hv⟩ := ha.one
  obtain ⟨a, items, rfl, hL, _, hA⟩ := lst_at hv
  obtain ⟨v0, v1, hvs, h0, h1⟩ := hA.two
  have hit2 : items = #[v0, v1] := by rw [← Array.toList_inj, hvs]
  subst hit2
  have hname : (toString "min" ++ toString ".loop" : String) = "min.loop" := by decide
  have hun : A.in1.units < cLine := by have := R.uni; show A.units + 1 < _; omega
  refine call_function_tree PySem.F.kind_min PySem.F.plain_min PySem.F.entry_min (PySem.F.args_min1 _) ?_
  show wpAny _ A.in1 (Builtin.Builtins.bindParams "min" ["key", "default"] 0 ⟨[], []⟩ >>= _) _ _ s
  refine wpAny_bind (wpAny_of_eq (show Builtin.Builtins.bindParams "min" ["key", "default"] 0 ⟨[], []⟩ = pure [none, none] from rfl) ?_)
  refine wpAny_bind (wpAny_pure ?_)
  refine wpAny_bind (wpAny_pyIter_list hL ?_)
  generalize hI : s.heap.objs.size = I
  generalize hh : s.heap.push _ = h₁
  have sub1 : Sub s.heap h₁ := hh ▸ push_sub _ _
  have z1 : h₁.objs.size = I + 1 := by rw [← hh, Heap.size_push, hI]
  have it1 : h₁.IsListIter I a 0 := by rw [← hh, ← hI]; exact ⟨_, Heap.get?_push_size _ rfl, rfl, rfl⟩
  have hne : a ≠ I := by obtain ⟨o, ho, _⟩ := hL; rw [← hI]; exact Nat.ne_of_lt (Heap.lt_size ho)
  have nI : s.heap.get? I = none := fresh_size _ _ (by rw [hI]; exact Nat.le_refl _)
  have W := Walks.list (prog := PySem.Challenge.pw_rt0057_01) (w := w) (A := A.in1) R.han I a hne #[v0, v1]
  refine wpAny_bind (wpAny_newObj_type ?_)
  dsimp only
  rw [z1]
  generalize hh2 : h₁.push _ = h₂
  have sub2 : Sub h₁ h₂ := hh2 ▸ push_sub _ _
  have hS : h₂.get? (I + 1) = some { cls := .type "list", dict := none, data := .seq #[] 0, slots := #[] } := by rw [← hh2, ← z1]; exact Heap.get?_push_size _ rfl
  have nS : s.heap.get? (I + 1) = none := fresh_size _ _ (by rw [hI]; exact Nat.le_succ _)
  have hSI : I + 1 ≠ I := Nat.succ_ne_self _
  have hSa : I + 1 ≠ a := fun e => by obtain ⟨o, ho, _⟩ := hL; rw [← e, nS] at ho; cases ho
  -- what stood before stands, but for the walker and the record
  have keep : ∀ {h h' : Heap}, (∀ b o, b ∉ [I] → h.get? b = some o → h'.get? b = some o) → Sub s.heap h → Sub s.heap h' := fun k j b o e => k b o (fun hm => by rw [List.mem_singleton] at hm; rw [hm, nI] at e; cases e) (j b o e)
  have keepS : ∀ {h : Heap} {f : Obj → Obj}, Sub s.heap h → Sub s.heap (h.update (I + 1) f) := fun j b o e => (Heap.get?_update_other _ _ (fun q : I + 1 = b => by rw [← q, nS] at e; cases e)).trans (j b o e)
  have hSw : I + 1 ∉ [I] := by simp
  have st : ∀ {h : Heap} {i : Nat}, Sub s.heap h → h.IsListIter I a i → h.IsListIter I a i ∧ h.IsList a #[v0, v1] := fun j x => ⟨x, hL.at fun o e => j _ _ e⟩
  have iterU : ∀ {h : Heap} {i : Nat} {f : Obj → Obj}, h.IsListIter I a i → (h.update (I + 1) f).IsListIter I a i := fun x => x.at fun o e => (Heap.get?_update_other _ _ hSI).trans e
  rw [hname]
  refine wpAny_pure ⟨plainId_quiet PySem.F.plain_min_loop _, codeAny_builtin PySem.F.entry_min_loop ?_⟩
  rw [Around.under_plainId PySem.F.plain_min_loop _]
  -- the first item
  show wpAny _ A.in1 (seqItems? (.ref (I + 1)) >>= _) _ _ _
  refine wpAny_bind (wpAny_seqItems hS rfl ?_)
  show wpAny _ A.in1 (tryCatch (pyNext (.ref I)) _ >>= _) _ _ _
  refine wpAny_bind (wpAny_tryCatch (wpAny_with_toks (n := s.toks) (Nat.le_refl _) (W.item 0 _ _ _ (show (0 : Nat) < 2 by decide) (st (sub1.trans sub2) (it1.at fun o e => sub2 _ _ e)) fun u h₃ t₃ hu hst₃ hk₃ => ?_)))
  intro ht₃
  have hu0 : v0 = u := by simpa using hu
  subst hu0
  have j₃ := keep hk₃ (sub1.trans sub2)
  have hS₃ := hk₃ _ _ hSw hS
  show wpAny _ A.in1 (updateSeq (I + 1) (fun _ => #[v0, v0]) >>= _) _ _ _
  refine wpAny_bind (wpAny_updateSeq hS₃ rfl ?_)
  rw [hname]
  have hS₄ := Heap.get?_update_self (Obj.mapSeq (fun _ => #[v0, v0])) hS₃ rfl
  have i₄ := iterU (f := Obj.mapSeq (fun _ => #[v0, v0])) hst₃.1
  have j₄ := keepS (f := Obj.mapSeq (fun _ => #[v0, v0])) j₃
  refine wpAny_pure ⟨plainId_quiet PySem.F.plain_min_loop _, codeAny_builtin PySem.F.entry_min_loop ?_⟩
  rw [Around.under_plainId PySem.F.plain_min_loop _]
  -- the second
  show wpAny _ A.in1 (seqItems? (.ref (I + 1)) >>= _) _ _ _
  refine wpAny_bind (wpAny_seqItems hS₄ rfl ?_)
  show wpAny _ A.in1 (tryCatch (pyNext (.ref I)) _ >>= _) _ _ _
  refine wpAny_bind (wpAny_tryCatch (wpAny_with_toks (n := t₃) (Nat.le_refl _) (W.item 1 _ _ _ (show (1 : Nat) < 2 by decide) (st j₄ i₄) fun u h₅ t₅ hu hst₅ hk₅ => ?_)))
  intro ht₅
  have hu1 : v1 = u := by simpa using hu
  subst hu1
  have j₅ := keep hk₅ j₄
  have hS₅ := hk₅ _ _ hSw hS₄
  show wpAny _ A.in1 (tryCatch (holding [v1, v1] (richCompare .Lt v1 v0 >>= _)) _ >>= _) _ _ _
  refine wpAny_bind (wpAny_tryCatch (wpAny_holding (wpAny_bind (rc_lt (S := S) hun ((TStrs ys).stab (hide_mono j₅) h1) ((TStrs xs).stab (hide_mono j₅) h0) ?_))))
  refine wpAny_bind (wpAny_holding (wpAny_truthy_bool ?_))
  refine wpAny_bind (wpAny_letGo (wpAny_pure ?_))
  -- the end
  have fin : ∀ (u : Value) (h : Heap) (t c : Nat), s.toks ≤ t → Sub s.heap h → h.IsListIter I a 2 → h.get? (I + 1) = some { cls := .type "list", dict := none, data := .seq #[u, u] c, slots := #[] } → (TStrs (if listLt ys xs = true then ys else xs)).holds (hideAll s.heap S) u →
      codeAny (MM w) A (.builtin "min.loop" ⟨[.ref I, .none, .ref (I + 1)], []⟩) (wants (fun v s' => Kp s s' ∧ (TStrs (if listLt ys xs = true then ys else xs)).holds (hideAll s'.heap S) v) NoE) { s with heap := h, toks := t } := fun u h t c htt j hi hs hu => by
    refine codeAny_builtin PySem.F.entry_min_loop ?_
    rw [Around.under_plainId PySem.F.plain_min_loop _]
    show wpAny _ A.in1 (seqItems? (.ref (I + 1)) >>= _) _ _ _
    refine wpAny_bind (wpAny_seqItems hs rfl ?_)
    show wpAny _ A.in1 (tryCatch (pyNext (.ref I)) _ >>= _) _ _ _
    refine wpAny_bind (wpAny_tryCatch (wpAny_with_toks (n := t) (Nat.le_refl _) (W.done { s with heap := h, toks := t } _ _ (st j hi) fun h' t' hk' => ?_)))
    intro ht'
    have hs' := hk' _ _ hSw hs
    show wpAny _ A.in1 (updateSeq (I + 1) (fun _ => #[]) >>= _) _ _ _
    refine wpAny_bind (wpAny_updateSeq hs' rfl (wpAny_bind (wpAny_letGo (wpAny_pure ?_))))
    have j' := keepS (f := Obj.mapSeq (fun _ => #[])) (keep hk' j)
    exact ⟨⟨⟨_, _, rfl, j'⟩, Nat.le_trans htt ht'⟩, (TStrs _).stab (hide_mono j') hu⟩
  have tt₅ : s.toks ≤ t₅ := Nat.le_trans ht₃ ht₅
  cases hc : listLt ys xs with
  | true =>
    simp only [if_true]
    refine wpAny_bind (wpAny_updateSeq hS₅ rfl (wpAny_bind (wpAny_letGo ?_)))
    rw [hname]
    have hS₆ := Heap.get?_update_self (Obj.mapSeq (fun _ => #[v1, v1])) hS₅ rfl
    rw [hc] at fin
    exact wpAny_pure ⟨plainId_quiet PySem.F.plain_min_loop _, fin v1 _ t₅ _ tt₅ (keepS j₅) (iterU hst₅.1) hS₆ h1⟩
  | false =>
    simp only [Bool.false_eq_true, if_false]
    refine wpAny_bind (wpAny_letGo ?_)
    rw [hname]
    rw [hc] at fin
    exact wpAny_pure ⟨plainId_quiet PySem.F.plain_min_loop _, fin v0 _ t₅ _ tt₅ j₅ hst₅.1 hS₅ h0⟩

theorem b_max2 {w : World} {k : Nat} {xs ys : List Str} : Fn w k (.builtin "max") [TLst [TStrs xs, TStrs ys]] (TStrs (if listGt ys xs = true then ys else xs)) := .mk fun A s vs S R hb ht hl ha => by
  obtain ⟨v, rfl, hv⟩ := ha.one
  obtain ⟨a, items, rfl, hL, _, hA⟩ := lst_at hv
  obtain ⟨v0, v1, hvs, h0, h1⟩ := hA.two
  have hit2 : items = #[v0, v1] := by rw [← Array.toList_inj, hvs]
  subst hit2
  have hname : (toString "max" ++ toString ".loop" : String) = "max.loop" := by decide
  have hun : A.in1.units < cLine := by have := R.uni; show A.units + 1 < _; omega
  refine call_function_tree PySem.F.kind_max PySem.F.plain_max PySem.F.entry_max (PySem.F.args_max1 _) ?_
  show wpAny _ A.in1 (Builtin.Builtins.bindParams "max" ["key", "default"] 0 ⟨[], []⟩ >>= _) _ _ s
  refine wpAny_bind (wpAny_of_eq (show Builtin.Builtins.bindParams "max" ["key", "default"] 0 ⟨[], []⟩ = pure [none, none] from rfl) ?_)
  refine wpAny_bind (wpAny_pure ?_)
  refine wpAny_bind (wpAny_pyIter_list hL ?_)
  generalize hI : s.heap.objs.size = I
  generalize hh : s.heap.push _ = h₁
  have sub1 : Sub s.heap h₁ := hh ▸ push_sub _ _
  have z1 : h₁.objs.size = I + 1 := by rw [← hh, Heap.size_push, hI]
  have it1 : h₁.IsListIter I a 0 := by rw [← hh, ← hI]; exact ⟨_, Heap.get?_push_size _ rfl, rfl, rfl⟩
  have hne : a ≠ I := by obtain ⟨o, ho, _⟩ := hL; rw [← hI]; exact Nat.ne_of_lt (Heap.lt_size ho)
  have nI : s.heap.get? I = none := fresh_size _ _ (by rw [hI]; exact Nat.le_refl _)
  have W := Walks.list (prog := PySem.Challenge.pw_rt0057_01) (w := w) (A := A.in1) R.han I a hne #[v0, v1]
  refine wpAny_bind (wpAny_newObj_type ?_)
  dsimp only
  rw [z1]
  generalize hh2 : h₁.push _ = h₂
  have sub2 : Sub h₁ h₂ := hh2 ▸ push_sub _ _
  have hS : h₂.get? (I + 1) = some { cls := .type "list", dict := none, data := .seq #[] 0, slots := #[] } := by rw [← hh2, ← z1]; exact Heap.get?_push_size _ rfl
  have nS : s.heap.get? (I + 1) = none := fresh_size _ _ (by rw [hI]; exact Nat.le_succ _)
  have hSI : I + 1 ≠ I := Nat.succ_ne_self _
  have hSa : I + 1 ≠ a := fun e => by obtain ⟨o, ho, _⟩ := hL; rw [← e, nS] at ho; cases ho
  -- what stood before stands, but for the walker and the record
  have keep : ∀ {h h' : Heap}, (∀ b o, b ∉ [I] → h.get? b = some o → h'.get? b = some o) → Sub s.heap h → Sub s.heap h' := fun k j b o e => k b o (fun hm => by rw [List.mem_singleton] at hm; rw [hm, nI] at e; cases e) (j b o e)
  have keepS : ∀ {h : Heap} {f : Obj → Obj}, Sub s.heap h → Sub s.heap (h.update (I + 1) f) := fun j b o e => (Heap.get?_update_other _ _ (fun q : I + 1 = b => by rw [← q, nS] at e; cases e)).trans (j b o e)
  have hSw : I + 1 ∉ [I] := by simp
  have st : ∀ {h : Heap} {i : Nat}, Sub s.heap h → h.IsListIter I a i → h.IsListIter I a i ∧ h.IsList a #[v0, v1] := fun j x => ⟨x, hL.at fun o e => j _ _ e⟩
  have iterU : ∀ {h : Heap} {i : Nat} {f : Obj → Obj}, h.IsListIter I a i → (h.update (I + 1) f).IsListIter I a i := fun x => x.at fun o e => (Heap.get?_update_other _ _ hSI).trans e
  rw [hname]
  refine wpAny_pure ⟨plainId_quiet PySem.F.plain_max_loop _, codeAny_builtin PySem.F.entry_max_loop ?_⟩
  rw [Around.under_plainId PySem.F.plain_max_loop _]
  -- the first item
  show wpAny _ A.in1 (seqItems? (.ref (I + 1)) >>= _) _ _ _
  refine wpAny_bind (wpAny_seqItems hS rfl ?_)
  show wpAny _ A.in1 (tryCatch (pyNext (.ref I)) _ >>= _) _ _ _
  refine wpAny_bind (wpAny_tryCatch (wpAny_with_toks (n := s.toks) (Nat.le_refl _) (W.item 0 _ _ _ (show (0 : Nat) < 2 by decide) (st (sub1.trans sub2) (it1.at fun o e => sub2 _ _ e)) fun u h₃ t₃ hu hst₃ hk₃ => ?_)))
  intro ht₃
  have hu0 : v0 = u := by simpa using hu
  subst hu0
  have j₃ := keep hk₃ (sub1.trans sub2)
  have hS₃ := hk₃ _ _ hSw hS
  show wpAny _ A.in1 (updateSeq (I + 1) (fun _ => #[v0, v0]) >>= _) _ _ _
  refine wpAny_bind (wpAny_updateSeq hS₃ rfl ?_)
  rw [hname]
  have hS₄ := Heap.get?_update_self (Obj.mapSeq (fun _ => #[v0, v0])) hS₃ rfl
  have i₄ := iterU (f := Obj.mapSeq (fun _ => #[v0, v0])) hst₃.1
  have j₄ := keepS (f := Obj.mapSeq (fun _ => #[v0, v0])) j₃
  refine wpAny_pure ⟨plainId_quiet PySem.F.plain_max_loop _, codeAny_builtin PySem.F.entry_max_loop ?_⟩
  rw [Around.under_plainId PySem.F.plain_max_loop _]
  -- the second
  show wpAny _ A.in1 (seqItems? (.ref (I + 1)) >>= _) _ _ _
  refine wpAny_bind (wpAny_seqItems hS₄ rfl ?_)
  show wpAny _ A.in1 (tryCatch (pyNext (.ref I)) _ >>= _) _ _ _
  refine wpAny_bind (wpAny_tryCatch (wpAny_with_toks (n := t₃) (Nat.le_refl _) (W.item 1 _ _ _ (show (1 : Nat) < 2 by decide) (st j₄ i₄) fun u h₅ t₅ hu hst₅ hk₅ => ?_)))
  intro ht₅
  have hu1 : v1 = u := by simpa using hu
  subst hu1
  have j₅ := keep hk₅ j₄
  have hS₅ := hk₅ _ _ hSw hS₄
  show wpAny _ A.in1 (tryCatch (holding [v1, v1] (richCompare .Gt v1 v0 >>= _)) _ >>= _) _ _ _
  refine wpAny_bind (wpAny_tryCatch (wpAny_holding (wpAny_bind (rc_gt (S := S) hun ((TStrs ys).stab (hide_mono j₅) h1) ((TStrs xs).stab (hide_mono j₅) h0) ?_))))
  refine wpAny_bind (wpAny_holding (wpAny_truthy_bool ?_))
  refine wpAny_bind (wpAny_letGo (wpAny_pure ?_))
  -- the end
  have fin : ∀ (u : Value) (h : Heap) (t c : Nat), s.toks ≤ t → Sub s.heap h → h.IsListIter I a 2 → h.get? (I + 1) = some { cls := .type "list", dict := none, data := .seq #[u, u] c, slots := #[] } → (TStrs (if listGt ys xs = true then ys else xs)).holds (hideAll s.heap S) u →
      codeAny (MM w) A (.builtin "max.loop" ⟨[.ref I, .none, .ref (I + 1)], []⟩) (wants (fun v s' => Kp s s' ∧ (TStrs (if listGt ys xs = true then ys else xs)).holds (hideAll s'.heap S) v) NoE) { s with heap := h, toks := t } := fun u h t c htt j hi hs hu => by
    refine codeAny_builtin PySem.F.entry_max_loop ?_
    rw [Around.under_plainId PySem.F.plain_max_loop _]
    show wpAny _ A.in1 (seqItems? (.ref (I + 1)) >>= _) _ _ _
    refine wpAny_bind (wpAny_seqItems hs rfl ?_)
    show wpAny _ A.in1 (tryCatch (pyNext (.ref I)) _ >>= _) _ _ _
    refine wpAny_bind (wpAny_tryCatch (wpAny_with_toks (n := t) (Nat.le_refl _) (W.done { s with heap := h, toks := t } _ _ (st j hi) fun h' t' hk' => ?_)))
    intro ht'
    have hs' := hk' _ _ hSw hs
    show wpAny _ A.in1 (updateSeq (I + 1) (fun _ => #[]) >>= _) _ _ _
    refine wpAny_bind (wpAny_updateSeq hs' rfl (wpAny_bind (wpAny_letGo (wpAny_pure ?_))))
    have j' := keepS (f := Obj.mapSeq (fun _ => #[])) (keep hk' j)
    exact ⟨⟨⟨_, _, rfl, j'⟩, Nat.le_trans htt ht'⟩, (TStrs _).stab (hide_mono j') hu⟩
  have tt₅ : s.toks ≤ t₅ := Nat.le_trans ht₃ ht₅
  cases hc : listGt ys xs with
  | true =>
    simp only [if_true]
    refine wpAny_bind (wpAny_updateSeq hS₅ rfl (wpAny_bind (wpAny_letGo ?_)))
    rw [hname]
    have hS₆ := Heap.get?_update_self (Obj.mapSeq (fun _ => #[v1, v1])) hS₅ rfl
    rw [hc] at fin
    exact wpAny_pure ⟨plainId_quiet PySem.F.plain_max_loop _, fin v1 _ t₅ _ tt₅ (keepS j₅) (iterU hst₅.1) hS₆ h1⟩
  | false =>
    simp only [Bool.false_eq_true, if_false]
    refine wpAny_bind (wpAny_letGo ?_)
    rw [hname]
    rw [hc] at fin
    exact wpAny_pure ⟨plainId_quiet PySem.F.plain_max_loop _, fin v0 _ t₅ _ tt₅ j₅ hst₅.1 hS₅ h0⟩
end Mine
namespace Mine
section
variable {prog : Program} {w : World} {A : Around} {E : Value → Shared → Prop} {s : Shared}
theorem pyHash_true {Q : Int → Shared → Prop} (h : Q 1 { s with toks := s.toks + 1 }) : wpAny (model prog w) A (pyHash (.bool true)) Q E s := by
  have hT : s.TypeIs (.bool true) "bool" := PySem.typeIs_bool s true
  unfold pyHash
  have hv : [Value.bool true].any Value.onHeap = false := rfl
  refine wpAny_bind ?_
  rw [cRoomFor, if_neg (by rw [hv]; exact Bool.false_ne_true)]
  refine wpAny_pure ?_
  refine wpAny_bind (wpAny_specialOf hT PySem.F.slot_bool_hash.lookup ?_)
  show wpAny _ _ (if (some (Value.builtin "int.__hash__") == some Value.none) = true then _ else _) Q E s
  rw [if_neg (by rw [beq_builtin_none]; exact Bool.false_ne_true)]
  refine wpAny_bind (wpAny_specialOf hT PySem.F.slot_bool_hash.lookup ?_)
  show wpAny _ _ (callSpecialIfBoundUnlessNone? (.bool true) "__hash__" _ >>= _) Q E s
  refine wpAny_bind (wpAny_callSpecialIfBoundUnlessNone?_slot hT PySem.F.slot_bool_hash
    (wpAny_call_entry PySem.F.slot_bool_hash hT entry_int_hash
      (show wpAny _ _ (do ret (← mkInt 1)) _ _ s from wpAny_ret_mkInt ?_) (args_int_hash _)))
  show wpAny _ _ (if (decide (-(2 : Int) ^ 63 ≤ 1) && decide ((1 : Int) < 2 ^ 63)) = true then _ else _) Q E _
  rw [if_pos (by decide)]
  exact wpAny_pure h

def boolSet (led : Bool) : SetTable := (layNew (.fresh 0 0 led) #[] 1 (.bool true)).2.1
theorem boolSet_lay (led : Bool) : layNew (.fresh 0 0 led) #[] 1 (.bool true) = (#[(1, .bool true)], boolSet led, false, false) := by cases led <;> decide +kernel
theorem boolSet_eq (led : Bool) : boolSet led = { mask := 7, place := #[1], dummies := #[], finger := 0, led := led, moves := 0, plain := true } := by cases led <;> decide +kernel

abbrev setObj (es : Array (Int × Value)) (ep : Nat) (t : SetTable) : Obj := { cls := .type "set", dict := none, data := .set es ep t }

theorem set_add_first {a : Addr} {led : Bool} {Q : Value → Shared → Prop} (ho : s.heap.get? a = some (setObj #[] 0 (.fresh 0 0 led)))
    (h : ∀ h', Heap.SameBut a s.heap h' → h'.get? a = some (setObj #[(1, .bool true)] 1 (boolSet led)) → Q .none { s with heap := h', toks := s.toks + 1 }) :
    wpAny (model prog w) A (call (.builtin "set.add") [.ref a, .bool true]) Q E s := by
  have hT : s.TypeIs (.ref a) "set" := ⟨_, ho, rfl⟩
  refine wpAny_call_entry PySem.F.slot_set_add hT PySem.F.entry_set_add ?_ (PySem.F.args_set_add_2 _ _)
  unfold Builtin.«set.add» Builtin.Frozenset.oneOther
  simp only [List.isEmpty_nil, bind_assoc]
  unfold Builtin.Frozenset.addrOf setAdd
  refine wpAny_bind (wpAny_pure ?_)
  try dsimp only
  refine wpAny_bind (wpAny_pure ?_)
  try dsimp only
  refine wpAny_bind ?_
  refine wpAny_holding ?_
  refine wpAny_bind (pyHash_true ?_)
  unfold setAddHashed setAddHashedIn
  refine wpAny_holding (wpAny_bind (wpAny_setState_of (o := setObj #[] 0 (.fresh 0 0 led)) ho rfl rfl ?_))
  dsimp only
  rw [show byScan (.bool true) #[] = true from by simp [byScan, Value.scannable, scanBound]]
  simp only [↓reduceIte]
  unfold setAddByScan
  refine wpAny_bind ?_
  refine wpAny_bind (wpAny_rule ?_)
  show wpAny _ _ (setScanFrom a (.bool true) 1 true [] 0 >>= _) _ _ _
  unfold setScanFrom
  refine wpAny_bind (wpAny_pure ?_)
  dsimp only
  rw [boolSet_lay]
  dsimp only
  refine wpAny_bind (wpAny_pure ?_)
  rw [show (boolSet led).plain = true from by rw [boolSet_eq]]
  simp only [if_true]
  refine wpAny_bind (show wpAny _ _ (pure true) _ _ _ from wpAny_pure ?_)
  simp only [if_true]
  refine wpAny_bind (wpAny_storeSet_of ho rfl ?_ (by rw [sizeLine_eq]; decide))
  rw [show (boolSet led).tooFull = false from by cases led <;> decide +kernel]
  simp only [Bool.not_false, Bool.and_false, Bool.false_eq_true, if_false]
  refine wpAny_pure (wpAny_pure ?_)
  show wpAny _ _ (ret Value.none) _ _ _
  refine wpAny_pure ⟨_, rfl, h _ (Heap.SameBut.update ..) ?_⟩
  have := Heap.get?_update_self (Obj.putSet #[(1, .bool true)] (boolSet led)) ho (by rw [putSet_of _ _ rfl]; rfl)
  rw [putSet_of _ _ rfl] at this
  exact this

theorem set_add_again {a : Addr} {led : Bool} {ep : Nat} {Q : Value → Shared → Prop} (ho : s.heap.get? a = some (setObj #[(1, .bool true)] ep (boolSet led)))
    (h : Q .none { s with toks := s.toks + 1 }) :
    wpAny (model prog w) A (call (.builtin "set.add") [.ref a, .bool true]) Q E s := by
  have hT : s.TypeIs (.ref a) "set" := ⟨_, ho, rfl⟩
  have hf : (boolSet led).fits (#[((1 : Int), Value.bool true)] : Array (Int × Value)).size = true := by cases led <;> decide +kernel
  refine wpAny_call_entry PySem.F.slot_set_add hT PySem.F.entry_set_add ?_ (PySem.F.args_set_add_2 _ _)
  unfold Builtin.«set.add» Builtin.Frozenset.oneOther
  simp only [List.isEmpty_nil, bind_assoc]
  unfold Builtin.Frozenset.addrOf setAdd
  refine wpAny_bind (wpAny_pure ?_)
  try dsimp only
  refine wpAny_bind (wpAny_pure ?_)
  try dsimp only
  refine wpAny_bind ?_
  refine wpAny_holding ?_
  refine wpAny_bind (pyHash_true ?_)
  unfold setAddHashed setAddHashedIn
  refine wpAny_holding (wpAny_bind (wpAny_setState_of (o := setObj #[(1, .bool true)] ep (boolSet led)) ho rfl hf ?_))
  dsimp only
  rw [show byScan (.bool true) #[(1, .bool true)] = true from by simp [byScan, Value.scannable, scanBound]]
  simp only [↓reduceIte]
  unfold setAddByScan
  refine wpAny_bind ?_
  refine wpAny_bind (wpAny_rule ?_)
  show wpAny _ _ (setScanFrom a (.bool true) 1 true [(1, .bool true)] 0 >>= _) _ _ _
  unfold setScanFrom
  refine wpAny_bind ?_
  simp only [beq_self_eq_true, if_true]
  refine wpAny_bind (wpAny_setEpoch_of (o := setObj #[(1, .bool true)] ep (boolSet led)) ho rfl hf ?_)
  refine wpAny_bind (SeqAt.EqAt.bool_bool true true _ _ _ _ ?_)
  simp only [beq_self_eq_true, Bool.and_self, if_true]
  refine wpAny_pure ?_
  dsimp only
  refine wpAny_pure (wpAny_pure ?_)
  show wpAny _ _ (ret Value.none) _ _ _
  exact wpAny_pure ⟨_, rfl, h⟩

/-! the set is walked: one item -/
abbrev IsSetIter (h : Heap) (it a : Addr) (slot i : Int) (ep : Nat) : Prop := h.get? it = some { cls := .type "set_iterator", dict := none, data := .fields #[rawInt slot, rawInt i, .ref a, rawInt 1, rawInt ep], slots := #[] }
end
end Mine
namespace Mine
theorem entry_set_iter : entryFor table "set.__iter__" = some Builtin.«frozenset.__iter__» :=
  entryFor_alias (id' := "frozenset.__iter__") (by kernel_rfl) rfl (by decide +kernel) (by kernel_rfl)
theorem slot_setit_next : Slot "set_iterator" "__next__" "set_iterator.__next__" :=
  .of (owner := "set_iterator") (n := "__next__") (by rw [typeLookup_type, builtinLookup_eq_fast]; kernel_rfl) (by decide +kernel) (by decide +kernel) (by decide +kernel)
    (by first | exact .inl (by decide +kernel) | exact .inr (by decide +kernel)) (by rw [isSubtype_type]; kernel_rfl)
theorem owner_setit : Manifest.owners.lookup (String.ofList ['r', 'o', 't', 'a', 'r', 'e', 't', 'i', '_', 't', 'e', 's'].reverse) = some Manifest.sig_set_iterator := by kernel_rfl
theorem args_setit_next (a : Value) : argsOk "set_iterator.__next__" ⟨[a], []⟩ := by
  unfold argsOk; rw [signature?_of (id := "set_iterator.__next__") (n := ['_', '_', 't', 'x', 'e', 'n', '_', '_']) (o := ['r', 'o', 't', 'a', 'r', 'e', 't', 'i', '_', 't', 'e', 's']) (by kernel_rfl) owner_setit]; kernel_rfl
theorem entry_setit_next : entryFor table "set_iterator.__next__" = some Builtin.«set_iterator.__next__» := entryFor_of_tree (by kernel_rfl)

section
variable {prog : Program} {w : World} {A : Around} {E : Value → Shared → Prop} {s : Shared}
theorem boolSet_fits (led : Bool) : (boolSet led).fits (#[((1 : Int), Value.bool true)] : Array (Int × Value)).size = true := by cases led <;> decide +kernel

theorem pyIter_set {a : Addr} {led : Bool} {ep : Nat} {Q : Value → Shared → Prop} (ho : s.heap.get? a = some (setObj #[(1, .bool true)] ep (boolSet led)))
    (h : ∀ tk, s.toks ≤ tk → Q (.ref s.heap.objs.size) { s with heap := s.heap.push { cls := .type "set_iterator", dict := none, data := .fields #[rawInt 0, rawInt 0, .ref a, rawInt 1, rawInt ep], slots := #[] }, toks := tk }) :
    wpAny (model prog w) A (pyIter (.ref a)) Q E s := by
  have hT : s.TypeIs (.ref a) "set" := ⟨_, ho, rfl⟩
  refine wpAny_pyIter_slot hT PySem.F.slot_set_iter (wpAny_call_entry PySem.F.slot_set_iter hT entry_set_iter ?_ (PySem.F.args_set_iter_1 _))
  unfold Builtin.«frozenset.__iter__» Builtin.Frozenset.slot0 slotArgs
  simp only [List.isEmpty_nil, Bool.not_true, Bool.false_eq_true, ↓reduceIte, bind_assoc, List.length_nil, bne_self_eq_false]
  unfold Builtin.Frozenset.addrOf Builtin.Frozenset.sizeOf
  refine wpAny_bind (wpAny_pure ?_)
  try dsimp only
  refine wpAny_bind (wpAny_pure ?_)
  refine wpAny_bind (wpAny_bind (wpAny_setEntries_of ho rfl (boolSet_fits led) (wpAny_pure ?_)))
  unfold setDrawn
  refine wpAny_bind (wpAny_bind (wpAny_setState_of ho rfl (boolSet_fits led) ?_))
  unfold setsByText
  refine wpAny_bind (wpAny_bind (wpAny_askSetting (wpAny_pure (wpAny_pure ?_))))
  generalize hx : (!_ && _) = x
  have hx0 : x = false := by
    subst hx
    rw [boolSet_eq]
    cases (Setting.mk (model prog w).prog (model prog w).w.params).params.followText "set-order" <;> rfl
  subst hx0
  simp only [Bool.false_eq_true, if_false]
  refine wpAny_bind (wpAny_pure ?_)
  refine wpAny_bind (wpAny_setEpoch_of ho rfl (boolSet_fits led) ?_)
  unfold newFields
  refine wpAny_bind (wpAny_newObj_type ?_)
  refine wpAny_pure ⟨_, rfl, "set_iterator", _, ⟨_, Heap.get?_push_size _ rfl, rfl⟩, slot_setit_next.lookup, h s.toks (Nat.le_refl _)⟩

theorem pick_one {α : Type} (f : Nat → Nat) (x : α) : pickOrder f #[x] = #[x] := by
  unfold pickOrder
  simp [pickOrder.go, Nat.mod_one]
theorem setNext_end {a : Addr} {led : Bool} {ep : Nat} {Q : Option (Value × Nat) → Shared → Prop} (hled : led = !(w.params.followText "set-order")) (ho : s.heap.get? a = some (setObj #[(1, .bool true)] ep (boolSet led)))
    (h : Q none s) : wpAny (model prog w) A (setNext a (if w.params.followText "set-order" = true then 0 else 2) 1 ep) Q E s := by
  unfold setNext
  refine wpAny_bind (wpAny_setState_of ho rfl (boolSet_fits led) ?_)
  dsimp only
  unfold setsByText
  refine wpAny_bind (wpAny_bind (wpAny_askSetting (wpAny_pure ?_)))
  show wpAny _ _ (if w.params.followText "set-order" = true then _ else _) _ _ _
  cases hb : w.params.followText "set-order" with
  | true =>
    simp only [if_true]
    rw [if_neg (by simp)]
    unfold setWalk
    refine wpAny_bind (wpAny_bind (wpAny_setState_of ho rfl (boolSet_fits led) ?_))
    dsimp only
    unfold setsByText
    refine wpAny_bind (wpAny_bind (wpAny_askSetting (wpAny_pure ?_)))
    show wpAny _ _ (if w.params.followText "set-order" = true then _ else _) _ _ _
    rw [hb]
    simp only [if_true]
    refine wpAny_bind (wpAny_askSetting (wpAny_pure ?_))
    rw [pick_one]
    exact wpAny_pure h
  | false =>
    simp only [Bool.false_eq_true, if_false]
    rw [hb] at hled
    subst hled
    rw [if_neg (by decide +kernel)]
    rw [show boolSet (!false) = boolSet true from rfl, boolSet_eq]
    exact wpAny_bind (wpAny_of_eq (a := ()) rfl (wpAny_pure h))
theorem setNext_first {a : Addr} {led : Bool} {ep : Nat} {Q : Option (Value × Nat) → Shared → Prop} (hled : led = !(w.params.followText "set-order")) (ho : s.heap.get? a = some (setObj #[(1, .bool true)] ep (boolSet led)))
    (h : Q (some (.bool true, if w.params.followText "set-order" = true then 0 else 2)) s) : wpAny (model prog w) A (setNext a 0 0 ep) Q E s := by
  unfold setNext
  refine wpAny_bind (wpAny_setState_of ho rfl (boolSet_fits led) ?_)
  dsimp only
  unfold setsByText
  refine wpAny_bind (wpAny_bind (wpAny_askSetting (wpAny_pure ?_)))
  show wpAny _ _ (if w.params.followText "set-order" = true then _ else _) _ _ _
  cases hb : w.params.followText "set-order" with
  | true =>
    rw [hb] at h
    simp only [if_true] at h ⊢
    rw [if_neg (by simp)]
    unfold setWalk
    refine wpAny_bind (wpAny_bind (wpAny_setState_of ho rfl (boolSet_fits led) ?_))
    dsimp only
    unfold setsByText
    refine wpAny_bind (wpAny_bind (wpAny_askSetting (wpAny_pure ?_)))
    show wpAny _ _ (if w.params.followText "set-order" = true then _ else _) _ _ _
    rw [hb]
    simp only [if_true]
    refine wpAny_bind (wpAny_askSetting (wpAny_pure ?_))
    rw [pick_one]
    exact wpAny_pure h
  | false =>
    rw [hb] at h
    simp only [Bool.false_eq_true, if_false] at h ⊢
    rw [hb] at hled
    subst hled
    rw [if_neg (by decide +kernel)]
    rw [show boolSet (!false) = boolSet true from rfl, boolSet_eq]
    exact wpAny_bind (wpAny_of_eq (a := ()) rfl (wpAny_pure h))
end
end Mine
namespace Mine
section
variable {prog : Program} {w : World} {A : Around} {E : Value → Shared → Prop} {s : Shared}

def nextSlot (w : World) : Nat := if w.params.followText "set-order" = true then 0 else 2
theorem setit_next_item {it a : Addr} {led : Bool} {ep : Nat} {Q : Value → Shared → Prop} (hled : led = !(w.params.followText "set-order")) (hi : IsSetIter s.heap it a 0 0 ep) (ho : s.heap.get? a = some (setObj #[(1, .bool true)] ep (boolSet led)))
    (hQ : ∀ h', IsSetIter h' it a (nextSlot w) 1 ep → Heap.SameBut it s.heap h' → Q (.bool true) { s with heap := h' }) :
    wpAny (model prog w) A (Builtin.«set_iterator.__next__» ⟨[.ref it], []⟩) (fun fin s' => ∃ v, fin = .done (.ret v) ∧ Q v s') E s := by
  show wpAny _ _ (fieldsOf (.ref it) >>= _) _ _ _
  refine wpAny_bind (wpAny_fieldsOf hi rfl ?_)
  show wpAny _ _ (setEntries a >>= _) _ _ _
  refine wpAny_bind (wpAny_setEntries_of ho rfl (boolSet_fits led) ?_)
  rw [if_neg (by decide)]
  show wpAny _ _ (setNext a 0 0 ep >>= _) _ _ _
  refine wpAny_bind (setNext_first hled ho ?_)
  show wpAny _ _ (setField (.ref it) 0 (rawInt (nextSlot w)) >>= _) _ _ _
  refine wpAny_bind (wpAny_setField_rec hi (by simp) fun h₁ hi₁ hs₁ => ?_)
  replace hs₁ : Heap.SameBut it s.heap h₁ := hs₁
  show wpAny _ _ (setField (.ref it) 1 (rawInt (0 + 1)) >>= _) _ _ _
  refine wpAny_bind (wpAny_setField_rec hi₁ (by simp) fun h₂ hi₂ hs₂ => ?_)
  replace hs₂ : Heap.SameBut it h₁ h₂ := hs₂
  refine wpAny_pure ⟨_, rfl, hQ h₂ ?_ (hs₁.trans hs₂)⟩
  exact hi₂

theorem setit_next_end {it a : Addr} {led : Bool} {ep : Nat} {Q : Fin → Shared → Prop} (hh : A.handled = none) (hled : led = !(w.params.followText "set-order")) (hi : IsSetIter s.heap it a (nextSlot w) 1 ep) (ho : s.heap.get? a = some (setObj #[(1, .bool true)] ep (boolSet led)))
    (hE : ∀ h' e, Heap.ExtBut it s.heap h' → (∃ o, h'.get? e = some o ∧ o.cls = .type "StopIteration") → E (.ref e) { s with heap := h' }) :
    wpAny (model prog w) A (Builtin.«set_iterator.__next__» ⟨[.ref it], []⟩) Q E s := by
  show wpAny _ _ (fieldsOf (.ref it) >>= _) _ _ _
  refine wpAny_bind (wpAny_fieldsOf hi rfl ?_)
  show wpAny _ _ (setEntries a >>= _) _ _ _
  refine wpAny_bind (wpAny_setEntries_of ho rfl (boolSet_fits led) ?_)
  rw [if_neg (by decide)]
  show wpAny _ _ (setNext a (nextSlot w) 1 ep >>= _) _ _ _
  refine wpAny_bind (setNext_end hled ho ?_)
  show wpAny _ _ (setField (.ref it) 2 .none >>= _) _ _ _
  refine wpAny_bind (wpAny_setField_rec hi (by simp) fun h₁ hi₁ hs₁ => ?_)
  replace hs₁ : Heap.SameBut it s.heap h₁ := hs₁
  show wpAny _ _ (newExc (.type "StopIteration") [] >>= _) _ _ _
  refine wpAny_bind ?_
  simp only [newExc, newTuple]
  refine wpAny_bind (wpAny_newObj_type ?_ (by size_fits))
  refine wpAny_bind (m := firstArgMember _ _) (wpAny_of_eq (a := Value.none) (by first | rfl | (simp only [firstArgMember]; rfl)) ?_)
  refine wpAny_newObj_type ?_ (by size_fits)
  simp only [raiseNew]
  refine wpAny_bind (wpAny_handled ?_)
  rw [hh]
  refine wpAny_bind (wpAny_pure (wpAny_throw ?_))
  exact hE _ _ ((hs₁.extBut.push _).push _) ⟨_, Heap.get?_push_size _ rfl, rfl⟩

theorem pyNext_set_item {it a : Addr} {led : Bool} {ep : Nat} {Q : Option Value → Shared → Prop} (hled : led = !(w.params.followText "set-order")) (hi : IsSetIter s.heap it a 0 0 ep) (ho : s.heap.get? a = some (setObj #[(1, .bool true)] ep (boolSet led)))
    (hQ : ∀ h', IsSetIter h' it a (nextSlot w) 1 ep → Heap.SameBut it s.heap h' → Q (some (.bool true)) { s with heap := h' }) : wpAny (model prog w) A (pyNext (.ref it)) Q E s := by
  have hT : s.TypeIs (.ref it) "set_iterator" := ⟨_, hi, rfl⟩
  unfold pyNext
  refine wpAny_bind (wpAny_attempt (wpAny_callSpecial?_slot (name := Str.ofString "__next__") hT slot_setit_next (wpAny_call_entry slot_setit_next hT entry_setit_next ?_ (args_setit_next _))))
  exact setit_next_item hled hi ho fun h' a b => wpAny_pure (hQ h' a b)
theorem pyNext_set_end {it a : Addr} {led : Bool} {ep : Nat} {Q : Option Value → Shared → Prop} (hh : A.handled = none) (hled : led = !(w.params.followText "set-order")) (hi : IsSetIter s.heap it a (nextSlot w) 1 ep) (ho : s.heap.get? a = some (setObj #[(1, .bool true)] ep (boolSet led)))
    (hQ : ∀ h', Heap.ExtBut it s.heap h' → Q none { s with heap := h' }) : wpAny (model prog w) A (pyNext (.ref it)) Q E s := by
  have hT : s.TypeIs (.ref it) "set_iterator" := ⟨_, hi, rfl⟩
  unfold pyNext
  refine wpAny_bind (wpAny_attempt (wpAny_callSpecial?_slot (name := Str.ofString "__next__") hT slot_setit_next (wpAny_call_entry slot_setit_next hT entry_setit_next ?_ (args_setit_next _))))
  refine setit_next_end (A := A.in1) hh hled hi ho fun h' e he' hx' => ?_
  obtain ⟨o, ho, hc⟩ := hx'
  refine wpAny_bind (wpAny_isInstance (T := "StopIteration") (b := true) ⟨o, ho, hc⟩ isSubtype_stop ?_)
  exact wpAny_pure (hQ _ he')

/-- one item unpacked out of it -/
theorem unpack_set {a : Addr} {led : Bool} {ep : Nat} {Q : List Value → Shared → Prop} (hh : A.handled = none) (hled : led = !(w.params.followText "set-order")) (ho : s.heap.get? a = some (setObj #[(1, .bool true)] ep (boolSet led)))
    (hQ : ∀ h' tk, s.toks ≤ tk → Sub s.heap h' → Q [.bool true] { s with heap := h', toks := tk }) : wpAny (model prog w) A (unpackItems (.ref a) 1 none) Q E s := by
  have hT : s.TypeIs (.ref a) "set" := ⟨_, ho, rfl⟩
  unfold unpackItems
  refine wpAny_bind ?_
  unfold notIterableAtAll
  refine wpAny_bind (wpAny_specialOf hT PySem.F.slot_set_iter.lookup ?_)
  refine wpAny_pure ?_
  simp only [Bool.false_eq_true, if_false]
  refine wpAny_bind (wpAny_holding (pyIter_set ho fun tk htk => ?_))
  generalize hI : s.heap.objs.size = I
  generalize hh1 : s.heap.push _ = h₁
  have sub : Sub s.heap h₁ := hh1 ▸ push_sub _ _
  have fr : s.heap.get? I = none := fresh_size _ _ (by rw [hI]; exact Nat.le_refl _)
  have hi : IsSetIter h₁ I a 0 0 ep := by rw [← hh1, ← hI]; exact Heap.get?_push_size _ rfl
  have keep : ∀ {h h' : Heap}, Heap.ExtBut I h h' → Sub s.heap h → Sub s.heap h' := fun x j b o e => x b o (fun q => by rw [q, fr] at e; cases e) (j b o e)
  refine wpAny_bind (wpAny_holding ?_)
  show wpAny _ _ (pyNext (.ref I) >>= _) _ _ _
  refine wpAny_bind (pyNext_set_item hled hi (sub _ _ ho) fun h₂ hi₂ hs₂ => ?_)
  replace hs₂ : Heap.SameBut I h₁ h₂ := hs₂
  have j₂ := keep hs₂.extBut sub
  refine wpAny_bind (wpAny_holding (show wpAny _ _ (pure []) _ _ _ from wpAny_pure ?_))
  refine wpAny_pure ?_
  rw [if_neg (by simp)]
  refine wpAny_bind (wpAny_holding (pyNext_set_end hh hled hi₂ (j₂ _ _ ho) fun h₃ he₃ => ?_))
  simp only [Option.isSome_none, Bool.false_eq_true, if_false]
  exact wpAny_pure (hQ h₃ tk htk (keep he₃ j₂))
end
end Mine
namespace Mine

section
variable {prog : Program} {w : World} {A : Around} {E : Value → Shared → Prop} {R : Result → Shared → Prop} {s : Shared}
theorem codeAny_setLoop {elt target iter : Expr} {scope : Scope} {pos : Pos} {it acc : Value} {env : Env} (I : Nat → Shared → Prop)
    (turn : ∀ n s, I n s → wpAny (model prog w) A (pyNext it) (fun r s₁ => match r with
      | none => R (.ok .next) s₁
      | some v => wpAny (model prog w) A (assign target env v) (fun _ s₂ => wpAny (model prog w) A (eval elt env) (fun x s₃ =>
          wpAny (model prog w) A (call (.builtin "set.add") [acc, x]) (fun _ s₄ => ∃ m, m < n ∧ I m s₄) NoE s₃) NoE s₂) NoE s₁) NoE s)
    (n : Nat) (h : I n s) (ht : ∀ v, letOwnedTupleGo target it v = pure () := by intro _; rfl) :
    codeAny (model prog w) A (.compLoop (.SetComp elt [⟨target, iter, [], 0⟩] scope pos) 0 it acc env) R s := by
  refine codeAny_loop rfl I (fun n s hI => ?_) n h
  show wpAny _ A ((compTurn (.SetComp elt [⟨target, iter, [], 0⟩] scope pos) 0 it acc env).onRaise (fun x => do noteFrame x env; theTreesLotGoes x)) _ _ s
  refine wpAny_noted (noE ?_)
  have e : compTurn (.SetComp elt [⟨target, iter, [], 0⟩] scope pos) 0 it acc env = (do
      standAt iter.pos
      match ← pyNext it with
      | none => pure (.done .next)
      | some v =>
        letOwnedTupleGo target it v
        assign target env v
        (do let v ← eval elt env; standAt elt.pos; let _ ← call (.builtin "set.add") [acc, v])
        again (.compLoop (.SetComp elt [⟨target, iter, [], 0⟩] scope pos) 0 it acc env)) := by rfl
  rw [e]
  refine wpAny_bind (wpAny_standAt (wpAny_bind (wpAny_mono (turn n s hI) (fun r s₁ h₁ => ?_) fun _ _ h' => h')))
  cases r with
  | none => exact wpAny_pure h₁
  | some v =>
    refine wpAny_bind (wpAny_of_eq (ht v) ?_)
    refine wpAny_bind (wpAny_mono h₁ (fun _ s₂ h₂ => ?_) fun _ _ h' => h')
    exact wpAny_bind (wpAny_bind (wpAny_mono h₂ (fun x s₄ h₄ => wpAny_bind (wpAny_standAt (wpAny_bind (wpAny_mono h₄ (fun _ s₅ h₅ => wpAny_pure (wpAny_pure ⟨rfl, h₅⟩)) fun _ _ h' => h')))) fun _ _ h' => h'))

theorem codeAny_setStart {elt target iter : Expr} {scope : Scope} {pos : Pos} {it acc : Value} {env : Env}
    (h0 : codeAny (model prog w) A (.compLoop (.SetComp elt [⟨target, iter, [], 0⟩] scope pos) 0 it acc env) R s)
    (h : wpAny (model prog w) A (pyIter it) (fun it' s' => codeAny (model prog w) A (.compLoop (.SetComp elt [⟨target, iter, [], 0⟩] scope pos) 0 it' acc env) R s')
      (notedBy (model prog w) A env fun x s' => R (.error x) s') s) :
    codeAny (model prog w) A (.compStart (.SetComp elt [⟨target, iter, [], 0⟩] scope pos) 0 it acc env) R s := by
  refine codeAny_of_tree ?_
  show wpAny _ _ ((compStart (.SetComp elt [⟨target, iter, [], 0⟩] scope pos) 0 it acc env).onRaise (fun x => do noteFrame x env; standAt theWindowsPlace)) _ _ s
  refine wpAny_notedAt ?_
  unfold compStart
  show wpAny _ _ (ask >>= _) _ _ s
  refine wpAny_bind (wpAny_askSetting (wpAny_ite ?_))
  split
  · first
      | exact wpAny_bind (wpAny_pure (wpAny_pure (And.intro rfl h0)))
      | exact wpAny_pure (And.intro rfl h0)
  · first
      | exact wpAny_bind (wpAny_rule (wpAny_bind (wpAny_standAt (wpAny_bind (wpAny_mono h (fun it' s' h' => wpAny_pure (And.intro rfl h')) fun _ _ x => x)))))
      | (refine wpAny_bind (wpAny_rule ?_); show wpAny _ _ (standAt iter.pos >>= _) _ _ s; exact wpAny_bind (wpAny_standAt (wpAny_bind (wpAny_mono h (fun it' s' h' => wpAny_pure (And.intro rfl h')) fun _ _ x => x))))

theorem newSet_exact {Q : Value → Shared → Prop}
    (h : Q (.ref s.heap.objs.size) { s with heap := s.heap.push (setObj #[] 0 (.fresh 0 0 (!(w.params.followText "set-order")))) }) :
    wpAny (model prog w) A (newSet (.type "set")) Q E s := by
  unfold newSet setsByText
  refine wpAny_bind (wpAny_bind (wpAny_askSetting (wpAny_pure ?_)))
  dsimp only
  simp only [newObj]
  exact wpAny_bind (wpAny_alloc (wpAny_pure h))
end

/-- a set of the one item True -/
def TOne (w : World) : FP := ⟨fun h v => ∃ a ep, v = .ref a ∧ h.get? a = some (setObj #[(1, .bool true)] ep (boolSet (!(w.params.followText "set-order")))), fun k ⟨a, ep, e, h⟩ => ⟨a, ep, e, k _ _ h⟩⟩
def setAt (led : Bool) (i : Nat) : Obj := if i = 0 then setObj #[] 0 (.fresh 0 0 led) else setObj #[(1, .bool true)] 1 (boolSet led)

section
variable {C : Cx} {n : Nat} {q : Nat → FP} {ρ : List (Str × FP)} {elt iter : Expr} {x : Str} {px pos : Pos} {scope : Scope} {cl : List (Str × Addr)} {A : Around} {s : Shared}
theorem Ev.setcomp (hsrc : Src C n q iter) (hclos : closureFor scope C.env = pure cl) (hcell : ∀ y ∈ scope.names, y.2 ≠ .cell) (hkind : scope.kind = .function) (hnames : ∀ y ∈ scope.names, y.2 = .local → scope.names.lookup y.1 = some .local)
    (hx : scope.names.lookup x = some .local) (hρ : ∀ yp ∈ ρ, yp ∈ C.ρ ∧ Caught C.env scope cl yp.1) (hn : 0 < n)
    (he : ∀ i Cc S', i < n → Ev (C.comp scope cl Cc S' ((x, q i) :: ρ)) elt (TBool true))
    (hs : ∀ x, foldedSetIterable iter C.env x = pure x := by intro _; rfl) : Ev C (.SetComp elt [⟨.Name x px, iter, [], 0⟩] scope pos) (TOne C.w) := .mk fun A s R X => by
  rw [arm_eval_SetComp]
  refine wpAny_comprehension_free (use := none) rfl hs hclos hkind hnames ?_
  generalize hled : (!(C.w.params.followText "set-order")) = led
  refine wpAny_mono (hsrc.go A s R X) (fun xv s₁ h₁ => wpAny_mono h₁ (fun it s₂ h₂ => ?_) fun _ _ x => x) fun _ _ x => x
  obtain ⟨I, fp, wr, P, St, rfl, W, hst, k₂, hlv, hfr, hfS, hP⟩ := h₂
  have wfp : ∀ b ∈ wr, b ∈ fp := W.sub
  have X₂ := X.keeps k₂
  refine newSet_exact (wpAny_newFunctionEnv hcell (by intro y hy; simp at hy) (fun h₁ hns₁ hsb₁ => ?_) hkind)
  rw [hled] at hns₁ hsb₁ ⊢
  dsimp only at hns₁ hsb₁ ⊢
  generalize hD : s₂.heap.objs.size = D at hns₁ hsb₁ ⊢
  generalize hH2 : s₂.heap.push (setObj #[] 0 (.fresh 0 0 led)) = H2 at hns₁ hsb₁ ⊢
  have hsz2 : H2.objs.size = D + 1 := by rw [← hH2, Heap.size_push, hD]
  generalize hC : H2.objs.size = Cc at hns₁ hsb₁ ⊢
  have hCD : Cc = D + 1 := by rw [← hC, hsz2]
  have hDC : D ≠ Cc := by rw [hCD]; exact Nat.ne_of_lt (Nat.lt_succ_self _)
  have newD2 : s₂.heap.get? D = none := fresh_size _ _ (by rw [hD]; exact Nat.le_refl _)
  have newC2 : s₂.heap.get? Cc = none := fresh_size _ _ (by rw [hD, hCD]; exact Nat.le_succ _)
  have old : ∀ b o, s₂.heap.get? b = some o → h₁.get? b = some o := fun b o e => by
    refine hsb₁.extBut b o (fun h => by rw [h, newC2] at e; cases e) (Heap.get?_push_of_some _ ?_)
    rw [← hH2]; exact Heap.get?_push_of_some _ e
  have hacc : h₁.get? D = some (setAt led 0) := hsb₁.extBut D _ hDC (Heap.get?_push_of_some _ (by rw [← hH2, ← hD]; exact Heap.get?_push_size _ rfl))
  have hDf : D ∉ fp := fun hm => by obtain ⟨o, e⟩ := hlv _ _ hst D hm; rw [newD2] at e; cases e
  have hCf : Cc ∉ fp := fun hm => by obtain ⟨o, e⟩ := hlv _ _ hst Cc hm; rw [newC2] at e; cases e
  have newD : s.heap.get? D = none := by
    cases e : s.heap.get? D with
    | none => rfl
    | some o => have := keeps_sub k₂ _ _ e; rw [newD2] at this; cases this
  have newC : s.heap.get? Cc = none := by
    cases e : s.heap.get? Cc with
    | none => rfl
    | some o => have := keeps_sub k₂ _ _ e; rw [newC2] at this; cases this
  let S' := D :: Cc :: (wr ++ C.S)
  have hDw : D ∉ wr := fun hm => hDf (wfp _ hm)
  have hCw : Cc ∉ wr := fun hm => hCf (wfp _ hm)
  let Inv : Nat → Shared → Prop := fun i s' => ∃ h tk m, s' = { s₂ with heap := h, toks := tk } ∧ s₂.toks ≤ tk ∧ h.Ns Cc m ∧ St i h ∧ h.get? D = some (setAt led i) ∧
    (∀ b o, b ≠ D → b ≠ Cc → b ∉ wr → s₂.heap.get? b = some o → h.get? b = some o)
  have xs : ∀ i h tk m (v : Value), h.Ns Cc m → m x = some v → St (i + 1) h → (∃ o, h.get? D = some o) → s₂.toks ≤ tk → (q i).holds (hideAll h S') v → (∀ b o, b ≠ D → b ≠ Cc → b ∉ wr → s₂.heap.get? b = some o → h.get? b = some o) →
      Xs (C.comp scope cl Cc S' ((x, q i) :: ρ)) { s₂ with heap := h, toks := tk } := fun i h tk m v hm hmx hsti hDl htk hv hk => by
    have ks : ∀ b o, s.heap.get? b = some o → h.get? b = some o := fun b o e => hk b o (fun hh => by rw [hh, newD] at e; cases e) (fun hh => by rw [hh, newC] at e; cases e) (fun hh => by rw [hfr b hh] at e; cases e) (keeps_sub k₂ _ _ e)
    have hsub : Sub (hideAll s.heap C.S) (hideAll h S') := hide_sub (fun b o _ e => ks b o e) fun a ha hn => by
      simp only [S', List.mem_cons, List.mem_append] at ha
      rcases ha with rfl | rfl | h | h
      · exact newD
      · exact newC
      · exact hfr a h
      · exact absurd h hn
    refine { base := X.base.stab ks, tok := Nat.le_trans X₂.tok htk, kind := hkind, glob := X.glob, blt := X.blt, live := (fun a ha => ?_), vars := (fun xp hxp => ?_), own := (fun a ha => nomatch ha) }
    · simp only [S', List.mem_cons, List.mem_append] at ha
      rcases ha with rfl | rfl | h' | h'
      · exact hDl
      · obtain ⟨o, _, _, e, _⟩ := hm; exact ⟨o, e⟩
      · exact hlv _ _ hsti a (wfp a h')
      · obtain ⟨o, e⟩ := X.live a h'; exact ⟨o, ks _ _ e⟩
    · rcases List.mem_cons.mp hxp with rfl | hxp
      · exact ⟨v, .inl ⟨lookup_relabel_local hx, m, hm, hmx⟩, hv⟩
      · obtain ⟨h1, h2⟩ := hρ xp hxp
        obtain ⟨u, hu, hpu⟩ := X.vars xp h1
        exact ⟨u, (h2.loads X.kind hu).stab ks, xp.2.stab hsub hpu⟩
  have hS' : ∀ b, b ∉ S' → b ≠ D ∧ b ≠ Cc ∧ b ∉ wr := fun b hb => by
    simp only [S', List.mem_cons, List.mem_append, not_or] at hb
    exact ⟨hb.1, hb.2.1, hb.2.2.1⟩
  have loop : ∀ i s', Inv i s' → i ≤ n → codeAny (MM C.w) A (.compLoop (.SetComp elt [⟨.Name x px, iter, [], 0⟩] scope pos) 0 (.ref I) (.ref D) (compEnvC scope cl Cc C.env)) (compPost (MM C.w) A NoE none (fun v s' => Kp s s' ∧ (TOne C.w).holds (hideAll s'.heap C.S) v) (.ref D) Cc) s' := fun i s' hi hin => by
    refine codeAny_setLoop (fun m s' => ∃ i, m = n + 1 - i ∧ i ≤ n ∧ Inv i s') ?_ (n + 1 - i) ⟨i, rfl, hin, hi⟩
    rintro m s' ⟨i, rfl, hin, h, tk, mm, rfl, htk, hm, hsti, hpl, hk⟩
    rcases Nat.lt_or_ge i n with hlt | hge
    · refine wpAny_with_toks (Nat.le_refl _) (W.item i _ _ _ hlt hsti fun v h' tk' hv hst' hkk => ?_)
      intro htk'
      dsimp only at htk' hkk ⊢
      have hk' : ∀ b o, b ≠ D → b ≠ Cc → b ∉ wr → s₂.heap.get? b = some o → h'.get? b = some o := fun b o h1 h2 h3 e => hkk b o h3 (hk b o h1 h2 h3 e)
      refine wpAny_assign_Name (wpAny_storeName_local (env := compEnvC scope cl Cc C.env) (lookup_relabel_local hx) (hm.at' fun o e => hkk Cc o hCw e) (fun h3 hn3 hs3 => ?_) (by show (scope.kind == .class || (scope.kind == .module && _)) = false; rw [hkind]; rfl))
      have hDl3 : h3.get? D = some (setAt led i) := (hs3.2 D hDC).trans (hkk D _ hDw hpl)
      have hst3 : St (i + 1) h3 := W.frame _ _ _ hst' fun b hb o e => (hs3.2 b (fun q => hCf (show Cc ∈ fp from (show b = Cc from q) ▸ hb))).trans e
      have hk3 : ∀ b o, b ≠ D → b ≠ Cc → b ∉ wr → s₂.heap.get? b = some o → h3.get? b = some o := fun b o h1 h2 h4 e => (hs3.2 b h2).trans (hk' b o h1 h2 h4 e)
      have hq3 : (q i).holds (hideAll h3 S') v := (q i).stab (hide_sub (fun b o hb e => hk3 b o (fun h => by rw [h, newD2] at e; cases e) (fun h => by rw [h, newC2] at e; cases e) (fun h => hb (List.mem_append_left _ h)) e) fun a ha hn => by
        simp only [S', List.mem_cons, List.mem_append] at ha
        rcases ha with rfl | rfl | h | h
        · exact newD2
        · exact newC2
        · exact absurd (List.mem_append_left _ h) hn
        · exact absurd (List.mem_append_right _ h) hn) (hP i v hv)
      have X3 := xs i h3 (tk' + 1) _ v hn3 (by simp) hst3 ⟨_, hDl3⟩ (by omega) hq3 hk3
      refine wpAny_mono ((he i Cc S' hlt).go A _ R X3) (fun y s₅ ⟨k₅, hy⟩ => ?_) fun _ _ x => x
      cases hy
      obtain ⟨⟨h5, tk5, rfl, s5⟩, ht5⟩ := k₅
      dsimp only at s5 ht5
      have hDl5 : h5.get? D = some (setAt led i) := s5 _ _ hDl3
      have fin : ∀ h6, Heap.SameBut D h5 h6 → h6.get? D = some (setAt led (i + 1)) → ∃ m, m < n + 1 - i ∧ ∃ i, m = n + 1 - i ∧ i ≤ n ∧ Inv i { s₂ with heap := h6, toks := tk5 + 1 } := fun h6 hs6 hd6 =>
        ⟨n + 1 - (i + 1), by omega, i + 1, rfl, hlt, h6, tk5 + 1, _, rfl, by omega, (hn3.keeps s5).sameBut hs6 (Ne.symm hDC), W.frame _ _ _ hst3 (fun b hb o e => (hs6.2 b (fun q => hDf (by rw [← q]; exact hb))).trans (s5 b o e)), hd6, fun b o h1 h2 h4 e => (hs6.2 b h1).trans (s5 _ _ (hk3 b o h1 h2 h4 e))⟩
      match i, hDl5, fin with
      | 0, hDl5, fin => exact set_add_first (led := led) hDl5 fun h6 hs6 hd6 => fin h6 hs6 hd6
      | i + 1, hDl5, fin => exact set_add_again (led := led) hDl5 (fin h5 (Heap.SameBut.refl ..) hDl5)
    · obtain rfl : i = n := Nat.le_antisymm hin hge
      refine wpAny_with_toks (Nat.le_refl _) (W.done _ _ _ hsti fun h' tk' hkk => ?_)
      intro htk'
      dsimp only at htk' hkk ⊢
      have hD' : h'.get? D = some (setObj #[(1, .bool true)] 1 (boolSet led)) := by
        have := hkk D _ hDw hpl
        unfold setAt at this
        rwa [if_neg (by omega)] at this
      have ks : Sub s.heap h' := fun b o e => hkk b o (fun hh => by rw [hfr b hh] at e; cases e) (hk b o (fun hh => by rw [hh, newD] at e; cases e) (fun hh => by rw [hh, newC] at e; cases e) (fun hh => by rw [hfr b hh] at e; cases e) (keeps_sub k₂ _ _ e))
      refine ⟨mm, hm.at' fun o e => hkk Cc o hCw e, fun h'' hs'' => ⟨⟨⟨h'', tk', ?_, fun b o e => (hs''.2 b (fun q => by rw [q, newC] at e; cases e)).trans (ks b o e)⟩, Nat.le_trans k₂.2 (Nat.le_trans htk htk')⟩, D, 1, rfl, ?_⟩⟩
      · obtain ⟨⟨a1, a2, a3, _⟩, _⟩ := k₂; rw [a3]
      · rw [hled]
        refine (hide_get ..).2 ⟨(hs''.2 D hDC).trans hD', fun hm => ?_⟩
        obtain ⟨o, e⟩ := X.live D hm
        rw [newD] at e; cases e
  have inv0 : Inv 0 { s₂ with heap := h₁, toks := s₂.toks + ([] : List (Str × Value)).length } := ⟨h₁, _, _, rfl, Nat.le_refl _, hns₁, W.frame _ _ _ hst (fun b _ o e => old b o e), hacc, fun b o _ _ _ e => old b o e⟩
  exact codeAny_setStart (loop 0 _ inv0 (Nat.zero_le _)) (W.self 0 _ _ _ (W.frame _ _ _ hst fun b _ o e => old b o e) (loop 0 _ inv0 (Nat.zero_le _)))
end
end Mine
namespace Mine
open Builtin Builtin.Str
theorem numbered_all {h : Heap} : ∀ (l : List (Str × Tok)), AllH h (strValues l) ((l.map (·.1)).map TStr)
  | [] => .nil
  | (x, t) :: l => .cons ⟨t, rfl⟩ (numbered_all l)

section
variable {F : Fx} {hK : Heap} {S₀ : List Addr} {ρ : List (Str × FP)} {ω : List (Addr × OP)} {s : Shared} {A : Around} {Q : Flow → Shared → Prop} {C : Cx} {p q r : FP} {e l x y z : Expr} {pos tpos px apos : Pos} {w : World} {k : Nat} {rest : List Stmt} {n : Str}

theorem Tt.tup {ps : List FP} (h : Ev C e (TTup ps)) (hz : ps.length ≤ 1000) (hi : ∀ env whole, isTrue e env whole = (do let v ← whole; standAt e.pos; holding [v] (truthy v)) := by intro _ _; rfl) : Tt C e (!ps.isEmpty) := .mk fun A s R X => by
  rw [hi]
  refine wpAny_bind ((h.go A s R X).use fun v s₁ k₁ hv => ?_)
  obtain ⟨a, vs, rfl, ht, _, hA⟩ := tup_at hv
  have hl := hA.length
  rw [Array.length_toList] at hl
  refine wpAny_bind (wpAny_standAt (wpAny_holding (truthy_tuple ht (by omega) ⟨Kp.trans' k₁ (Kp.toks (Nat.le_add_right _ 2)), ?_⟩)))
  rw [Bool.eq_iff_iff]
  simp only [Bool.not_eq_true', Array.isEmpty, decide_eq_false_iff_not, List.isEmpty_eq_false_iff, ne_eq]
  rw [hl, List.length_eq_zero_iff]
theorem Op2.titem {ps : List FP} {i : Int} {p : FP} (h0 : 0 ≤ i) (hz : ps.length ≤ 1000) (hp : ps[i.toNat]? = some p) : Op2 C getItem (TTup ps) (TInt i) p := .mk fun A s v u R X hv hu => by
  obtain ⟨t, rfl⟩ := hu
  obtain ⟨a, vs, rfl, hl, _, hA⟩ := tup_at hv
  obtain ⟨z, hz', hpz⟩ := hA.get i.toNat hp
  have hlen := hA.length
  rw [Array.length_toList] at hlen
  have hi : i.toNat < ps.length := (List.getElem?_eq_some_iff.mp hp).1
  refine PyProof.Rows.getItem_tuple hl (by omega) (by omega) (j := i.toNat) ?_ (by simpa using hz') ⟨Kp.rfl', hpz⟩
  unfold seqIndex?
  rw [hlen]
  split <;> first | omega | (split <;> first | rfl | omega | simp_all) | simp_all
theorem Ev.titem {ps : List FP} {i : Int} {p : FP} (h1 : Ev C l (TTup ps)) (h2 : Ev C x (TInt i)) (h0 : 0 ≤ i) (hz : ps.length ≤ 1000) (hp : ps[i.toNat]? = some p)
    (hs : ∀ o i, ∃ ops, subscripted x false o i = operate ops (getItem o i) := by intro _ _; exact ⟨_, rfl⟩) : Ev C (.Subscript l x pos) p := Ev.sub h1 h2 OfType.tup PySem.F.slot_tuple_getitem.lookup (Op2.titem h0 hz hp) hs
theorem Ev.ifexp_true (h1 : Tt C x true) (h2 : Ev C y p) : Ev C (.IfExp x y z pos) p := .mk fun A s R X => by
  refine wpAny_IfExp (wpAny_mono (h1.go A s R X) (fun b s₁ ⟨k₁, hb⟩ => ?_) fun _ _ x => x)
  subst hb
  simp only [if_true]
  exact (h2.go A s₁ R (X.keeps k₁)).after k₁

/-- x, = a set of one -/
theorem ex_assign_oneF {m : Nat} (H : Fs F hK S₀ ρ ω s) (R : Room F.k A) (h : Ev (F.cx S₀ ρ ω) e (TOne F.w)) (hx : StoreOk F.env n)
    (kk : ∀ s', Fs F hK S₀ ((n, TBool true) :: drp n ρ) ω s' → wpAny (MM F.w) A (execs rest F.env) Q NoE s')
    (hs : swapsWithSole [.Tuple [.Name n px] m tpos] e pos.line F.env = pure false := by rfl)
    (hw : swappedStores [.Tuple [.Name n px] m tpos] e F.env = pure none := by rfl) :
    wpAny (MM F.w) A (execs (.Assign [.Tuple [.Name n px] m tpos] e pos :: rest) F.env) Q NoE s := by
  refine wpAny_execs_cons (Assign_Tuple ?_ hs hw)
  refine H.ev R h fun v s₁ H₁ hv => ?_
  obtain ⟨a, ep, rfl, ho⟩ := hv
  rw [assign_Tuple]
  refine wpAny_bind (wpAny_standAt ?_)
  unfold unpack
  refine wpAny_bind (wpAny_holding ?_)
  show wpAny _ A (unpackItems (.ref a) 1 none) _ _ _
  refine unpack_set R.han rfl (of_hideAll _ ho) fun h' tk htk hk => ?_
  have H₂ := H₁.step (Kp.mk' (t := tk) hk htk)
  exact assignInOrder_cons (assign_Name (H₂.store hx (p := TBool true) rfl fun s₃ H₃ => assignInOrder_nil (kk s₃ H₃)))
end
end Mine
namespace Mine
open Builtin Builtin.Str
theorem b_split {w : World} {k : Nat} {x y : Str} (hy : (y.length == 0) = false) (hz : x.length ≤ 100000) : Fn w k (.builtin "str.split") [TStr x, TStr y] (TStrs (Txt.split x y)) := .mk fun A s vs S R hb ht hl ha => by
  obtain ⟨v, u, rfl, ⟨t, rfl⟩, ⟨u, rfl⟩⟩ := ha.two
  have hn : (partsBetween x (occurrences x y 0 x.length (x.length + 1)) y.length).length ≤ sizeLine := by
    have e1 := StrLaws.occ_length_le x y 0 x.length (x.length + 1)
    rw [length_partsBetween, sizeLine_eq]; omega
  have fin : ∀ (l : List (Str × Tok)) (tk : Nat), s.toks ≤ tk → l.map (·.1) = Txt.split x y → (fun v s' => Kp s s' ∧ (TStrs (Txt.split x y)).holds (hideAll s'.heap S) v) (.ref s.heap.objs.size) { s with toks := tk, heap := s.heap.push { cls := .type "list", data := .seq (strValues l).toArray } } := fun l tk htk e =>
    ⟨Kp.mk' (push_sub _ _) htk, _, (strValues l).toArray, rfl, ⟨_, hide_push hl rfl, rfl, _, rfl⟩, by rw [← e]; exact numbered_all l⟩
  cases h1 : (decide (x.length < y.length) || decide (Builtin.Str.strKind x < Builtin.Str.strKind y))
  · cases hf : (occurrences x y 0 x.length (x.length + 1)).isEmpty
    · refine call_meets PySem.F.slot_str_split (PySem.typeIs_str _ _ _) PySem.F.entry_str_split (PySem.F.args_str_split_2 _ _) (meets_str_split_sep x y t u h1 hy hf (by rw [sizeLine_eq]; omega) hn) ?_
      show wants _ NoE _ { s with toks := _, heap := s.heap.push { cls := .type "list", data := .seq (strsFrom s.toks (partsBetween x (occurrences x y 0 x.length (x.length + 1)) y.length)).toArray } }
      rw [strsFrom_eq]
      exact fin (numbered s.toks _) _ (Nat.le_add_right _ _) ((numbered_texts _ _).trans ((if_neg (ne_true_of_eq_false h1)).trans (if_neg (ne_true_of_eq_false hf))).symm)
    · exact call_meets PySem.F.slot_str_split (PySem.typeIs_str _ _ _) PySem.F.entry_str_split (PySem.F.args_str_split_2 _ _) (meets_str_split_not_found x y t u h1 hy hf)
        (fin [(x, t)] s.toks (Nat.le_refl _) ((if_neg (ne_true_of_eq_false h1)).trans (if_pos hf)).symm)
  · exact call_meets PySem.F.slot_str_split (PySem.typeIs_str _ _ _) PySem.F.entry_str_split (PySem.F.args_str_split_2 _ _) (meets_str_split_cannot_occur x y t u h1)
      (fin [(x, t)] s.toks (Nat.le_refl _) (if_pos h1).symm)
section
variable {C : Cx} {l x : Expr} {pos apos : Pos} {a b : Str}
theorem Ev.split (ho : Ev C l (TStr a)) (ha : EvL C pos [x] [TStr b]) (hy : (b.length == 0) = false) (hz : a.length ≤ 100000) (hline : (apos.endLine == pos.line) = true := by rfl) (hbase : ∀ env, attributeBase l "split" env (eval l env) = eval l env := by intro _; rfl)
    (he : ∀ env, starEach [x] env = (false, eval x env) :: starEach [] env := by intro _; rfl)
    (hfew : ((backTo pos (starEach [x] C.env)).all (fun x => !x.1) && (backToKw pos (keywordEach [] C.env)).all (fun x => x.1.isSome)
      && decide ([x].length + ([] : List Keyword).length + (if ([] : List Keyword).isEmpty then 0 else 1) < 30)) = true := by rfl) : Ev C (.Call (.Attribute l "split" apos) [x] [] pos) (TStrs (Txt.split a b)) :=
  Ev.meth ho ha PySem.F.slot_str_split PySem.F.plainAttrs_str PySem.F.type_str_split OfType.str notRef_str (b_split hy hz) hline hbase he rfl hfew
end

/-! ### commonpath of two -/
theorem listLt_irrefl : ∀ xs : List Str, listLt xs xs = false
  | [] => rfl
  | x :: xs => by unfold listLt; rw [if_pos (by simp)]; exact listLt_irrefl xs
theorem listLt_next : ∀ {xs ys : List Str}, listLt xs ys = true → ∀ i < xs.length, (∀ j < i, xs[j]? = ys[j]?) → i < ys.length
  | [], _, _, i, hi, _ => by simp at hi
  | _ :: _, [], h, _, _, _ => by simp [listLt] at h
  | x :: xs, y :: ys, h, 0, _, _ => by simp
  | x :: xs, y :: ys, h, i + 1, hi, hj => by
    have e := hj 0 (Nat.zero_lt_succ _)
    simp only [List.getElem?_cons_zero, Option.some.injEq] at e
    subst e
    unfold listLt at h
    rw [if_pos (by simp)] at h
    have := listLt_next h i (by simpa using hi) fun j hj' => by simpa using hj (j + 1) (Nat.succ_lt_succ hj')
    simpa using this
def parts (p : Str) : List Str := (Txt.split p slash).filter fun c => ((c.length : Int) != 0) && (c != Str.ofString ".")
def first2 (a b : List Str) : List Str := if listLt b a = true then b else a
def last2 (a b : List Str) : List Str := if listGt b a = true then b else a
/-- the common head -/
def heads : List Str → List Str → List Str
  | x :: xs, y :: ys => if (x != y) = true then [] else x :: heads xs ys
  | xs, _ => []
def common (a b : List Str) : List Str := heads (first2 a b) (last2 a b)
def commonP (p q : Str) : Str := slash ++ Txt.join slash (common (parts p) (parts q))
end Mine
namespace Mine

section
variable {w : World} {k : Nat} {s₀ : Shared} {env : Env} {Sc : List Addr} {hK : Heap} {S₀ : List Addr} {ρ : List (Str × FP)} {ω : List (Addr × OP)} {s : Shared} {A : Around} {Q : Flow → Shared → Prop} {e : Expr} {pos tpos px : Pos} {rest : List Stmt} {n : Str}
theorem ex_assign_one {m : Nat} (H : Fs ⟨w, k, s₀, env, Sc⟩ hK S₀ ρ ω s) (R : Room k A) (h : Ev (Fx.cx ⟨w, k, s₀, env, Sc⟩ S₀ ρ ω) e (TOne w)) (hx : StoreOk env n)
    (kk : ∀ s', Fs ⟨w, k, s₀, env, Sc⟩ hK S₀ ((n, TBool true) :: drp n ρ) ω s' → Run w A (execs rest env) Q s')
    (hs : swapsWithSole [.Tuple [.Name n px] m tpos] e pos.line env = pure false := by rfl)
    (hw : swappedStores [.Tuple [.Name n px] m tpos] e env = pure none := by rfl) :
    Run w A (execs (.Assign [.Tuple [.Name n px] m tpos] e pos :: rest) env) Q s := ⟨ex_assign_oneF H R h hx (fun s' H' => (kk s' H').go) hs hw⟩
theorem ex_break (h : Q .brk s) : Run w A (execs (.Break pos :: rest) env) Q s := ⟨wpAny_execs_cons (wpAny_Break h)⟩
end

theorem heads_all : ∀ {xs ys : List Str}, (∀ j < xs.length, xs[j]? = ys[j]?) → heads xs ys = xs
  | [], _, _ => by simp [heads]
  | x :: xs, [], h => by have := h 0 (by simp); simp at this
  | x :: xs, y :: ys, h => by
    have e := h 0 (by simp)
    simp only [List.getElem?_cons_zero, Option.some.injEq] at e
    subst e
    unfold heads
    rw [if_neg (by simp), heads_all fun j hj => by simpa using h (j + 1) (by simpa using hj)]
theorem heads_at : ∀ {xs ys : List Str} (i : Nat), (∀ j < i, xs[j]? = ys[j]?) → i < xs.length → i < ys.length → (xs.getD i default != ys.getD i default) = true → heads xs ys = xs.take i
  | [], _, i, _, h, _, _ => by simp at h
  | _ :: _, [], i, _, _, h, _ => by simp at h
  | x :: xs, y :: ys, 0, _, _, _, h => by
    unfold heads
    rw [if_pos (by simpa using h)]; rfl
  | x :: xs, y :: ys, i + 1, hj, h1, h2, h => by
    have e := hj 0 (Nat.zero_lt_succ _)
    simp only [List.getElem?_cons_zero, Option.some.injEq] at e
    subst e
    unfold heads
    rw [if_neg (by simp), List.take_succ_cons, heads_at i (fun j hj' => by simpa using hj (j + 1) (Nat.succ_lt_succ hj')) (by simpa using h1) (by simpa using h2) (by simpa using h)]

theorem first_last (a b : List Str) : first2 a b = last2 a b ∨ listLt (first2 a b) (last2 a b) = true := by
  unfold first2 last2 listGt
  cases h1 : listLt b a with
  | true =>
    cases h2 : listLt a b with
    | true => simp [h1]
    | false => simp [h1]
  | false =>
    cases h2 : listLt a b with
    | true => simp [h2]
    | false => simp
theorem next_ok {xs ys : List Str} (h : xs = ys ∨ listLt xs ys = true) (i : Nat) (hi : i < xs.length) (hj : ∀ j < i, xs[j]? = ys[j]?) : i < ys.length := by
  rcases h with rfl | h
  · exact hi
  · exact listLt_next h i hi hj

theorem split_len (x y : Str) : (Txt.split x y).length ≤ x.length + 2 := by
  unfold Txt.split
  split
  · show 1 ≤ _; omega
  · split
    · show 1 ≤ _; omega
    · rw [PySem.length_partsBetween]
      have := StrLaws.occ_length_le x y 0 x.length (x.length + 1)
      omega
theorem heads_sub : ∀ {xs ys : List Str}, (∀ c ∈ heads xs ys, c ∈ xs) ∧ (heads xs ys).length ≤ xs.length
  | [], _ => by simp [heads]
  | _ :: _, [] => by simp [heads]
  | x :: xs, y :: ys => by
    unfold heads
    split
    · simp
    · have ih := @heads_sub xs ys
      refine ⟨fun c hc => ?_, by simpa using ih.2⟩
      rcases List.mem_cons.mp hc with rfl | hc
      · exact .head _
      · exact .tail _ (ih.1 c hc)
theorem sum_le {n : Nat} : ∀ {l : List Str}, (∀ c ∈ l, c.length ≤ n) → (l.map (·.length)).sum ≤ l.length * n
  | [], _ => by simp
  | x :: l, h => by
    have ih := @sum_le n l fun c hc => h c (.tail _ hc)
    have hx := h x (.head _)
    rw [List.map_cons, List.sum_cons, List.length_cons, Nat.add_mul, Nat.one_mul]
    omega
theorem parts_ok {x : Str} (hx : x.length ≤ 900) : (∀ c ∈ parts x, c.length ≤ 900) ∧ (parts x).length ≤ 902 :=
  ⟨fun c hc => Nat.le_trans (part_short (List.mem_filter.mp hc).1) hx, Nat.le_trans (List.length_filter_le _ _) (Nat.le_trans (split_len _ _) (by omega))⟩
theorem def_134 (w : World) : DefAt w 134 (fdAt 134) (bodyAt 134) := ⟨⟨_, _, _, rfl⟩, by rfl, rfl, rfl, rfl, rfl, rfl, rfl, rfl, by decide⟩
def pq (p q : Str) (i : Nat) : Str := if i = 0 then p else q
theorem n_max (w : World) : nsIn (KK w) mainGlobals (Str.ofString "max") = some none := by rfl
theorem bb_max : bootBuiltins (Str.ofString "max") = some (.builtin "max") := by kernel_rfl

theorem fn_common (w : World) (k : Nat) (p q : Str) (hp : p.length ≤ 900) (hq : q.length ≤ 900) (sp : Txt.startswith p slash = true) (sq : Txt.startswith q slash = true) : Fn w (k + 3) (.ref 134) [TStrs [p, q]] (TStr (commonP p q)) := by
  refine Fn.enter (names := [Str.ofString "paths"]) (def_134 w) rfl (by decide) (by decide) (fun vs hv => ?_) fun A L S s₀ s R H => ?_
  · obtain ⟨a, rfl⟩ := args1 hv; rfl
  o_facts H
  refine ex_assign (p := TTup [TStr p, TStr q]) H R (Ev.tuple_map (k := k) (xs := [p, q]) rfl (Ev.var (by walk_at "mem")) (show (2 : Nat) ≤ 1000 by decide) rfl rfl rfl) (storeOk_of (by decide)) fun s₁ H₁ => ?_
  o_facts H₁
  refine ex_if (b := false) H₁ R (Tt.not (Tt.tup (ps := [TStr p, TStr q]) (Ev.var (by walk_at "mem")) (show (2 : Nat) ≤ 1000 by decide))) fun s₂ H₂ => ?_
  refine Run.nil ?_
  refine ex_if (b := false) H₂ R (Tt.of_bool (Ev.call (Ev.builtin rfl (n_isin _) bb_isin) (.inr (.inl ⟨_, rfl⟩)) (EvL.cons (Ev.titem (ps := [TStr p, TStr q]) (i := 0) (p := TStr p) (Ev.var (by walk_at "mem")) Ev.cint (by decide) (show (2 : Nat) ≤ 1000 by decide) rfl) (EvL.cons (Ev.builtin rfl (n_bytes _) bb_bytes) EvL.nil)) b_isin_bytes) (fun _ _ => rfl)) fun s₃ H₃ => ?_
  refine ex_assign H₃ R Ev.cstr (storeOk_of (by decide)) fun s₄ H₄ => ?_
  o_facts H₄
  refine ex_assign H₄ R Ev.cstr (storeOk_of (by decide)) fun s₅ H₅ => ?_
  o_facts H₅
  refine Run.nil ?_
  have src : ∀ {C : Cx} {e : Expr}, Ev C e (TTup [TStr p, TStr q]) → Src C 2 (fun i => TStr (pq p q i)) e := fun h => Src.tup (ps := [TStr p, TStr q]) h fun i x hx => by
    match i, hx with
    | 0, hx => cases hx; rfl
    | 1, hx => cases hx; rfl
    | i + 2, hx => simp at hx
  have hlen : ∀ i, (pq p q i).length ≤ 900 := fun i => by unfold pq; split <;> assumption
  refine ex_try H₅ ?_
  refine ex_assign_comp (n := 2) (b := fun _ => true) (q := fun i => TStr (pq p q i)) (r := fun i => TStrs (Txt.split (pq p q i) (Str.ofString "/"))) (ρc := [(Str.ofString "sep", TStr (Str.ofString "/"))]) H₅ R (src (Ev.var (by walk_at "mem"))) rfl (by decide) rfl (by decide) rfl (fun yp hyp => ?_) (by decide) (fun i Cc S' hi => TtIfs.nil) (fun i Cc S' hi _ => Ev.split (b := Str.ofString "/") (Ev.var (by walk_at "mem")) (EvL.cons (Ev.var (by walk_at "mem")) EvL.nil) (by decide) (by have := hlen i; omega)) (storeOk_of (by decide)) fun s₆ H₆ => ?_
  · rw [List.mem_singleton] at hyp; subst hyp
    exact ⟨by walk_at "mem", rfl, .inl rfl, rfl, rfl⟩
  rw [filter_all] at H₆
  have e6 : (List.range 2).map (fun i => TStrs (Txt.split (pq p q i) (Str.ofString "/"))) = [TStrs (Txt.split p (Str.ofString "/")), TStrs (Txt.split q (Str.ofString "/"))] := rfl
  rw [e6] at H₆
  o_facts H₆
  refine ex_try H₆ ?_
  refine ex_assign_one H₆ R (Ev.setcomp (n := 2) (q := fun i => TStr (pq p q i)) (ρ := [(Str.ofString "sep", TStr (Str.ofString "/"))]) (src (Ev.var (by walk_at "mem"))) rfl (by decide) rfl (by decide) rfl (fun yp hyp => ?_) (by decide) (fun i Cc S' hi => Ev.eq (Ev.startswith (Ev.var (by walk_at "mem")) (EvL.cons (Ev.var (by walk_at "mem")) EvL.nil)) ?_)) (storeOk_of (by decide)) fun s₇ H₇ => ?_
  · rw [List.mem_singleton] at hyp; subst hyp
    exact ⟨by walk_at "mem", rfl, .inl rfl, rfl, rfl⟩
  · congr 1
    unfold pq
    split
    · exact sp
    · exact sq
  o_facts H₇
  refine Run.nil ?_
  have short : ∀ (x : Str), x.length ≤ 900 → ∀ c ∈ Txt.split x (Str.ofString "/"), c.length ≤ 900 := fun x hx c hc => Nat.le_trans (part_short hc) hx
  have eqsp : ∀ i, Txt.split (pq p q i) (Str.ofString "/") = Txt.split (pq p q i) slash := fun _ => rfl
  refine ex_assign_comp (n := 2) (b := fun _ => true) (q := fun i => TStrs (Txt.split (pq p q i) (Str.ofString "/"))) (r := fun i => TStrs (parts (pq p q i))) (ρc := [(Str.ofString "curdir", TStr (Str.ofString "."))]) H₇ R (Src.lst (ps := [TStrs (Txt.split p (Str.ofString "/")), TStrs (Txt.split q (Str.ofString "/"))]) (Ev.var (by walk_at "mem")) (fun i x hx => ?_)) rfl (by decide) rfl (by decide) rfl (fun yp hyp => ?_) (by decide) (fun i Cc S' hi => TtIfs.nil) (fun i Cc S' hi _ => ?_) (storeOk_of (by decide)) fun s₈ H₈ => ?_
  · match i, hx with
    | 0, hx => cases hx; rfl
    | 1, hx => cases hx; rfl
    | i + 2, hx => simp at hx
  · rw [List.mem_singleton] at hyp; subst hyp
    exact ⟨by walk_at "mem", rfl, .inl rfl, rfl, rfl⟩
  · have hsh := short (pq p q i) (hlen i)
    have hsl := split_len (pq p q i) (Str.ofString "/")
    have hll := hlen i
    generalize hL : Txt.split (pq p q i) (Str.ofString "/") = sps at hsh hsl
    have hparts : parts (pq p q i) = sps.filter fun c => ((c.length : Int) != 0) && (c != Str.ofString ".") := by rw [← hL]; rfl
    rw [hparts]
    refine Ev.eq (Ev.comp (n := sps.length) (b := fun j => (((sps.getD j default).length : Int) != 0) && (sps.getD j default != Str.ofString ".")) (q := fun j => TStr (sps.getD j default)) (r := fun j => TStr (sps.getD j default)) (ρ := [(Str.ofString "curdir", TStr (Str.ofString "."))])
      (Src.strs (Ev.var (by walk_at "mem"))) rfl (by decide) rfl (by decide) rfl (fun yp hyp => ?_) ?_ (fun j Cc S' hj => TtIfs.one (Tt.and (Tt.str (Ev.var (by walk_at "mem")) (by have := hsh _ (getD_mem hj); omega)) fun _ => Tt.cmp (Ev.var (by walk_at "mem")) (Ev.var (by walk_at "mem")) Op2.ne_str)) (fun j Cc S' hj _ => Ev.var (by walk_at "mem"))) ?_
    · rw [List.mem_singleton] at hyp; subst hyp
      exact ⟨by walk_at "mem", rfl, .inl rfl, rfl, rfl⟩
    · omega
    · rw [range_filter default (fun c : Str => ((c.length : Int) != 0) && (c != Str.ofString ".")) TStr]
  rw [filter_all] at H₈
  have e8 : (List.range 2).map (fun i => TStrs (parts (pq p q i))) = [TStrs (parts p), TStrs (parts q)] := rfl
  rw [e8] at H₈
  o_facts H₈
  refine ex_assign (p := TStrs (first2 (parts p) (parts q))) H₈ R (Ev.call (Ev.builtin rfl (n_min _) bb_min) (.inr (.inl ⟨_, rfl⟩)) (EvL.cons (Ev.var (by walk_at "mem")) EvL.nil) b_min2) (storeOk_of (by decide)) fun s₉ H₉ => ?_
  o_facts H₉
  refine ex_assign (p := TStrs (last2 (parts p) (parts q))) H₉ R (Ev.call (Ev.builtin rfl (n_max _) bb_max) (.inr (.inl ⟨_, rfl⟩)) (EvL.cons (Ev.var (by walk_at "mem")) EvL.nil) b_max2) (storeOk_of (by decide)) fun s₁₀ H₁₀ => ?_
  o_facts H₁₀
  have hfl := first_last (parts p) (parts q)
  have hcm : common (parts p) (parts q) = heads (first2 (parts p) (parts q)) (last2 (parts p) (parts q)) := rfl
  have hs1 : (∀ c ∈ first2 (parts p) (parts q), c.length ≤ 900) ∧ (first2 (parts p) (parts q)).length ≤ 902 := by
    unfold first2
    split
    · exact parts_ok hq
    · exact parts_ok hp
  generalize hf : first2 (parts p) (parts q) = s1 at H₁₀ hfl hcm hs1
  generalize hg : last2 (parts p) (parts q) = s2 at H₁₀ hfl hcm
  refine ex_assign H₁₀ R (Ev.var (by walk_at "mem")) (storeOk_of (by decide)) fun s₁₁ H₁₁ => ?_
  o_facts H₁₁
  have fsz : ∀ c ∈ heads s1 s2, c.length ≤ 900 := fun c hc => hs1.1 c (heads_sub.1 c hc)
  have fln : (heads s1 s2).length ≤ 902 := Nat.le_trans heads_sub.2 hs1.2
  have fsum := sum_le fsz
  have fmul : (heads s1 s2).length * 900 ≤ 902 * 900 := Nat.mul_le_mul_right _ fln
  have l1 : (Str.ofString "/").length = 1 := by decide
  have ljoin : (Txt.join (Str.ofString "/") (heads s1 s2)).length ≤ 900000 := by
    show (Builtin.Str.glued _ _).length ≤ _
    rw [PySem.size_glued, l1]
    omega
  refine ex_forE (D := Unit) (ps := s1.map TStr) (q := fun i => TStr (s1.getD i default)) (fun i _ => ∀ j < i, s1[j]? = s2[j]?) (fun i _ => [(Str.ofString "common", TStrs s1), (Str.ofString "s2", TStrs s2), (Str.ofString "s1", TStrs s1), (Str.ofString "isabs", TBool true), (Str.ofString "sep", TStr (Str.ofString "/"))]) (fun _ _ => []) (fun _ => True) (fun _ => [(Str.ofString "common", TStrs (heads s1 s2)), (Str.ofString "isabs", TBool true), (Str.ofString "sep", TStr (Str.ofString "/"))]) (fun _ => []) ()
    (H₁₁.weak (by simp)) R (fun _ h => absurd h (Nat.not_lt_zero _)) (Ev.var (by walk_at "mem")) (fun i p => strs_get) (storeOk_of (by decide)) (storeOk_of (by decide)) (fun _ _ => rfl) (fun _ => rfl) (fun i d hK' S' s' hi hP H' => ?_) (fun d s' hP H' => ?_) (fun d s' _ H' => ?_) rfl
  · o_facts H'
    rw [List.length_map] at hi
    have hi2 := next_ok hfl i hi hP
    refine ex_if (b := s1.getD i default != at' s2 i) H' R (Tt.cmp (Ev.var (by walk_at "mem")) (Ev.item (i := (i : Int)) (Ev.var (by walk_at "mem")) (Ev.var (by walk_at "mem")) (by omega) (by omega) (strs_item hi2)) Op2.ne_str) fun s₂ H₂ => ?_
    cases hb : s1.getD i default != at' s2 i with
    | true =>
      refine ex_assign (p := TStrs (heads s1 s2)) H₂ R (Ev.eq (Ev.upto (i := (i : Int)) (Ev.var (by walk_at "mem")) (Ev.var (by walk_at "mem")) (by omega) (by rw [List.length_map]; omega)) (by rw [heads_at i hP hi hi2 hb, Int.toNat_natCast, ← List.map_take])) (storeOk_of (by decide)) fun s₃ H₃ => ?_
      o_facts H₃
      refine ex_break ⟨(), trivial, H₃.weak (by simp)⟩
    | false =>
      refine Run.nil (Run.nil ⟨(), fun j hj => ?_, H₂.weak (by simp)⟩)
      rcases Nat.lt_succ_iff_lt_or_eq.mp hj with h | rfl
      · exact hP j h
      · have e : s1.getD j default = s2.getD j default := by simpa [at'] using hb
        rw [List.getD_eq_getElem?_getD, List.getD_eq_getElem?_getD, List.getElem?_eq_getElem hi, List.getElem?_eq_getElem hi2] at e
        rw [List.getElem?_eq_getElem hi, List.getElem?_eq_getElem hi2]
        simpa using e
  · rw [List.length_map] at hP
    have hall := heads_all hP
    have H'' : Fs ⟨w, k + 2, s₀, callEnvC (fdAt 134) L 134, S⟩ s₀.heap S [(Str.ofString "common", TStrs (heads s1 s2)), (Str.ofString "isabs", TBool true), (Str.ofString "sep", TStr (Str.ofString "/"))] [] s' := by
      rw [hall]
      exact H'.weak (by simp)
    refine ex_assign H'' R (Ev.ifexp_true (Tt.of_bool (Ev.var (by walk_at "mem")) (fun _ _ => rfl)) (Ev.var (by walk_at "mem"))) (storeOk_of (by decide)) fun s₁ H₁ => ?_
    o_facts H₁
    refine ex_return (p := TStr (commonP p q)) H₁ R (Ev.eq (Ev.bin (Ev.var (by walk_at "mem")) (Ev.join (Ev.var (by walk_at "mem")) (Ev.var (by walk_at "mem")) (by rw [l1]; omega)) (Op2.add_str (by omega))) (by unfold commonP; rw [hcm]; rfl)) fun v s' H' hp => H'.ret hp
  · have H'' := H'
    refine ex_assign H'' R (Ev.ifexp_true (Tt.of_bool (Ev.var (by walk_at "mem")) (fun _ _ => rfl)) (Ev.var (by walk_at "mem"))) (storeOk_of (by decide)) fun s₁ H₁ => ?_
    o_facts H₁
    refine ex_return (p := TStr (commonP p q)) H₁ R (Ev.eq (Ev.bin (Ev.var (by walk_at "mem")) (Ev.join (Ev.var (by walk_at "mem")) (Ev.var (by walk_at "mem")) (by rw [l1]; omega)) (Op2.add_str (by omega))) (by unfold commonP; rw [hcm]; rfl)) fun v s' H' hp => H'.ret hp
end Mine
namespace Mine

/-! ### _law_apart -/
def apart1 (x y : Str) : Bool := !memB (commonP x y) [x, y]
def apartOf (x y : Str) : List (List Str) := if apart1 x y = true then [[baseP x, baseP y], [baseP y, baseP x]] else []
def apartIn (P : List Str) (k m : Nat) : List (List Str) := (List.range m).flatMap fun m => apartOf (at' P k) (at' P m)
def apartAt (P : List Str) (k : Nat) : List (List Str) := (List.range k).flatMap fun k => apartIn P k k
def apart (P : List Str) : List (List Str) := apartAt P 6
theorem apartIn_succ (P : List Str) (k m : Nat) : apartIn P k (m + 1) = apartIn P k m ++ apartOf (at' P k) (at' P m) := by
  unfold apartIn; rw [List.range_succ, List.flatMap_append]; simp
theorem apartAt_succ (P : List Str) (k : Nat) : apartAt P (k + 1) = apartAt P k ++ apartIn P k k := by
  unfold apartAt; rw [List.range_succ, List.flatMap_append]; simp
theorem apartOf_len (x y : Str) : (apartOf x y).length ≤ 2 := by unfold apartOf; split <;> simp
theorem apartIn_len (P : List Str) (k m : Nat) : (apartIn P k m).length ≤ 2 * m := by
  induction m with
  | zero => simp [apartIn]
  | succ m ih => rw [apartIn_succ, List.length_append]; have := apartOf_len (at' P k) (at' P m); omega
theorem apartAt_len (P : List Str) (k : Nat) : (apartAt P k).length ≤ 2 * (k * k) := by
  induction k with
  | zero => simp [apartAt]
  | succ k ih =>
    rw [apartAt_succ, List.length_append]
    have := apartIn_len P k k
    have e : (k + 1) * (k + 1) = k * k + 2 * k + 1 := by rw [Nat.add_mul, Nat.mul_add]; omega
    omega

theorem def_212 (w : World) : DefAt w 212 (fdAt 212) (bodyAt 212) := ⟨⟨_, _, _, rfl⟩, by rfl, rfl, rfl, rfl, rfl, rfl, rfl, rfl, by decide⟩
theorem g_134 (w : World) : nsIn (KK w) mainGlobals (Str.ofString "commonpath") = some (some (.ref 134)) := by rfl
theorem k_134 (w : World) : keepIn (KK w) (.ref 134) = true := by rfl

theorem fn_apart (w : World) (k : Nat) (P : List Str) (h6 : P.length = 6) (hz : ∀ x ∈ P, x.length ≤ 900) (hs : ∀ x ∈ P, Txt.startswith x slash = true) : Fn w (k + 6) (.ref 212) [TStrs P] (TRows (apart P)) := by
  refine Fn.enter (names := [Str.ofString "paths"]) (def_212 w) rfl (by decide) (by decide) (fun vs hv => ?_) fun A L S s₀ s R H => ?_
  · obtain ⟨a, rfl⟩ := args1 hv; rfl
  o_facts H
  refine ex_own (ps := []) H R EvL.nil (Nat.zero_le _) (storeOk_of (by decide)) fun a s₁ H₁ => ?_
  o_facts H₁
  refine ex_for (D := Unit) (q := fun i => TInt (i : Int)) (n := 6) (fun _ _ => True) (fun _ _ => [(Str.ofString "apart", TRef a), (Str.ofString "paths", TStrs P)]) (fun i _ => [(a, OLst ((apartAt P i).map TStrs))]) (fun _ => False) (fun _ => []) (fun _ => [(a, OLst [])]) ()
    H₁ R trivial (Src.range Ev.cint rfl (by decide)) (storeOk_of (by decide)) (fun _ _ => rfl) (fun _ => rfl) (fun i d hK' S' s' hi _ H' => ?_) (fun d s' _ H' => ?_) (fun d s' h => h.elim)
  · o_facts H'
    refine ex_for (D := Unit) (q := fun i => TInt (i : Int)) (n := i) (fun _ _ => True) (fun _ _ => [(Str.ofString "k", TInt (i : Int)), (Str.ofString "apart", TRef a), (Str.ofString "paths", TStrs P)]) (fun m _ => [(a, OLst ((apartAt P i ++ apartIn P i m).map TStrs))]) (fun _ => False) (fun _ => []) (fun _ => [(a, OLst [])]) ()
      (by
        have e : apartAt P i ++ apartIn P i 0 = apartAt P i := by simp [apartIn]
        rw [e]; exact H') R trivial (Src.range (Ev.var (by walk_at "mem")) rfl (by omega)) (storeOk_of (by decide)) (fun _ _ => rfl) (fun _ => rfl) (fun m d hK' S' s' hm _ H₂ => ?_) (fun d s' _ H₂ => ?_) (fun d s' h => h.elim)
    · o_facts H₂
      have ik : i < P.length := by omega
      have im : m < P.length := by omega
      have mk : at' P i ∈ P := getD_mem ik
      have mm : at' P m ∈ P := getD_mem im
      have ek : ∀ {S₁ : List Addr} {ρ₁ : List (Str × FP)} {ω₁ : List (Addr × OP)} {lp pos ip : Pos}, (Str.ofString "paths", TStrs P) ∈ ρ₁ → (Str.ofString "k", TInt (i : Int)) ∈ ρ₁ → Ev (Fx.cx ⟨w, k + 5, s₀, callEnvC (fdAt 212) L 212, S⟩ S₁ ρ₁ ω₁) (.Subscript (.Name (Str.ofString "paths") lp) (.Name (Str.ofString "k") ip) pos) (TStr (at' P i)) := fun h1 h2 =>
        Ev.item (i := (i : Int)) (Ev.var h1) (Ev.var h2) (by omega) (by omega) (strs_item ik)
      have em : ∀ {S₁ : List Addr} {ρ₁ : List (Str × FP)} {ω₁ : List (Addr × OP)} {lp pos ip : Pos}, (Str.ofString "paths", TStrs P) ∈ ρ₁ → (Str.ofString "m", TInt (m : Int)) ∈ ρ₁ → Ev (Fx.cx ⟨w, k + 5, s₀, callEnvC (fdAt 212) L 212, S⟩ S₁ ρ₁ ω₁) (.Subscript (.Name (Str.ofString "paths") lp) (.Name (Str.ofString "m") ip) pos) (TStr (at' P m)) := fun h1 h2 =>
        Ev.item (i := (m : Int)) (Ev.var h1) (Ev.var h2) (by omega) (by omega) (strs_item im)
      have hcommon : Fn w (k + 5) (.ref 134) [TStrs [at' P i, at' P m]] (TStr (commonP (at' P i) (at' P m))) := (fn_common w k _ _ (hz _ mk) (hz _ mm) (hs _ mk) (hs _ mm)).mono (by omega)
      have z1 : (at' P i).length ≤ 10000 := Nat.le_trans (hz _ mk) (by decide)
      have z2 : (at' P m).length ≤ 10000 := Nat.le_trans (hz _ mm) (by decide)
      have la := apartAt_len P i
      have li := apartIn_len P i m
      have lii : i * i ≤ 6 * 6 := Nat.mul_le_mul (by omega) (by omega)
      refine ex_if (b := apart1 (at' P i) (at' P m)) H₂ R (Tt.cmp (Ev.call (Ev.global rfl (g_134 _)) (.inl ⟨_, rfl, k_134 _⟩) (EvL.cons (Ev.list (EvL.cons (ek (by walk_at "mem") (by walk_at "mem")) (EvL.cons (em (by walk_at "mem") (by walk_at "mem")) EvL.nil)) (show (2 : Nat) ≤ 1000 by decide)) EvL.nil) hcommon) (Ev.list (EvL.cons (ek (by walk_at "mem") (by walk_at "mem")) (EvL.cons (em (by walk_at "mem") (by walk_at "mem")) EvL.nil)) (show (2 : Nat) ≤ 1000 by decide)) (Op2.notin_lstB eqS (commonP (at' P i) (at' P m)) [at' P i, at' P m] (by decide))) fun s₃ H₃ => ?_
      cases hb : apart1 (at' P i) (at' P m) with
      | true =>
        refine ex_assign (p := TStrs [baseP (at' P i), baseP (at' P m)]) H₃ R (Ev.list (EvL.cons (Ev.call (Ev.global rfl (g_129 _)) (.inl ⟨_, rfl, k_129 _⟩) (EvL.cons (ek (by walk_at "mem") (by walk_at "mem")) EvL.nil) (fn_base w k _ z1)) (EvL.cons (Ev.call (Ev.global rfl (g_129 _)) (.inl ⟨_, rfl, k_129 _⟩) (EvL.cons (em (by walk_at "mem") (by walk_at "mem")) EvL.nil) (fn_base w k _ z2)) EvL.nil)) (show (2 : Nat) ≤ 1000 by decide)) (storeOk_of (by decide)) fun s₄ H₄ => ?_
        o_facts H₄
        refine ex_extend (qs := [TStrs [baseP (at' P i), baseP (at' P m)], TStrs [baseP (at' P m), baseP (at' P i)]]) H₄ R (by walk_at "mem") (Ev.list (EvL.cons (Ev.var (by walk_at "mem")) (EvL.cons (Ev.eq (Ev.rev (ps := [baseP (at' P i), baseP (at' P m)].map TStr) (Ev.var (by walk_at "mem")) (show (2 : Nat) ≤ 100000 by decide)) rfl) EvL.nil)) (show (2 : Nat) ≤ 1000 by decide)) (by rw [List.length_map, List.length_append]; show _ + 2 ≤ _; omega) (storeOk_of (by decide)) fun s₅ H₅ => ?_
        o_facts H₅
        refine Run.nil (Run.nil ⟨(), trivial, ?_⟩)
        have e : (apartAt P i ++ apartIn P i (m + 1)).map TStrs = (apartAt P i ++ apartIn P i m).map TStrs ++ [TStrs [baseP (at' P i), baseP (at' P m)], TStrs [baseP (at' P m), baseP (at' P i)]] := by
          rw [apartIn_succ, ← List.append_assoc, List.map_append]
          unfold apartOf
          rw [if_pos hb]; rfl
        rw [e]
        exact H₅.weak (by simp)
      | false =>
        refine Run.nil (Run.nil ⟨(), trivial, ?_⟩)
        have e : apartIn P i (m + 1) = apartIn P i m := by
          rw [apartIn_succ]
          unfold apartOf
          rw [hb]; simp
        rw [e]
        exact H₃.weak (by simp)
    · refine Run.nil ⟨(), trivial, ?_⟩
      rw [apartAt_succ]
      exact H₂.weak (by simp)
  · have H₂ := H'.freeze (x := Str.ofString "apart") (by walk_at "mem")
    o_facts H₂
    exact ex_return (p := TRows (apartAt P 6)) H₂ R (Ev.var (by walk_at "mem")) fun v s' H' hp => H'.ret hp
end Mine
namespace Mine

theorem inner_ok {ap ot : List (List Str)} {o : List Str} (ho : o.length = 6) {R : List (List Str)} (hR : ∀ x ∈ R, x.length = 6) : ∀ k, k ≤ 5 → ∀ R', inner ap ot o R k = some R' → (∀ x ∈ R', x.length = 6) ∧ R'.length ≤ R.length + k
  | 0, _, R', h => by cases h; exact ⟨hR, Nat.le_refl _⟩
  | k + 1, hk, R', h => by
    unfold inner at h
    cases e : inner ap ot o R k with
    | none => rw [e] at h; cases h
    | some R₁ =>
      rw [e] at h
      have ih := inner_ok ho hR k (by omega) R₁ e
      simp only [Option.bind_some] at h
      split at h
      · cases h
      · cases h
        have := addAt_ok ho (show k < 5 by omega) ih.1
        exact ⟨this.1, by omega⟩
theorem bfs_ok {ap ot : List (List Str)} : ∀ f seen R, (∀ x ∈ R, x.length = 6) → (∀ x ∈ bfs ap ot f seen R, x.length = 6) ∧ (bfs ap ot f seen R).length ≤ R.length + 5 * f
  | 0, _, R, h => ⟨h, Nat.le_refl _⟩
  | f + 1, seen, R, h => by
    rw [bfs_succ]
    split
    · rename_i hm
      have hs := (more_iff hm).1
      have ho : (R.getD seen default).length = 6 := h _ (by rw [List.getD_eq_getElem?_getD, List.getElem?_eq_getElem hs]; exact List.getElem_mem hs)
      cases e : inner ap ot (R.getD seen default) R 5 with
      | none => exact ⟨fun x hx => (nomatch hx), Nat.zero_le _⟩
      | some R' =>
        have hi := inner_ok ho h 5 (Nat.le_refl _) R' e
        have ih := @bfs_ok ap ot f (seen + 1) R' hi.1
        dsimp only
        exact ⟨ih.1, by omega⟩
    · exact ⟨h, by omega⟩
theorem reached_ok {o : List Str} (ho : o.length = 6) (ap ot : List (List Str)) : (∀ x ∈ reached o ap ot, x.length = 6) ∧ (reached o ap ot).length ≤ 506 := by
  have := @bfs_ok ap ot 101 0 [o] (by simpa using ho)
  exact ⟨this.1, this.2⟩

def lawB (f g t : List Str) : Bool :=
  if (!decide ([grown f, grown f.reverse] = [due t, due t.reverse])) = true then false
  else if ((((reached f (apart (grown f)) (apart (grown f.reverse))).filter baxter).length : Int) != 1) = true then false
  else (memB g (reached f (apart (grown f)) (apart (grown f.reverse))) == decide ([grown g, grown g.reverse] = [grown f, grown f.reverse]))

theorem def_234 (w : World) : DefAt w 234 (fdAt 234) (bodyAt 234) := ⟨⟨_, _, _, rfl⟩, by rfl, rfl, rfl, rfl, rfl, rfl, rfl, rfl, by decide⟩
theorem g_181 (w : World) : nsIn (KK w) mainGlobals (Str.ofString "_law_drawn") = some (some (.ref 181)) := by rfl
theorem k_181 (w : World) : keepIn (KK w) (.ref 181) = true := by rfl
theorem g_186 (w : World) : nsIn (KK w) mainGlobals (Str.ofString "_law_told") = some (some (.ref 186)) := by rfl
theorem k_186 (w : World) : keepIn (KK w) (.ref 186) = true := by rfl
theorem g_193 (w : World) : nsIn (KK w) mainGlobals (Str.ofString "_law_written") = some (some (.ref 193)) := by rfl
theorem k_193 (w : World) : keepIn (KK w) (.ref 193) = true := by rfl
theorem g_198 (w : World) : nsIn (KK w) mainGlobals (Str.ofString "_law_due") = some (some (.ref 198)) := by rfl
theorem k_198 (w : World) : keepIn (KK w) (.ref 198) = true := by rfl
theorem g_205 (w : World) : nsIn (KK w) mainGlobals (Str.ofString "_law_grown") = some (some (.ref 205)) := by rfl
theorem k_205 (w : World) : keepIn (KK w) (.ref 205) = true := by rfl
theorem g_212 (w : World) : nsIn (KK w) mainGlobals (Str.ofString "_law_apart") = some (some (.ref 212)) := by rfl
theorem k_212 (w : World) : keepIn (KK w) (.ref 212) = true := by rfl
theorem g_224 (w : World) : nsIn (KK w) mainGlobals (Str.ofString "_law_reached") = some (some (.ref 224)) := by rfl
theorem k_224 (w : World) : keepIn (KK w) (.ref 224) = true := by rfl
theorem g_229 (w : World) : nsIn (KK w) mainGlobals (Str.ofString "_law_baxter") = some (some (.ref 229)) := by rfl
theorem k_229 (w : World) : keepIn (KK w) (.ref 229) = true := by rfl
end Mine
namespace Mine

theorem range_map {α β : Type} (d : α) (f : α → β) (l : List α) : (List.range l.length).map (fun i => f (l.getD i d)) = l.map f := by
  conv => rhs; rw [← range_get d l]
  rw [List.map_map]; rfl
theorem Src.lst' {C : Cx} {e : Expr} {xs : List (List Str)} (h : Ev C e (TRows xs)) : Src C xs.length (fun i => TStrs (xs.getD i default)) e := by
  have := Src.lst (q := fun i => TStrs (xs.getD i default)) h fun i p hp => by
    rw [List.getElem?_map] at hp
    cases e : xs[i]? with
    | none => rw [e] at hp; cases hp
    | some x => rw [e] at hp; cases hp; simp [List.getD_eq_getElem?_getD, e]
  rwa [List.length_map] at this
theorem short_rev {l : List Str} (h : Short l) : Short l.reverse := ⟨by rw [List.length_reverse]; exact h.1, fun x hx => h.2 x (List.mem_reverse.mp hx)⟩
def o2 (O0 O1 : List Str) (i : Nat) : List Str := if i = 0 then O0 else O1

theorem fn_law (w : World) (k : Nat) (ns : List Int) (κ : Nat) (O0 O1 : List Str) (hz : ns.length ≤ 63) (hκ : (cellAt ns 0).fmod 5 = (κ : Int)) (h5 : κ < 5) (e0 : orderAt ns 0 = O0) (e1 : orderAt ns 1 = O1) (l0 : O0.length = 6) (l1 : O1.length = 6)
    (hw0 : ∀ x ∈ O0, escKOk κ x = true) (hw1 : ∀ x ∈ O1, escKOk κ x = true) (ht : ∀ x ∈ O0, toldOk κ x = true) (sf : Short (O0.map (escK κ))) (sg : Short (O1.map (escK κ))) (st : Short (O0.map (told κ)))
    (hT : ∀ o, o = O0.map (escK κ) ∨ o = (O0.map (escK κ)).reverse → (grown o).length = 6 ∧ (∀ x ∈ grown o, x.length ≤ 900) ∧ (∀ x ∈ grown o, Txt.startswith x slash = true)) :
    Fn w (k + 8) (.ref 234) [TInts ns] (TBool (lawB (O0.map (escK κ)) (O1.map (escK κ)) (O0.map (told κ)))) := by
  refine Fn.enter (names := [Str.ofString "script"]) (def_234 w) rfl (by decide) (by decide) (fun vs hv => ?_) fun A L S s₀ s R H => ?_
  · obtain ⟨a, rfl⟩ := args1 hv; rfl
  o_facts H
  have hdr := fn_drawn w (k + 6) ns hz
  rw [hκ, e0, e1] at hdr
  refine ex_assign2 (p := TInt (κ : Int)) (q := TLst [TStrs O0, TStrs O1]) H R (.inr (Ev.call (Ev.global rfl (g_181 _)) (.inl ⟨_, rfl, k_181 _⟩) (EvL.cons (Ev.var (by walk_at "mem")) EvL.nil) hdr)) (storeOk_of (by decide)) (storeOk_of (by decide)) fun s₁ H₁ => ?_
  o_facts H₁
  have ho : ∀ i, (o2 O0 O1 i).length = 6 ∧ ∀ x ∈ o2 O0 O1 i, escKOk κ x = true := fun i => by
    unfold o2
    split
    · exact ⟨l0, hw0⟩
    · exact ⟨l1, hw1⟩
  refine ex_assign2 (p := TStrs (O0.map (escK κ))) (q := TStrs (O1.map (escK κ))) H₁ R (.inl (Ev.eq (Ev.compA (n := 2) (q := fun i => TStrs (o2 O0 O1 i)) (r := fun i => TStrs ((o2 O0 O1 i).map (escK κ))) (ρ := [(Str.ofString "kind", TInt (κ : Int))]) (Src.lst (ps := [TStrs O0, TStrs O1]) (Ev.var (by walk_at "mem")) (fun i x hx => ?_)) rfl (by decide) rfl (by decide) rfl (fun yp hyp => ?_) (by decide) (fun i Cc S' hi => ?_)) rfl)) (storeOk_of (by decide)) (storeOk_of (by decide)) fun s₂ H₂ => ?_
  · match i, hx with
    | 0, hx => cases hx; rfl
    | 1, hx => cases hx; rfl
    | i + 2, hx => simp at hx
  · rw [List.mem_singleton] at hyp; subst hyp
    exact ⟨by walk_at "mem", rfl, .inl rfl, rfl, rfl⟩
  · have hoi := ho i
    generalize o2 O0 O1 i = ord at hoi
    refine Ev.eq (Ev.compA (n := ord.length) (q := fun j => TStr (ord.getD j default)) (r := fun j => TStr (escK κ (ord.getD j default))) (ρ := [(Str.ofString "kind", TInt (κ : Int))]) (Src.strs (Ev.var (by walk_at "mem"))) rfl (by decide) rfl (by decide) rfl (fun yp hyp => ?_) (by omega) (fun j Cc S' hj => Ev.call (Ev.global rfl (g_193 _)) (.inl ⟨_, rfl, k_193 _⟩) (EvL.cons (Ev.var (by walk_at "mem")) (EvL.cons (Ev.var (by walk_at "mem")) EvL.nil)) (fn_written w _ _ κ h5 (hoi.2 _ (getD_mem hj))))) ?_
    · rw [List.mem_singleton] at hyp; subst hyp
      exact ⟨by walk_at "mem", rfl, .inl rfl, rfl, rfl⟩
    · unfold TStrs
      rw [List.map_map, ← range_map default (TStr ∘ escK κ)]; rfl
  o_facts H₂
  refine ex_assign_comp (n := O0.length) (b := fun _ => true) (q := fun j => TStr (O0.getD j default)) (r := fun j => TStr (told κ (O0.getD j default))) (ρc := [(Str.ofString "kind", TInt (κ : Int))]) H₂ R (Src.strs (Ev.item (ps := [TStrs O0, TStrs O1]) (i := 0) (Ev.var (by walk_at "mem")) Ev.cint (by decide) (by decide) rfl)) rfl (by decide) rfl (by decide) rfl (fun yp hyp => ?_) (by omega) (fun i Cc S' hi => TtIfs.nil) (fun j Cc S' hj _ => Ev.call (Ev.global rfl (g_186 _)) (.inl ⟨_, rfl, k_186 _⟩) (EvL.cons (Ev.var (by walk_at "mem")) (EvL.cons (Ev.var (by walk_at "mem")) EvL.nil)) (fn_told w _ _ κ h5 (ht _ (getD_mem hj)))) (storeOk_of (by decide)) fun s₃ H₃ => ?_
  · rw [List.mem_singleton] at hyp; subst hyp
    exact ⟨by walk_at "mem", rfl, .inl rfl, rfl, rfl⟩
  rw [filter_all] at H₃
  have e3 : (List.range O0.length).map (fun j => TStr (told κ (O0.getD j default))) = (O0.map (told κ)).map TStr := by
    rw [List.map_map, ← range_map default (TStr ∘ told κ)]; rfl
  rw [e3] at H₃
  o_facts H₃
  have lf : (O0.map (escK κ)).length = 6 := by rw [List.length_map]; exact l0
  generalize O0.map (escK κ) = f at H₃ sf hT lf
  generalize O1.map (escK κ) = g at H₃ sg
  generalize O0.map (told κ) = t at H₃ st
  refine ex_assign (p := TRows [grown f, grown f.reverse]) H₃ R (Ev.list (EvL.cons (Ev.call (Ev.global rfl (g_205 _)) (.inl ⟨_, rfl, k_205 _⟩) (EvL.cons (Ev.var (by walk_at "mem")) EvL.nil) (fn_grown w (k + 1) f sf)) (EvL.cons (Ev.call (Ev.global rfl (g_205 _)) (.inl ⟨_, rfl, k_205 _⟩) (EvL.cons (Ev.eq (Ev.rev (ps := f.map TStr) (Ev.var (by walk_at "mem")) (by rw [List.length_map]; omega)) (by rw [← List.map_reverse])) EvL.nil) (fn_grown w (k + 1) f.reverse (short_rev sf))) EvL.nil)) (show (2 : Nat) ≤ 1000 by decide)) (storeOk_of (by decide)) fun s₄ H₄ => ?_
  o_facts H₄
  refine ex_if (b := !decide ([grown f, grown f.reverse] = [due t, due t.reverse])) H₄ R (Tt.cmp (Ev.var (by walk_at "mem")) (Ev.list (EvL.cons (Ev.call (Ev.global rfl (g_198 _)) (.inl ⟨_, rfl, k_198 _⟩) (EvL.cons (Ev.var (by walk_at "mem")) EvL.nil) (fn_due w (k + 6) t st)) (EvL.cons (Ev.call (Ev.global rfl (g_198 _)) (.inl ⟨_, rfl, k_198 _⟩) (EvL.cons (Ev.eq (Ev.rev (ps := t.map TStr) (Ev.var (by walk_at "mem")) (by rw [List.length_map]; have := st.1; omega)) (by rw [← List.map_reverse])) EvL.nil) (fn_due w (k + 6) t.reverse (short_rev st))) EvL.nil)) (show (2 : Nat) ≤ 1000 by decide)) (Op2.ne_lst eqL [grown f, grown f.reverse] [due t, due t.reverse] (by decide))) fun s₅ H₅ => ?_
  cases hb : !decide ([grown f, grown f.reverse] = [due t, due t.reverse]) with
  | true =>
    refine ex_return (p := TBool false) H₅ R Ev.cbool fun v s' H' hp => ?_
    have e : lawB f g t = false := by unfold lawB; rw [if_pos hb]
    rw [e]
    exact H'.ret hp
  | false =>
    refine Run.nil ?_
    have hT0 := hT f (.inl rfl)
    have hT1 := hT f.reverse (.inr rfl)
    have hrk := reached_ok lf (apart (grown f)) (apart (grown f.reverse))
    have hlaw : lawB f g t = if ((((reached f (apart (grown f)) (apart (grown f.reverse))).filter baxter).length : Int) != 1) = true then false else (memB g (reached f (apart (grown f)) (apart (grown f.reverse))) == decide ([grown g, grown g.reverse] = [grown f, grown f.reverse])) := by
      unfold lawB
      rw [if_neg (by rw [hb]; decide)]
    refine ex_assign (p := TRows (reached f (apart (grown f)) (apart (grown f.reverse)))) H₅ R (Ev.call (Ev.global rfl (g_224 _)) (.inl ⟨_, rfl, k_224 _⟩) (EvL.cons (Ev.var (by walk_at "mem")) (EvL.cons (Ev.call (Ev.global rfl (g_212 _)) (.inl ⟨_, rfl, k_212 _⟩) (EvL.cons (Ev.item (ps := [grown f, grown f.reverse].map TStrs) (i := 0) (p := TStrs (grown f)) (Ev.var (by walk_at "mem")) Ev.cint (by decide) (by decide) rfl) EvL.nil) (fn_apart w (k + 1) (grown f) hT0.1 hT0.2.1 hT0.2.2)) (EvL.cons (Ev.call (Ev.global rfl (g_212 _)) (.inl ⟨_, rfl, k_212 _⟩) (EvL.cons (Ev.item (ps := [grown f, grown f.reverse].map TStrs) (i := 1) (p := TStrs (grown f.reverse)) (Ev.var (by walk_at "mem")) Ev.cint (by decide) (by decide) rfl) EvL.nil) (fn_apart w (k + 1) (grown f.reverse) hT1.1 hT1.2.1 hT1.2.2)) EvL.nil))) (fn_reached w (k + 4) f _ _ lf)) (storeOk_of (by decide)) fun s₆ H₆ => ?_
    o_facts H₆
    generalize reached f (apart (grown f)) (apart (grown f.reverse)) = RR at H₆ hrk hlaw
    refine ex_if (b := (((RR.filter baxter).length : Int) != 1)) H₆ R (Tt.cmp (Ev.eq (Ev.call (Ev.builtin rfl (n_len _) bb_len) (.inr (.inl ⟨_, rfl⟩)) (EvL.cons (Ev.eq (Ev.comp (n := RR.length) (b := fun i => baxter (RR.getD i default)) (q := fun i => TStrs (RR.getD i default)) (r := fun i => TStrs (RR.getD i default)) (ρ := []) (Src.lst' (Ev.var (by walk_at "mem"))) rfl (by decide) rfl (by decide) rfl (fun yp hyp => nomatch hyp) (by omega) (fun i Cc S' hi => TtIfs.one (Tt.of_bool (Ev.call (Ev.global rfl (g_229 _)) (.inl ⟨_, rfl, k_229 _⟩) (EvL.cons (Ev.var (by walk_at "mem")) EvL.nil) (fn_baxter w (k + 4) _ (hrk.1 _ (by rw [List.getD_eq_getElem?_getD, List.getElem?_eq_getElem hi]; exact List.getElem_mem hi)))) (fun _ _ => rfl))) (fun i Cc S' hi _ => Ev.var (by walk_at "mem"))) (by rw [range_filter default baxter TStrs])) EvL.nil) (b_len (by rw [List.length_map]; exact Nat.le_trans (List.length_filter_le _ _) (by omega)))) (by rw [List.length_map])) Ev.cint Op2.ne_int) fun s₇ H₇ => ?_
    cases hc : (((RR.filter baxter).length : Int) != 1) with
    | true =>
      refine ex_return (p := TBool false) H₇ R Ev.cbool fun v s' H' hp => ?_
      rw [hlaw, if_pos hc]
      exact H'.ret hp
    | false =>
      refine Run.nil ?_
      rw [hlaw, if_neg (by rw [hc]; decide)]
      refine ex_return (p := TBool (memB g RR == decide ([grown g, grown g.reverse] = [grown f, grown f.reverse]))) H₇ R (Ev.cmp (Ev.cmp (Ev.var (by walk_at "mem")) (Ev.var (by walk_at "mem")) (Op2.in_lstB eqL g RR (by decide))) (Ev.cmp (Ev.list (EvL.cons (Ev.call (Ev.global rfl (g_205 _)) (.inl ⟨_, rfl, k_205 _⟩) (EvL.cons (Ev.var (by walk_at "mem")) EvL.nil) (fn_grown w (k + 1) g sg)) (EvL.cons (Ev.call (Ev.global rfl (g_205 _)) (.inl ⟨_, rfl, k_205 _⟩) (EvL.cons (Ev.eq (Ev.rev (ps := g.map TStr) (Ev.var (by walk_at "mem")) (by rw [List.length_map]; have := sg.1; omega)) (by rw [← List.map_reverse])) EvL.nil) (fn_grown w (k + 1) g.reverse (short_rev sg))) EvL.nil)) (show (2 : Nat) ≤ 1000 by decide)) (Ev.var (by walk_at "mem")) (Op2.eq_lst eqL [grown g, grown g.reverse] [grown f, grown f.reverse] (by decide))) Op2.eq_bool) fun v s' H' hp => H'.ret hp
end Mine
namespace Mine
/-! ### the plain law: what is drawn -/
theorem ins_perm {α : Type} (l : List α) (k : Nat) (x : α) : (ins l k x).Perm (x :: l) := by
  unfold ins
  refine List.perm_middle.trans ?_
  rw [List.take_append_drop]
theorem ordAt_perm (ts : List Str) (c : Int) : ∀ j, j ≤ ts.length → (ordAt ts c j).Perm (ts.take j)
  | 0, _ => by simp [ordAt]
  | j + 1, h => by
    unfold ordAt
    refine (ins_perm _ _ _).trans ?_
    rw [List.take_add_one, List.getD_eq_getElem?_getD, List.getElem?_eq_getElem (show j < ts.length by omega)]
    refine ((ordAt_perm ts c j (by omega)).cons _).trans ?_
    exact (List.perm_append_singleton _ _).symm
theorem orderAt_perm (ns : List Int) (i : Nat) : (orderAt ns i).Perm (texts (cellAt ns 0)) := by
  unfold orderAt
  have := ordAt_perm (texts (cellAt ns 0)) (cellAt ns (i + 1)) 6 (by simp [texts])
  rwa [List.take_of_length_le (by simp [texts])] at this

theorem pool_ok : ((List.range 5).all fun κ => pool.all fun x => (told κ x == escK κ x) && escKOk κ x && toldOk κ x && decide ((escK κ x).length ≤ 100)) = true := by decide +kernel
theorem pool_at {κ : Nat} (h : κ < 5) {x : Str} (hx : x ∈ pool) : told κ x = escK κ x ∧ escKOk κ x = true ∧ toldOk κ x = true ∧ (escK κ x).length ≤ 100 := by
  have := List.all_eq_true.mp (List.all_eq_true.mp pool_ok κ (List.mem_range.mpr h)) x hx
  simp only [Bool.and_eq_true, beq_iff_eq, decide_eq_true_eq] at this
  exact ⟨this.1.1.1, this.1.1.2, this.1.2, this.2⟩
theorem textAt_mem (c : Int) (k : Nat) : textAt c k ∈ pool := by
  unfold textAt
  have := fmod_bounds (c.fdiv 5 + (k : Int)) (n := 12) (by decide)
  exact getD_mem (show _ < 12 by omega)
theorem texts_mem {c : Int} {x : Str} (h : x ∈ texts c) : x ∈ pool := by
  unfold texts at h
  obtain ⟨k, _, rfl⟩ := List.mem_map.mp h
  exact textAt_mem c k
end Mine
namespace Mine
def win (r : Nat) : List Str := (List.range 6).map fun k => pool.getD ((r + k) % 12) default
theorem texts_win (c : Int) : ∃ r, r < 12 ∧ texts c = win r := by
  have hm := fmod_bounds (c.fdiv 5) (n := 12) (by decide)
  refine ⟨((c.fdiv 5).fmod 12).toNat, by omega, ?_⟩
  unfold texts win
  refine List.map_congr_left fun k _ => ?_
  unfold textAt
  congr 1
  have h1 : (c.fdiv 5 + (k : Int)).fmod 12 = (c.fdiv 5 + (k : Int)) % 12 := Int.fmod_eq_emod_of_nonneg _ (by decide)
  have h2 : (c.fdiv 5).fmod 12 = (c.fdiv 5) % 12 := Int.fmod_eq_emod_of_nonneg _ (by decide)
  rw [h1, h2]
  omega

/-- the six written names in their order -/
def insS (x : Str) : List Str → List Str
  | [] => [x]
  | y :: l => if slt y x = true then y :: insS x l else x :: y :: l
def isort : List Str → List Str
  | [] => []
  | x :: l => insS x (isort l)
theorem insS_perm (x : Str) : ∀ l, (insS x l).Perm (x :: l)
  | [] => List.Perm.refl _
  | y :: l => by
    unfold insS
    split
    · exact ((insS_perm x l).cons y).trans (List.Perm.swap ..)
    · exact List.Perm.refl _
theorem isort_perm : ∀ l, (isort l).Perm l
  | [] => List.Perm.refl _
  | x :: l => (insS_perm x _).trans ((isort_perm l).cons x)
def names (κ r : Nat) : List Str := isort ((win r).map (escK κ))
theorem names_perm (κ r : Nat) : (names κ r).Perm ((win r).map (escK κ)) := isort_perm _
def nameOk (x : Str) : Bool := !(x.cps.toList.contains 47) && (x != Str.ofString ".") && ((x.length : Int) != 0) && decide (x.length ≤ 100)
def rising : List Str → Bool
  | x :: y :: l => slt x y && rising (y :: l)
  | _ => true
theorem names_ok : ((List.range 5).all fun κ => (List.range 12).all fun r => rising (names κ r) && (names κ r).all nameOk && ((names κ r).length == 6)) = true := by decide +kernel
end Mine
namespace Mine
theorem perm_of_map {α β : Type} (f : α → β) {m n : List β} (h : m.Perm n) : ∀ l : List α, n = l.map f → ∃ σ : List α, σ.Perm l ∧ m = σ.map f := by
  induction h with
  | nil => intro l hl; exact ⟨l, List.Perm.refl _, hl⟩
  | @cons x l₁ l₂ _ ih =>
    intro l hl
    cases l with
    | nil => cases hl
    | cons a l =>
      rw [List.map_cons] at hl
      injection hl with h1 h2
      obtain ⟨σ, p, e⟩ := ih l h2
      exact ⟨a :: σ, p.cons a, by rw [List.map_cons, ← e, h1]⟩
  | swap x y l₁ =>
    intro l hl
    cases l with
    | nil => cases hl
    | cons a l =>
      cases l with
      | nil => rw [List.map_cons] at hl; injection hl with _ h2; cases h2
      | cons b l =>
        rw [List.map_cons, List.map_cons] at hl
        injection hl with h1 h2
        injection h2 with h2 h3
        exact ⟨b :: a :: l, List.Perm.swap .., by rw [List.map_cons, List.map_cons, h1, h2, h3]⟩
  | trans _ _ ih1 ih2 =>
    intro l hl
    obtain ⟨σ, p, e⟩ := ih2 l hl
    obtain ⟨τ, p', e'⟩ := ih1 σ e
    exact ⟨τ, p'.trans p, e'⟩
theorem perm_idx {l m : List Str} (h : m.Perm l) : ∃ σ : List Nat, σ.Perm (List.range l.length) ∧ m = σ.map fun i => l.getD i default :=
  perm_of_map _ h _ (range_get default l).symm
end Mine
namespace Mine
theorem slt_iff {x y : Str} : slt x y = true ↔ x.cps.toList < y.cps.toList := decide_eq_true_iff
theorem slt_trans {x y z : Str} (h1 : slt x y = true) (h2 : slt y z = true) : slt x z = true := slt_iff.2 (List.lt_trans (slt_iff.1 h1) (slt_iff.1 h2))
theorem slt_irrefl (x : Str) : slt x x = false := decide_eq_false (List.lt_irrefl _)
theorem slt_asymm {x y : Str} (h : slt x y = true) : slt y x = false := by
  cases e : slt y x with
  | false => rfl
  | true => have := slt_trans h e; rw [slt_irrefl] at this; cases this
theorem rising_pw : ∀ {l : List Str}, rising l = true → l.Pairwise (fun a b => slt a b = true)
  | [], _ => .nil
  | [x], _ => by simp
  | x :: y :: l, h => by
    unfold rising at h
    rw [Bool.and_eq_true] at h
    have ih := rising_pw h.2
    refine List.pairwise_cons.mpr ⟨fun z hz => ?_, ih⟩
    rcases List.mem_cons.mp hz with rfl | hz
    · exact h.1
    · exact slt_trans h.1 (List.rel_of_pairwise_cons ih hz)
theorem names_at {κ r : Nat} (hκ : κ < 5) (hr : r < 12) : rising (names κ r) = true ∧ (∀ x ∈ names κ r, nameOk x = true) ∧ (names κ r).length = 6 := by
  have := List.all_eq_true.mp (List.all_eq_true.mp names_ok κ (List.mem_range.mpr hκ)) r (List.mem_range.mpr hr)
  simp only [Bool.and_eq_true, beq_iff_eq, List.all_eq_true] at this
  exact ⟨this.1.1, this.1.2, this.2⟩
def nm (κ r i : Nat) : Str := (names κ r).getD i default
theorem slt_nm {κ r : Nat} (hκ : κ < 5) (hr : r < 12) {i j : Nat} (hi : i < 6) (hj : j < 6) : slt (nm κ r i) (nm κ r j) = decide (i < j) := by
  obtain ⟨h1, _, h3⟩ := names_at hκ hr
  have pw := List.pairwise_iff_getElem.mp (rising_pw h1)
  have e : ∀ i (h : i < 6), nm κ r i = (names κ r)[i]'(by omega) := fun i h => by
    unfold nm
    rw [List.getD_eq_getElem?_getD, List.getElem?_eq_getElem (by omega)]; rfl
  rw [e i hi, e j hj]
  rcases Nat.lt_trichotomy i j with h | h | h
  · rw [decide_eq_true h]; exact pw i j (by omega) (by omega) h
  · subst h; rw [slt_irrefl]; simp
  · rw [slt_asymm (pw j i (by omega) (by omega) h)]; simp; omega
end Mine
namespace Mine
/-! ### by ranks -/
def cmpR (i j : Nat) : Int := b2i (decide (j < i)) - b2i (decide (i < j))
def Six (l : List Nat) : Prop := ∀ x ∈ l, x < 6
def withinR (a b : Nat) (l : List Nat) : List Nat := l.filter fun x => cmpR a x + cmpR b x == 0
def atR (o : List Nat) (k : Nat) : Nat := o.getD k 0
def aheadR (o : List Nat) (k : Nat) : List Nat := withinR (atR o k) (atR o (k + 1)) (o.take k)
def behindR (o : List Nat) (k : Nat) : List Nat := withinR (atR o k) (atR o (k + 1)) (o.drop (k + 2))
def violR (o : List Nat) (k : Nat) : List Nat := (aheadR o k).flatMap fun a => ((behindR o k).filter fun b => cmpR a b != cmpR (atR o k) (atR o (k + 1))).map fun _ => a
def baxterR (o : List Nat) : Bool := (List.range 5).all fun k => decide (violR o k = [])

section
variable {κ r : Nat} (hκ : κ < 5) (hr : r < 12)
include hκ hr
theorem cmp_nm {i j : Nat} (hi : i < 6) (hj : j < 6) : cmp3 (nm κ r i) (nm κ r j) = cmpR i j := by
  unfold cmp3 cmpR
  rw [slt_nm hκ hr hj hi, slt_nm hκ hr hi hj]
theorem within_nm {a b : Nat} (ha : a < 6) (hb : b < 6) {l : List Nat} (hl : Six l) : within (nm κ r a) (nm κ r b) (l.map (nm κ r)) = (withinR a b l).map (nm κ r) := by
  unfold within withinR
  rw [List.filter_map]
  congr 1
  refine List.filter_congr fun x hx => ?_
  show (cmp3 _ _ + cmp3 _ _ == 0) = _
  rw [cmp_nm hκ hr ha (hl x hx), cmp_nm hκ hr hb (hl x hx)]
theorem at_nm {o : List Nat} {k : Nat} (hk : k < o.length) : at' (o.map (nm κ r)) k = nm κ r (atR o k) := by
  unfold at' atR
  rw [List.getD_eq_getElem?_getD, List.getD_eq_getElem?_getD, List.getElem?_map, List.getElem?_eq_getElem hk]; rfl
end
end Mine
namespace Mine
theorem six_at {o : List Nat} (h : Six o) (k : Nat) : atR o k < 6 := by
  unfold atR
  rw [List.getD_eq_getElem?_getD]
  cases e : o[k]? with
  | none => decide
  | some x => exact h x (List.mem_of_getElem? e)
theorem six_take {o : List Nat} (h : Six o) (k : Nat) : Six (o.take k) := fun x hx => h x (List.mem_of_mem_take hx)
theorem six_drop {o : List Nat} (h : Six o) (k : Nat) : Six (o.drop k) := fun x hx => h x (List.mem_of_mem_drop hx)
theorem six_within {o : List Nat} (h : Six o) (a b : Nat) : Six (withinR a b o) := fun x hx => h x (List.mem_filter.mp hx).1
section
variable {κ r : Nat} (hκ : κ < 5) (hr : r < 12)
include hκ hr
theorem ahead_nm {o : List Nat} (h : Six o) {k : Nat} (hk : k + 1 < o.length) : ahead (o.map (nm κ r)) k = (aheadR o k).map (nm κ r) := by
  unfold ahead aheadR
  rw [at_nm hκ hr (by omega), at_nm hκ hr hk, ← List.map_take, within_nm hκ hr (six_at h _) (six_at h _) (six_take h _)]
theorem behind_nm {o : List Nat} (h : Six o) {k : Nat} (hk : k + 1 < o.length) : behind (o.map (nm κ r)) k = (behindR o k).map (nm κ r) := by
  unfold behind behindR
  rw [at_nm hκ hr (by omega), at_nm hκ hr hk, ← List.map_drop, within_nm hκ hr (six_at h _) (six_at h _) (six_drop h _)]
theorem baxter_nm {o : List Nat} (h : Six o) (h6 : o.length = 6) : baxter (o.map (nm κ r)) = baxterR o := by
  unfold baxter baxterR
  rw [Bool.eq_iff_iff, List.all_eq_true, List.all_eq_true]
  have key : ∀ k ∈ List.range 5, decide (viol (o.map (nm κ r)) k = []) = decide (violR o k = []) := fun k hk => by
    have hk' : k < 5 := List.mem_range.mp hk
    have hA : Six (aheadR o k) := six_within (six_take h _) _ _
    have hB : Six (behindR o k) := six_within (six_drop h _) _ _
    rw [decide_eq_decide]
    unfold viol violR
    rw [ahead_nm hκ hr h (by omega), behind_nm hκ hr h (by omega), at_nm hκ hr (by omega), at_nm hκ hr (by omega)]
    rw [List.flatMap_eq_nil_iff, List.flatMap_eq_nil_iff]
    simp only [List.mem_map, forall_exists_index, and_imp, forall_apply_eq_imp_iff₂, List.map_eq_nil_iff, List.filter_eq_nil_iff]
    refine forall_congr' fun a => forall_congr' fun ha => forall_congr' fun b => forall_congr' fun hb => ?_
    rw [cmp_nm hκ hr (hA a ha) (hB b hb), cmp_nm hκ hr (six_at h _) (six_at h _)]
  constructor
  · intro H k hk; rw [← key k hk]; exact H k hk
  · intro H k hk; rw [key k hk]; exact H k hk
end
end Mine
namespace Mine
def freeR (o : List Nat) (k : Nat) : Bool := !decide (aheadR o k = []) && !decide (behindR o k = [])
def freshR (o : List Nat) (k : Nat) : List Nat := o.take k ++ [atR o (k + 1), atR o k] ++ o.drop (k + 2)
theorem six_fresh {o : List Nat} (h : Six o) (k : Nat) : Six (freshR o k) := fun x hx => by
  unfold freshR at hx
  simp only [List.mem_append, List.mem_cons, List.mem_nil_iff, or_false] at hx
  rcases hx with (h' | h' | h') | h'
  · exact six_take h _ x h'
  · exact h' ▸ six_at h _
  · exact h' ▸ six_at h _
  · exact six_drop h _ x h'
section
variable {κ r : Nat} (hκ : κ < 5) (hr : r < 12)
include hκ hr
theorem nm_inj {a b : Nat} (ha : a < 6) (hb : b < 6) (h : nm κ r a = nm κ r b) : a = b := by
  have h1 := slt_nm hκ hr ha hb
  have h2 := slt_nm hκ hr hb ha
  rw [h, slt_irrefl] at h1
  rw [h, slt_irrefl] at h2
  have h3 := of_decide_eq_false h1.symm
  have h4 := of_decide_eq_false h2.symm
  omega
theorem map_inj : ∀ {l m : List Nat}, Six l → Six m → l.map (nm κ r) = m.map (nm κ r) → l = m
  | [], [], _, _, _ => rfl
  | [], _ :: _, _, _, h => by cases h
  | _ :: _, [], _, _, h => by cases h
  | a :: l, b :: m, hl, hm, h => by
    rw [List.map_cons, List.map_cons] at h
    injection h with h1 h2
    rw [nm_inj hκ hr (hl a (.head _)) (hm b (.head _)) h1, map_inj (fun x hx => hl x (.tail _ hx)) (fun x hx => hm x (.tail _ hx)) h2]
theorem mem_nm {o : List Nat} {R : List (List Nat)} (ho : Six o) (hR : ∀ x ∈ R, Six x) : memB (o.map (nm κ r)) (R.map (List.map (nm κ r))) = memB o R := by
  rw [Bool.eq_iff_iff, memB_iff, memB_iff, List.mem_map]
  constructor
  · rintro ⟨x, hx, e⟩
    exact (map_inj hκ hr (hR x hx) ho e) ▸ hx
  · intro h; exact ⟨o, h, rfl⟩
theorem free_nm {o : List Nat} (h : Six o) {k : Nat} (hk : k + 1 < o.length) : freeAt (o.map (nm κ r)) k = freeR o k := by
  unfold freeAt freeR
  rw [ahead_nm hκ hr h hk, behind_nm hκ hr h hk]
  simp only [List.map_eq_nil_iff]
theorem fresh_nm {o : List Nat} {k : Nat} (hk : k + 1 < o.length) : freshAt (o.map (nm κ r)) k = (freshR o k).map (nm κ r) := by
  unfold freshAt freshR
  rw [at_nm hκ hr hk, at_nm hκ hr (show k < o.length by omega), ← List.map_take, ← List.map_drop]
  simp
end
end Mine
namespace Mine
def badR (ap ot : Nat → Nat → Bool) (o : List Nat) (k : Nat) : Bool := freeR o k != (ap (atR o k) (atR o (k + 1)) && ot (atR o k) (atR o (k + 1)))
def addR (o : List Nat) (k : Nat) (R : List (List Nat)) : List (List Nat) := if (freeR o k && !memB (freshR o k) R) = true then R ++ [freshR o k] else R
def innerR (ap ot : Nat → Nat → Bool) (o : List Nat) (R : List (List Nat)) : Nat → Option (List (List Nat))
  | 0 => some R
  | k + 1 => (innerR ap ot o R k).bind fun R' => if badR ap ot o k = true then none else some (addR o k R')
def moreR (seen n : Nat) : Bool := decide (seen < n) && decide (seen < 100)
def bfsR (ap ot : Nat → Nat → Bool) : Nat → Nat → List (List Nat) → List (List Nat)
  | 0, _, R => R
  | f + 1, seen, R => if moreR seen R.length = true then (match innerR ap ot (R.getD seen []) R 5 with | none => [] | some R' => bfsR ap ot f (seen + 1) R') else R
def reachedR (ap ot : Nat → Nat → Bool) (o : List Nat) : List (List Nat) := bfsR ap ot 101 0 [o]
def Good (o : List Nat) : Prop := Six o ∧ o.length = 6
section
variable {κ r : Nat} (hκ : κ < 5) (hr : r < 12)
include hκ hr
theorem bad_nm {ap ot : List (List Str)} {apf otf : Nat → Nat → Bool} (ha : ∀ a b, a < 6 → b < 6 → memB [nm κ r a, nm κ r b] ap = apf a b) (hb : ∀ a b, a < 6 → b < 6 → memB [nm κ r a, nm κ r b] ot = otf a b) {o : List Nat} (h : Six o) {k : Nat} (hk : k + 1 < o.length) :
    badAt ap ot (o.map (nm κ r)) k = badR apf otf o k := by
  unfold badAt badR pairAt
  rw [free_nm hκ hr h hk, at_nm hκ hr hk, at_nm hκ hr (show k < o.length by omega), ha _ _ (six_at h _) (six_at h _), hb _ _ (six_at h _) (six_at h _)]
theorem add_nm {o : List Nat} (h : Six o) {k : Nat} (hk : k + 1 < o.length) {R : List (List Nat)} (hR : ∀ x ∈ R, Six x) : addAt (o.map (nm κ r)) k (R.map (List.map (nm κ r))) = (addR o k R).map (List.map (nm κ r)) := by
  unfold addAt addR
  rw [free_nm hκ hr h hk, fresh_nm hκ hr hk, mem_nm hκ hr (six_fresh h k) hR]
  split
  · rw [List.map_append]; rfl
  · rfl
end
end Mine
namespace Mine
theorem good_fresh {o : List Nat} (h : Good o) {k : Nat} (hk : k < 5) : Good (freshR o k) := ⟨six_fresh h.1 k, by
  have := h.2
  unfold freshR
  simp only [List.length_append, List.length_take, List.length_drop, List.length_cons, List.length_nil]
  omega⟩
theorem good_add {o : List Nat} (h : Good o) {k : Nat} (hk : k < 5) {R : List (List Nat)} (hR : ∀ x ∈ R, Good x) : ∀ x ∈ addR o k R, Good x := fun x hx => by
  unfold addR at hx
  split at hx
  · rcases List.mem_append.mp hx with hx | hx
    · exact hR x hx
    · rw [List.mem_singleton] at hx; subst hx; exact good_fresh h hk
  · exact hR x hx
theorem more_R (seen : Nat) (R : List (List Str)) : more seen R = moreR seen R.length := by
  unfold more moreR
  rw [Bool.eq_iff_iff, decide_eq_true_eq, Bool.and_eq_true, decide_eq_true_eq, decide_eq_true_eq]
  split <;> omega
section
variable {κ r : Nat} (hκ : κ < 5) (hr : r < 12)
include hκ hr
theorem inner_nm {ap ot : List (List Str)} {apf otf : Nat → Nat → Bool} (ha : ∀ a b, a < 6 → b < 6 → memB [nm κ r a, nm κ r b] ap = apf a b) (hb : ∀ a b, a < 6 → b < 6 → memB [nm κ r a, nm κ r b] ot = otf a b) {o : List Nat} (h : Good o) {R : List (List Nat)} (hR : ∀ x ∈ R, Good x) :
    ∀ k, k ≤ 5 → inner ap ot (o.map (nm κ r)) (R.map (List.map (nm κ r))) k = (innerR apf otf o R k).map (List.map (List.map (nm κ r))) ∧ ∀ R', innerR apf otf o R k = some R' → ∀ x ∈ R', Good x
  | 0, _ => ⟨rfl, fun R' e => by cases e; exact hR⟩
  | k + 1, hk => by
    have ih := inner_nm ha hb h hR k (by omega)
    unfold inner innerR
    rw [ih.1]
    cases e : innerR apf otf o R k with
    | none => exact ⟨rfl, fun R' e' => by cases e'⟩
    | some R₁ =>
      have hR₁ := ih.2 R₁ e
      simp only [Option.map_some, Option.bind_some]
      rw [bad_nm hκ hr ha hb h.1 (by have := h.2; omega), add_nm hκ hr h.1 (by have := h.2; omega) (fun x hx => (hR₁ x hx).1)]
      constructor
      · split <;> rfl
      · intro R' e'
        split at e'
        · cases e'
        · cases e'; exact good_add h (by omega) hR₁
end
end Mine
namespace Mine
section
variable {κ r : Nat} (hκ : κ < 5) (hr : r < 12)
include hκ hr
theorem bfs_nm {ap ot : List (List Str)} {apf otf : Nat → Nat → Bool} (ha : ∀ a b, a < 6 → b < 6 → memB [nm κ r a, nm κ r b] ap = apf a b) (hb : ∀ a b, a < 6 → b < 6 → memB [nm κ r a, nm κ r b] ot = otf a b) :
    ∀ f seen (R : List (List Nat)), (∀ x ∈ R, Good x) → bfs ap ot f seen (R.map (List.map (nm κ r))) = (bfsR apf otf f seen R).map (List.map (nm κ r)) ∧ ∀ x ∈ bfsR apf otf f seen R, Good x
  | 0, _, R, hR => ⟨rfl, hR⟩
  | f + 1, seen, R, hR => by
    rw [bfs_succ]
    unfold bfsR
    rw [more_R, List.length_map]
    cases hm : moreR seen R.length with
    | false => exact ⟨rfl, hR⟩
    | true =>
      simp only [if_true]
      have hs : seen < R.length := by
        unfold moreR at hm
        rw [Bool.and_eq_true, decide_eq_true_eq] at hm
        exact hm.1
      have e : (R.map (List.map (nm κ r))).getD seen default = (R.getD seen []).map (nm κ r) := by
        rw [List.getD_eq_getElem?_getD, List.getD_eq_getElem?_getD, List.getElem?_map, List.getElem?_eq_getElem hs]; rfl
      have hg : Good (R.getD seen []) := hR _ (by rw [List.getD_eq_getElem?_getD, List.getElem?_eq_getElem hs]; exact List.getElem_mem hs)
      have hi := inner_nm hκ hr ha hb hg hR 5 (Nat.le_refl _)
      rw [e, hi.1]
      cases e' : innerR apf otf (R.getD seen []) R 5 with
      | none => exact ⟨rfl, fun x hx => nomatch hx⟩
      | some R' => exact bfs_nm ha hb f (seen + 1) R' (hi.2 R' e')
theorem reached_nm {ap ot : List (List Str)} {apf otf : Nat → Nat → Bool} (ha : ∀ a b, a < 6 → b < 6 → memB [nm κ r a, nm κ r b] ap = apf a b) (hb : ∀ a b, a < 6 → b < 6 → memB [nm κ r a, nm κ r b] ot = otf a b) {o : List Nat} (h : Good o) :
    reached (o.map (nm κ r)) ap ot = (reachedR apf otf o).map (List.map (nm κ r)) ∧ ∀ x ∈ reachedR apf otf o, Good x :=
  bfs_nm hκ hr ha hb 101 0 [o] (by simpa using h)
end
end Mine
namespace Mine
/-! ### paths as texts -/
def gl : List (List Nat) → List Nat
  | [] => []
  | p :: l => p ++ l.flatMap fun q => 47 :: q
theorem cut_eq {p p' r r' : List Nat} (h : 47 ∉ p) (h' : 47 ∉ p') (e : p ++ 47 :: r = p' ++ 47 :: r') : p = p' ∧ r = r' := by
  induction p generalizing p' with
  | nil =>
    cases p' with
    | nil => simpa using e
    | cons a p' =>
      rw [List.nil_append, List.cons_append] at e
      injection e with e1 e2
      exact absurd (by rw [e1]; exact .head _) h'
  | cons a p ih =>
    cases p' with
    | nil =>
      rw [List.nil_append, List.cons_append] at e
      injection e with e1 e2
      exact absurd (by rw [e1]; exact .head _) h
    | cons b p' =>
      rw [List.cons_append, List.cons_append] at e
      injection e with e1 e2
      have := ih (fun hm => h (.tail _ hm)) (fun hm => h' (.tail _ hm)) e2
      exact ⟨by rw [e1, this.1], this.2⟩
theorem gl_uniq : ∀ {ps qs : List (List Nat)}, (∀ p ∈ ps, 47 ∉ p) → (∀ q ∈ qs, 47 ∉ q) → ps ≠ [] → qs ≠ [] → gl ps = gl qs → ps = qs
  | [], _, _, _, h, _, _ => absurd rfl h
  | _ :: _, [], _, _, _, h, _ => absurd rfl h
  | [p], [q], _, _, _, _, e => by simpa [gl] using e
  | [p], q :: q' :: l, hp, _, _, _, e => by
    simp only [gl, List.flatMap_nil, List.append_nil, List.flatMap_cons, List.cons_append] at e
    exact absurd (by rw [e]; exact List.mem_append_right _ (.head _)) (hp p (.head _))
  | p :: p' :: l, [q], _, hq, _, _, e => by
    simp only [gl, List.flatMap_nil, List.append_nil, List.flatMap_cons, List.cons_append] at e
    exact absurd (by rw [← e]; exact List.mem_append_right _ (.head _)) (hq q (.head _))
  | p :: p' :: l, q :: q' :: m, hp, hq, _, _, e => by
    simp only [gl, List.flatMap_cons, List.cons_append] at e
    obtain ⟨e1, e2⟩ := cut_eq (hp p (.head _)) (hq q (.head _)) e
    rw [e1, gl_uniq (ps := p' :: l) (qs := q' :: m) (fun x hx => hp x (.tail _ hx)) (fun x hx => hq x (.tail _ hx)) (by simp) (by simp) e2]
theorem glued_gl (ps : List Str) : (Builtin.Str.glued slash ps).cps.toList = gl (ps.map (·.cps.toList)) := by
  cases ps with
  | nil => rfl
  | cons p l =>
    unfold Builtin.Str.glued gl
    simp only [List.drop_succ_cons, List.drop_zero, List.headD_cons, List.map_cons]
    have : ∀ (l : List Str) (acc : Array Nat), (l.foldl (fun acc p => acc ++ slash.cps ++ p.cps) acc).toList = acc.toList ++ (l.map (·.cps.toList)).flatMap fun q => 47 :: q := by
      intro l
      induction l with
      | nil => intro acc; simp
      | cons a l ih =>
        intro acc
        rw [List.foldl_cons, ih, List.map_cons, List.flatMap_cons, Array.toList_append, Array.toList_append]
        have : slash.cps.toList = [47] := by decide
        rw [this]; simp
    exact this l p.cps
end Mine
namespace Mine
theorem slash_eq : slash = ⟨#[47]⟩ := by decide
theorem glued_split (x : Str) : Builtin.Str.glued slash (Txt.split x slash) = x := by
  unfold Txt.split
  split
  · exact str_ext (by rw [glued_gl]; simp [gl])
  · split
    · exact str_ext (by rw [glued_gl]; simp [gl])
    · exact StrLaws.glued_between_self x slash _
theorem split_ne (x : Str) : Txt.split x slash ≠ [] := by
  unfold Txt.split
  split
  · simp
  · split
    · simp
    · intro h
      have := congrArg List.length h
      rw [PySem.length_partsBetween] at this
      simp at this
theorem split_glued {ps : List Str} (h : ∀ p ∈ ps, 47 ∉ p.cps.toList) (hn : ps ≠ []) : Txt.split (Builtin.Str.glued slash ps) slash = ps := by
  have e := glued_split (Builtin.Str.glued slash ps)
  have e' : gl ((Txt.split (Builtin.Str.glued slash ps) slash).map (·.cps.toList)) = gl (ps.map (·.cps.toList)) := by
    rw [← glued_gl, ← glued_gl, e]
  have hf : ∀ p ∈ Txt.split (Builtin.Str.glued slash ps) slash, 47 ∉ p.cps.toList := by
    have := StrLaws.split_free (Builtin.Str.glued slash ps) 47
    rw [← slash_eq] at this
    exact this
  have e2 := gl_uniq (by simpa using hf) (by simpa using h) (by simpa using split_ne _) (by simpa using hn) e'
  have inj : ∀ {l m : List Str}, l.map (·.cps.toList) = m.map (·.cps.toList) → l = m := by
    intro l
    induction l with
    | nil => intro m hm; cases m with
      | nil => rfl
      | cons a m => cases hm
    | cons a l ih => intro m hm; cases m with
      | nil => cases hm
      | cons b m =>
        rw [List.map_cons, List.map_cons] at hm
        injection hm with h1 h2
        rw [str_ext h1, ih h2]
  exact inj e2
end Mine
namespace Mine
open Builtin Builtin.Str
theorem sub_slash (x : Str) (i : Nat) : (i + slash.length ≤ x.length ∧ subAt x slash i = true) ↔ x.cps.toList[i]? = some 47 := by
  rw [slash_eq]; exact StrLaws.subAt_one x 47 i
theorem starts_iff (x : Str) : Txt.startswith x slash = true ↔ x.cps.toList[0]? = some 47 := by
  rw [← sub_slash]
  unfold Txt.startswith
  rw [Bool.and_eq_true, decide_eq_true_eq]
theorem ends_iff (x : Str) : Txt.endswith x slash = true ↔ 0 < x.length ∧ x.cps.toList[x.length - 1]? = some 47 := by
  rw [← sub_slash]
  unfold Txt.endswith
  have : slash.length = 1 := by decide
  rw [Bool.and_eq_true, decide_eq_true_eq, this]
  constructor
  · rintro ⟨h1, h2⟩; exact ⟨by omega, by omega, h2⟩
  · rintro ⟨h1, h2, h3⟩; exact ⟨by omega, h3⟩
end Mine
namespace Mine
/-! ### the rank level: fast forms -/
def betB (a b x : Nat) : Bool := (Nat.blt a x && Nat.blt x b) || (Nat.blt b x && Nat.blt x a)
def anyB (a b : Nat) : List Nat → Bool
  | [] => false
  | x :: l => betB a b x || anyB a b l
def fstIn (lo hi : Nat) : List Nat → Nat
  | [] => 6
  | n :: l => bif Nat.ble lo n && Nat.ble n hi then n else fstIn lo hi l
def fstR (x y : Nat) (row : List Nat) : Nat := bif Nat.ble x y then fstIn x y row else fstIn y x row
def dueF (row : List Nat) (x : Nat) : List Nat := row.filter fun y => Nat.beq (fstR x y row) y
/-! a swap of two neighbours with one between them ahead keeps every path -/
theorem betB_iff {a b x : Nat} : betB a b x = true ↔ (a < x ∧ x < b) ∨ (b < x ∧ x < a) := by
  unfold betB
  simp [Nat.blt_eq]
theorem anyB_iff {a b : Nat} {l : List Nat} : anyB a b l = true ↔ ∃ c ∈ l, betB a b c = true := by
  induction l with
  | nil => simp [anyB]
  | cons x l ih => simp [anyB, ih]
theorem fstIn_hit {lo hi n : Nat} (h : lo ≤ n ∧ n ≤ hi) (l : List Nat) : fstIn lo hi (n :: l) = n := by
  unfold fstIn
  rw [show (Nat.ble lo n && Nat.ble n hi) = true by simp [Nat.ble_eq, h.1, h.2]]; rfl
theorem fstIn_miss {lo hi n : Nat} (h : ¬(lo ≤ n ∧ n ≤ hi)) (l : List Nat) : fstIn lo hi (n :: l) = fstIn lo hi l := by
  show (bif Nat.ble lo n && Nat.ble n hi then n else fstIn lo hi l) = _
  rw [show (Nat.ble lo n && Nat.ble n hi) = false by
    cases e : (Nat.ble lo n && Nat.ble n hi) with
    | false => rfl
    | true => simp [Nat.ble_eq] at e; exact absurd e h]; rfl
theorem fstIn_app_hit {lo hi : Nat} : ∀ {A : List Nat}, (∃ c ∈ A, lo ≤ c ∧ c ≤ hi) → ∀ C, fstIn lo hi (A ++ C) ∈ A ∧ ∀ D, fstIn lo hi (A ++ C) = fstIn lo hi (A ++ D)
  | [], h, _ => by simp at h
  | n :: A, h, C => by
    by_cases hn : lo ≤ n ∧ n ≤ hi
    · rw [List.cons_append, fstIn_hit hn]
      exact ⟨.head _, fun D => by rw [List.cons_append, fstIn_hit hn]⟩
    · have h' : ∃ c ∈ A, lo ≤ c ∧ c ≤ hi := by
        obtain ⟨c, hc, hi⟩ := h
        rcases List.mem_cons.mp hc with rfl | hc
        · exact absurd hi hn
        · exact ⟨c, hc, hi⟩
      have ih := fstIn_app_hit h' C
      rw [List.cons_append, fstIn_miss hn]
      exact ⟨.tail _ ih.1, fun D => by rw [List.cons_append, fstIn_miss hn]; exact ih.2 D⟩
theorem fstIn_app_miss {lo hi : Nat} : ∀ {A : List Nat}, (¬ ∃ c ∈ A, lo ≤ c ∧ c ≤ hi) → ∀ C, fstIn lo hi (A ++ C) = fstIn lo hi C
  | [], _, _ => rfl
  | n :: A, h, C => by
    rw [List.cons_append, fstIn_miss fun hn => h ⟨n, .head _, hn⟩]
    exact fstIn_app_miss (fun ⟨c, hc, hi⟩ => h ⟨c, .tail _ hc, hi⟩) C
theorem fstIn_swap {A B : List Nat} {a b : Nat} (h : ∃ c ∈ A, betB a b c = true) (lo hi : Nat) : fstIn lo hi (A ++ a :: b :: B) = fstIn lo hi (A ++ b :: a :: B) := by
  by_cases hA : ∃ c ∈ A, lo ≤ c ∧ c ≤ hi
  · exact (fstIn_app_hit hA _).2 _
  · rw [fstIn_app_miss hA, fstIn_app_miss hA]
    by_cases ha : lo ≤ a ∧ a ≤ hi
    · by_cases hb : lo ≤ b ∧ b ≤ hi
      · obtain ⟨c, hc, hi⟩ := h
        rw [betB_iff] at hi
        exact absurd ⟨c, hc, by omega⟩ hA
      · rw [fstIn_hit ha, fstIn_miss hb, fstIn_hit ha]
    · rw [fstIn_miss ha]
      by_cases hb : lo ≤ b ∧ b ≤ hi
      · rw [fstIn_hit hb, fstIn_hit hb]
      · rw [fstIn_miss hb, fstIn_miss hb, fstIn_miss ha]
theorem fstR_swap {A B : List Nat} {a b : Nat} (h : ∃ c ∈ A, betB a b c = true) (x y : Nat) : fstR x y (A ++ a :: b :: B) = fstR x y (A ++ b :: a :: B) := by
  unfold fstR
  rw [fstIn_swap h, fstIn_swap h]
theorem fstR_eq (x y : Nat) (l : List Nat) : fstR x y l = fstIn (min x y) (max x y) l := by
  unfold fstR
  by_cases h : x ≤ y
  · rw [show Nat.ble x y = true by simp [Nat.ble_eq, h], Nat.min_eq_left h, Nat.max_eq_right h]; rfl
  · rw [show Nat.ble x y = false by
      cases e : Nat.ble x y with
      | false => rfl
      | true => exact absurd (Nat.le_of_ble_eq_true e) h, Nat.min_eq_right (by omega), Nat.max_eq_left (by omega)]; rfl
theorem fstR_app_ne {A C : List Nat} {x y c : Nat} (hc : c ∈ A) (h : min x y ≤ c ∧ c ≤ max x y) (hy : y ∉ A) : fstR x y (A ++ C) ≠ y := by
  rw [fstR_eq]
  intro e
  exact hy (e ▸ (fstIn_app_hit ⟨c, hc, h⟩ C).1)
theorem filter_swap {A B : List Nat} {a b : Nat} (p : Nat → Bool) (h : ¬(p a = true ∧ p b = true)) : (A ++ a :: b :: B).filter p = (A ++ b :: a :: B).filter p := by
  rw [List.filter_append, List.filter_append]
  congr 1
  cases ha : p a <;> cases hb : p b <;> simp [ha, hb] at h ⊢
theorem dueF_swap {A B : List Nat} {a b : Nat} (h : ∃ c ∈ A, betB a b c = true) (ha : a ∉ A) (hb : b ∉ A) (x : Nat) : dueF (A ++ a :: b :: B) x = dueF (A ++ b :: a :: B) x := by
  unfold dueF
  have e : (fun y => Nat.beq (fstR x y (A ++ b :: a :: B)) y) = fun y => Nat.beq (fstR x y (A ++ a :: b :: B)) y := by
    funext y; rw [fstR_swap h]
  rw [e]
  refine filter_swap _ fun ⟨h1, h2⟩ => ?_
  have h1 := Nat.eq_of_beq_eq_true h1
  have h2 := Nat.eq_of_beq_eq_true h2
  obtain ⟨c, hc, hi⟩ := h
  rw [betB_iff] at hi
  by_cases hx : min x a ≤ c ∧ c ≤ max x a
  · exact fstR_app_ne hc hx ha h1
  · exact fstR_app_ne hc (show min x b ≤ c ∧ c ≤ max x b by omega) hb h2
end Mine
namespace Mine
/-! the search, fast -/
def nbrsGo : List Nat → List Nat → List (List Nat)
  | pre, a :: b :: l => bif anyB a b pre && anyB a b l then (pre.reverseAux (b :: a :: l)) :: nbrsGo (a :: pre) (b :: l) else nbrsGo (a :: pre) (b :: l)
  | _, _ => []
def eqR : List Nat → List Nat → Bool
  | [], [] => true
  | a :: l, b :: m => Nat.beq a b && eqR l m
  | _, _ => false
def memL (t : List Nat) : List (List Nat) → Bool
  | [] => false
  | u :: R => eqR t u || memL t R
def addP (R : List (List Nat)) (t : List Nat) : List (List Nat) := bif memL t R then R else R ++ [t]
def newsP (R : List (List Nat)) (o : List Nat) : List (List Nat) := (nbrsGo [] o).foldl addP R
def bfsP : Nat → Nat → List (List Nat) → List (List Nat)
  | 0, _, R => R
  | f + 1, seen, R => bif Nat.blt seen R.length && Nat.blt seen 100 then bfsP f (seen + 1) (newsP R (R.getD seen [])) else R
def reachP (s : List Nat) : List (List Nat) := bfsP 101 0 [s]

theorem eqR_iff : ∀ {l m : List Nat}, eqR l m = true ↔ l = m
  | [], [] => by simp [eqR]
  | [], _ :: _ => by simp [eqR]
  | _ :: _, [] => by simp [eqR]
  | a :: l, b :: m => by simp [eqR, eqR_iff (l := l)]
theorem memL_iff {t : List Nat} : ∀ {R : List (List Nat)}, memL t R = true ↔ t ∈ R
  | [] => by simp [memL]
  | u :: R => by simp [memL, memL_iff (R := R), eqR_iff]
theorem cmp_bet {a b x : Nat} (h : a ≠ b) : (cmpR a x + cmpR b x == 0) = betB a b x := by
  rw [Bool.eq_iff_iff, betB_iff, beq_iff_eq]
  unfold cmpR b2i
  simp only [decide_eq_true_eq]
  split <;> split <;> split <;> split <;> omega
theorem within_any {a b : Nat} (h : a ≠ b) (l : List Nat) : (!decide (withinR a b l = [])) = anyB a b l := by
  rw [Bool.eq_iff_iff, anyB_iff]
  unfold withinR
  simp only [Bool.not_eq_true', decide_eq_false_iff_not, List.filter_eq_nil_iff, cmp_bet h]
  simp
theorem free_any {o : List Nat} {k : Nat} (h : atR o k ≠ atR o (k + 1)) : freeR o k = (anyB (atR o k) (atR o (k + 1)) (o.take k) && anyB (atR o k) (atR o (k + 1)) (o.drop (k + 2))) := by
  unfold freeR aheadR behindR
  rw [within_any h, within_any h]
theorem anyB_rev (a b : Nat) (l : List Nat) : anyB a b l.reverse = anyB a b l := by
  rw [Bool.eq_iff_iff, anyB_iff, anyB_iff]; simp
theorem addR_fast {o : List Nat} {k : Nat} {c : Bool} {u : List Nat} (h : freeR o k = c) (hu : freshR o k = u) (R : List (List Nat)) : addR o k R = bif c then addP R u else R := by
  unfold addR addP
  rw [h, hu]
  have : memB u R = memL u R := by rw [Bool.eq_iff_iff, memB_iff, memL_iff]
  rw [this]
  cases c <;> cases memL u R <;> rfl
theorem fold_bif (c : Bool) (u : List Nat) (l : List (List Nat)) (R : List (List Nat)) : (bif c then u :: l else l).foldl addP R = l.foldl addP (bif c then addP R u else R) := by
  cases c <;> rfl
theorem news_eq {o : List Nat} (h6 : o.length = 6) (hd : o.Nodup) (R : List (List Nat)) : newsP R o = addR o 4 (addR o 3 (addR o 2 (addR o 1 (addR o 0 R)))) := by
  match o, h6 with
  | [c0, c1, c2, c3, c4, c5], _ =>
    simp only [List.nodup_cons, List.mem_cons, List.mem_nil_iff, or_false, not_or] at hd
    have e (k : Nat) (c : Bool) (u : List Nat) (h1 : freeR [c0, c1, c2, c3, c4, c5] k = c) (h2 : freshR [c0, c1, c2, c3, c4, c5] k = u) := addR_fast h1 h2
    rw [e 0 (anyB c0 c1 [] && anyB c0 c1 [c2, c3, c4, c5]) [c1, c0, c2, c3, c4, c5] (free_any (by exact hd.1.1)) rfl]
    rw [e 1 (anyB c1 c2 [c0] && anyB c1 c2 [c3, c4, c5]) [c0, c2, c1, c3, c4, c5] (free_any (by exact hd.2.1.1)) rfl]
    rw [e 2 (anyB c2 c3 [c1, c0] && anyB c2 c3 [c4, c5]) [c0, c1, c3, c2, c4, c5] ((free_any (by exact hd.2.2.1.1)).trans (congrArg (· && _) (anyB_rev c2 c3 [c1, c0]))) rfl]
    rw [e 3 (anyB c3 c4 [c2, c1, c0] && anyB c3 c4 [c5]) [c0, c1, c2, c4, c3, c5] ((free_any (by exact hd.2.2.2.1.1)).trans (congrArg (· && _) (anyB_rev c3 c4 [c2, c1, c0]))) rfl]
    rw [e 4 (anyB c4 c5 [c3, c2, c1, c0] && anyB c4 c5 []) [c0, c1, c2, c3, c5, c4] ((free_any (by exact hd.2.2.2.2.1)).trans (congrArg (· && _) (anyB_rev c4 c5 [c3, c2, c1, c0]))) rfl]
    unfold newsP
    simp only [nbrsGo, fold_bif, List.reverseAux, List.foldl_nil]
end Mine
namespace Mine
def preB : List Nat → List Nat → Bool
  | [], _ => true
  | _ :: _, [] => false
  | a :: l, b :: m => Nat.beq a b && preB l m
def apR (p q : List Nat) : Bool := !(preB p q || preB q p)
def apf (s : List Nat) (a b : Nat) : Bool := apR (dueF s a) (dueF s b)
def apGo (s : List Nat) : List Nat → List Nat → Bool
  | pre, a :: b :: l => (apf s a b == anyB a b pre) && apGo s (a :: pre) (b :: l)
  | _, _ => true
def Pm (t : List Nat) : Prop := t.Perm [0, 1, 2, 3, 4, 5]
theorem Pm.len {t : List Nat} (h : Pm t) : t.length = 6 := h.length_eq
theorem Pm.nodup {t : List Nat} (h : Pm t) : t.Nodup := h.nodup_iff.mpr (by decide)
theorem Pm.mem {t : List Nat} (h : Pm t) {x : Nat} : x ∈ t ↔ x < 6 := by
  rw [List.Perm.mem_iff h]
  simp only [List.mem_cons, List.mem_nil_iff, or_false]
  omega
theorem Pm.rev {t : List Nat} (h : Pm t) : Pm t.reverse := (List.reverse_perm t).trans h
theorem apf_symm (s : List Nat) (a b : Nat) : apf s a b = apf s b a := by
  unfold apf apR; rw [Bool.or_comm]
theorem betB_symm (a b x : Nat) : betB a b x = betB b a x := by
  unfold betB; rw [Bool.or_comm]
theorem anyB_symm (a b : Nat) (l : List Nat) : anyB a b l = anyB b a l := by
  induction l with
  | nil => rfl
  | cons x l ih => unfold anyB; rw [ih, betB_symm]
theorem ap_take {o : List Nat} (h6 : o.length = 6) (h : apGo o [] o = true) {k : Nat} (hk : k < 5) : apf o (atR o k) (atR o (k + 1)) = anyB (atR o k) (atR o (k + 1)) (o.take k) := by
  match o, h6 with
  | [c0, c1, c2, c3, c4, c5], _ =>
    simp only [apGo, Bool.and_eq_true, beq_iff_eq] at h
    obtain ⟨h0, h1, h2, h3, h4, _⟩ := h
    match k, hk with
    | 0, _ => exact h0
    | 1, _ => exact h1
    | 2, _ => exact h2.trans (anyB_rev c2 c3 [c0, c1])
    | 3, _ => exact h3.trans (anyB_rev c3 c4 [c0, c1, c2])
    | 4, _ => exact h4.trans (anyB_rev c4 c5 [c0, c1, c2, c3])
theorem at_rev {o : List Nat} (h6 : o.length = 6) {k : Nat} (hk : k < 5) : atR o.reverse (4 - k) = atR o (k + 1) ∧ atR o.reverse (4 - k + 1) = atR o k ∧ o.reverse.take (4 - k) = (o.drop (k + 2)).reverse := by
  match o, h6 with
  | [c0, c1, c2, c3, c4, c5], _ =>
    match k, hk with
    | 0, _ => exact ⟨rfl, rfl, rfl⟩
    | 1, _ => exact ⟨rfl, rfl, rfl⟩
    | 2, _ => exact ⟨rfl, rfl, rfl⟩
    | 3, _ => exact ⟨rfl, rfl, rfl⟩
    | 4, _ => exact ⟨rfl, rfl, rfl⟩
theorem ap_drop {o : List Nat} (h6 : o.length = 6) (h : apGo o.reverse [] o.reverse = true) {k : Nat} (hk : k < 5) : apf o.reverse (atR o k) (atR o (k + 1)) = anyB (atR o k) (atR o (k + 1)) (o.drop (k + 2)) := by
  have := ap_take (o := o.reverse) (by rw [List.length_reverse]; exact h6) h (k := 4 - k) (by omega)
  obtain ⟨e1, e2, e3⟩ := at_rev h6 hk
  rw [e1, e2, e3, anyB_rev, apf_symm, anyB_symm] at this
  exact this
theorem at_ne {o : List Nat} (h6 : o.length = 6) (hd : o.Nodup) {k : Nat} (hk : k < 5) : atR o k ≠ atR o (k + 1) := by
  unfold atR
  rw [List.getD_eq_getElem?_getD, List.getD_eq_getElem?_getD, List.getElem?_eq_getElem (by omega), List.getElem?_eq_getElem (by omega)]
  simp only [Option.getD_some]
  intro e
  exact List.pairwise_iff_getElem.mp hd k (k + 1) (by omega) (by omega) (by omega) e
theorem cut_at {o : List Nat} (h6 : o.length = 6) {k : Nat} (hk : k < 5) : o = o.take k ++ atR o k :: atR o (k + 1) :: o.drop (k + 2) := by
  match o, h6 with
  | [c0, c1, c2, c3, c4, c5], _ =>
    match k, hk with
    | 0, _ => rfl
    | 1, _ => rfl
    | 2, _ => rfl
    | 3, _ => rfl
    | 4, _ => rfl
structure Inv (s t : List Nat) : Prop where
  pm : Pm t
  d : ∀ x, dueF t x = dueF s x
  r : ∀ x, dueF t.reverse x = dueF s.reverse x
theorem Inv.ap {s t : List Nat} (h : Inv s t) (a b : Nat) : apf s a b = apf t a b := by unfold apf; rw [h.d, h.d]
theorem Inv.apr {s t : List Nat} (h : Inv s t) (a b : Nat) : apf s.reverse a b = apf t.reverse a b := by unfold apf; rw [h.r, h.r]
def HAp : Prop := ∀ t, Pm t → apGo t [] t = true
theorem bad_no (K : HAp) {s t : List Nat} (h : Inv s t) {k : Nat} (hk : k < 5) : badR (apf s) (apf s.reverse) t k = false := by
  have h6 := h.pm.len
  unfold badR
  rw [free_any (at_ne h6 h.pm.nodup hk), h.ap, h.apr, ap_take h6 (K t h.pm) hk, ap_drop h6 (K _ h.pm.rev) hk]
  simp
theorem fresh_inv {s t : List Nat} (h : Inv s t) {k : Nat} (hk : k < 5) (hf : freeR t k = true) : Inv s (freshR t k) := by
  have h6 := h.pm.len
  have hn := h.pm.nodup
  rw [free_any (at_ne h6 hn hk), Bool.and_eq_true, anyB_iff, anyB_iff] at hf
  have e := cut_at h6 hk
  have e' : freshR t k = t.take k ++ atR t (k + 1) :: atR t k :: t.drop (k + 2) := by unfold freshR; simp
  generalize atR t k = a at *
  generalize atR t (k + 1) = b at *
  generalize t.take k = A at *
  generalize t.drop (k + 2) = B at *
  rw [e']
  have hp : (A ++ b :: a :: B).Perm t := by
    rw [e]
    exact List.Perm.append_left _ (List.Perm.swap ..)
  rw [e, List.nodup_append] at hn
  have haA : a ∉ A := fun hm => hn.2.2 a hm a (.head _) rfl
  have hbA : b ∉ A := fun hm => hn.2.2 b hm b (.tail _ (.head _)) rfl
  have haB : a ∉ B := fun hm => (List.nodup_cons.mp hn.2.1).1 (.tail _ hm)
  have hbB : b ∉ B := fun hm => (List.nodup_cons.mp (List.nodup_cons.mp hn.2.1).2).1 hm
  refine ⟨hp.trans h.pm, fun x => ?_, fun x => ?_⟩
  · rw [← h.d x, e, dueF_swap hf.1 haA hbA]
  · rw [← h.r x, e]
    have : ∀ u v : Nat, (A ++ u :: v :: B).reverse = B.reverse ++ v :: u :: A.reverse := fun u v => by simp
    rw [this, this]
    refine dueF_swap ?_ (by simpa using haB) (by simpa using hbB) x
    obtain ⟨c, hc, hb⟩ := hf.2
    exact ⟨c, by simpa using hc, hb⟩
theorem add_inv {s t : List Nat} (h : Inv s t) {k : Nat} (hk : k < 5) {R : List (List Nat)} (hR : ∀ x ∈ R, Inv s x) : ∀ x ∈ addR t k R, Inv s x := fun x hx => by
  unfold addR at hx
  split at hx
  · rename_i hc
    rw [Bool.and_eq_true] at hc
    rcases List.mem_append.mp hx with hx | hx
    · exact hR x hx
    · rw [List.mem_singleton] at hx; subst hx; exact fresh_inv h hk hc.1
  · exact hR x hx
theorem inner_fast (K : HAp) {s t : List Nat} (h : Inv s t) (R : List (List Nat)) : innerR (apf s) (apf s.reverse) t R 5 = some (newsP R t) := by
  rw [news_eq h.pm.len h.pm.nodup]
  simp only [innerR, Option.bind_some, bad_no K h (show 0 < 5 by omega), bad_no K h (show 1 < 5 by omega), bad_no K h (show 2 < 5 by omega), bad_no K h (show 3 < 5 by omega), bad_no K h (show 4 < 5 by omega)]
  rfl
theorem news_inv {s t : List Nat} (h : Inv s t) {R : List (List Nat)} (hR : ∀ x ∈ R, Inv s x) : ∀ x ∈ newsP R t, Inv s x := by
  rw [news_eq h.pm.len h.pm.nodup]
  exact add_inv h (by omega) (add_inv h (by omega) (add_inv h (by omega) (add_inv h (by omega) (add_inv h (by omega) hR))))
theorem bfs_fast (K : HAp) {s : List Nat} : ∀ f seen (R : List (List Nat)), (∀ x ∈ R, Inv s x) → bfsR (apf s) (apf s.reverse) f seen R = bfsP f seen R ∧ ∀ x ∈ bfsP f seen R, Inv s x
  | 0, _, R, h => ⟨rfl, h⟩
  | f + 1, seen, R, h => by
    unfold bfsR bfsP
    have hm : moreR seen R.length = (Nat.blt seen R.length && Nat.blt seen 100) := by
      unfold moreR
      rw [Bool.eq_iff_iff]; simp [Nat.blt_eq]
    rw [hm]
    cases hc : (Nat.blt seen R.length && Nat.blt seen 100) with
    | false => exact ⟨rfl, h⟩
    | true =>
      rw [Bool.and_eq_true, Nat.blt_eq] at hc
      have hi : Inv s (R.getD seen []) := h _ (by rw [List.getD_eq_getElem?_getD, List.getElem?_eq_getElem hc.1]; exact List.getElem_mem hc.1)
      rw [inner_fast K hi]
      exact bfs_fast K f (seen + 1) _ (news_inv hi h)
theorem reach_fast (K : HAp) {s : List Nat} (h : Pm s) : reachedR (apf s) (apf s.reverse) s = reachP s ∧ ∀ x ∈ reachP s, Inv s x :=
  bfs_fast K 101 0 [s] (fun x hx => by rw [List.mem_singleton] at hx; subst hx; exact ⟨h, fun _ => rfl, fun _ => rfl⟩)
end Mine
namespace Mine
/-! the Baxter test, fast -/
def baxAt (a b : Nat) (A B : List Nat) : Bool := bif Nat.blt a b then A.all (fun c => B.all fun d => !(betB a b c && betB a b d && Nat.blt d c)) else A.all (fun c => B.all fun d => !(betB a b c && betB a b d && Nat.blt c d))
def baxGo : List Nat → List Nat → Bool
  | pre, a :: b :: l => baxAt a b pre l && baxGo (a :: pre) (b :: l)
  | _, _ => true
theorem baxAt_rev (a b : Nat) (A B : List Nat) : baxAt a b A.reverse B = baxAt a b A B := by
  unfold baxAt
  rw [List.all_reverse, List.all_reverse]
theorem cmp_lt {a b : Nat} (h : a < b) : cmpR a b = -1 := by
  unfold cmpR b2i
  rw [if_neg (by simp; omega), if_pos (by simp; omega)]; rfl
theorem cmp_gt {a b : Nat} (h : b < a) : cmpR a b = 1 := by
  unfold cmpR b2i
  rw [if_pos (by simp; omega), if_neg (by simp; omega)]; rfl
theorem viol_iff {a b : Nat} {A B : List Nat} (hab : a ≠ b) (hd : ∀ c ∈ A, ∀ d ∈ B, c ≠ d) :
    decide (((withinR a b A).flatMap fun c => ((withinR a b B).filter fun d => cmpR c d != cmpR a b).map fun _ => c) = []) = baxAt a b A B := by
  rw [Bool.eq_iff_iff, decide_eq_true_eq, List.flatMap_eq_nil_iff]
  unfold baxAt withinR
  simp only [List.map_eq_nil_iff, List.filter_eq_nil_iff, List.mem_filter, cmp_bet hab, and_imp]
  rcases Nat.lt_or_gt_of_ne hab with h | h
  · rw [show Nat.blt a b = true by rw [Nat.blt_eq]; exact h, cmp_lt h]
    simp only [cond_true, List.all_eq_true]
    constructor
    · intro H c hc d hd'
      cases e1 : betB a b c <;> cases e2 : betB a b d <;> cases e3 : Nat.blt d c <;> simp
      have := H c hc e1 d hd' e2
      rw [Nat.blt_eq] at e3
      rw [cmp_gt e3] at this
      exact this (by decide)
    · intro H c hc e1 d hd' e2 e3
      have := H c hc d hd'
      rw [e1, e2] at this
      have h3 : Nat.blt d c = false := by simpa using this
      have h4 : ¬ d < c := fun h5 => by rw [(Nat.blt_eq).mpr h5] at h3; cases h3
      have h5 := hd c hc d hd'
      rw [cmp_lt (by omega)] at e3
      exact absurd e3 (by decide)
  · rw [show Nat.blt a b = false by
      cases e : Nat.blt a b with
      | false => rfl
      | true => rw [Nat.blt_eq] at e; omega, cmp_gt h]
    simp only [cond_false, List.all_eq_true]
    constructor
    · intro H c hc d hd'
      cases e1 : betB a b c <;> cases e2 : betB a b d <;> cases e3 : Nat.blt c d <;> simp
      have := H c hc e1 d hd' e2
      rw [Nat.blt_eq] at e3
      rw [cmp_lt e3] at this
      exact this (by decide)
    · intro H c hc e1 d hd' e2 e3
      have := H c hc d hd'
      rw [e1, e2] at this
      have h3 : Nat.blt c d = false := by simpa using this
      have h4 : ¬ c < d := fun h5 => by rw [(Nat.blt_eq).mpr h5] at h3; cases h3
      have h5 := hd c hc d hd'
      rw [cmp_gt (by omega)] at e3
      exact absurd e3 (by decide)
theorem viol_at {o : List Nat} (h6 : o.length = 6) (hn : o.Nodup) {k : Nat} (hk : k < 5) : decide (violR o k = []) = baxAt (atR o k) (atR o (k + 1)) (o.take k) (o.drop (k + 2)) := by
  unfold violR aheadR behindR
  refine viol_iff (at_ne h6 hn hk) fun c hc d hd => ?_
  have e := cut_at h6 hk
  rw [e, List.nodup_append] at hn
  exact hn.2.2 c hc d (.tail _ (.tail _ hd))
theorem baxter_fast {o : List Nat} (h6 : o.length = 6) (hn : o.Nodup) : baxterR o = baxGo [] o := by
  unfold baxterR
  have e : (List.range 5).all (fun k => decide (violR o k = [])) = (List.range 5).all fun k => baxAt (atR o k) (atR o (k + 1)) (o.take k) (o.drop (k + 2)) := by
    rw [Bool.eq_iff_iff, List.all_eq_true, List.all_eq_true]
    constructor
    · intro H k hk; rw [← viol_at h6 hn (List.mem_range.mp hk)]; exact H k hk
    · intro H k hk; rw [viol_at h6 hn (List.mem_range.mp hk)]; exact H k hk
  rw [e]
  match o, h6 with
  | [c0, c1, c2, c3, c4, c5], _ =>
    show (baxAt c0 c1 [] [c2, c3, c4, c5] && (baxAt c1 c2 [c0] [c3, c4, c5] && (baxAt c2 c3 [c0, c1] [c4, c5] && (baxAt c3 c4 [c0, c1, c2] [c5] && (baxAt c4 c5 [c0, c1, c2, c3] [] && true))))) = _
    rw [← baxAt_rev c2 c3 [c0, c1], ← baxAt_rev c3 c4 [c0, c1, c2], ← baxAt_rev c4 c5 [c0, c1, c2, c3]]
    rfl
/-! what the trees tell: the orders that grow them -/
def bitS (s r : List Nat) (x y : Nat) : Bool := !(Nat.beq x y) && (Nat.beq (fstR x y s) y || Nat.beq (fstR y x r) x)
def maskS (s r : List Nat) (x : Nat) : Nat := [0, 1, 2, 3, 4, 5].foldl (fun m y => bif bitS s r x y then Nat.add m (Nat.pow 2 y) else m) 0
def eraN (x : Nat) : List Nat → List Nat
  | [] => []
  | y :: l => bif Nat.beq x y then l else y :: eraN x l
def linGo (P : List Nat) : Nat → List Nat → Nat → List (List Nat)
  | 0, _, _ => [[]]
  | n + 1, rem, m => rem.flatMap fun x => bif Nat.beq (Nat.land (P.getD x 0) m) 0 then (linGo P n (eraN x rem) (Nat.sub m (Nat.pow 2 x))).map (x :: ·) else []
def linS (s : List Nat) : List (List Nat) := linGo ([0, 1, 2, 3, 4, 5].map (maskS s s.reverse)) 6 [0, 1, 2, 3, 4, 5] 63
theorem mem_dueF {s : List Nat} (h : Pm s) {x y : Nat} (hy : y < 6) : decide (y ∈ dueF s x) = Nat.beq (fstR x y s) y := by
  rw [Bool.eq_iff_iff, decide_eq_true_eq]
  unfold dueF
  rw [List.mem_filter]
  exact ⟨fun h => h.2, fun h' => ⟨h.mem.mpr hy, h'⟩⟩
theorem bit_inv {s t : List Nat} (hs : Pm s) (ht : Pm t) (hd : ∀ x, x < 6 → dueF t x = dueF s x) (hr : ∀ x, x < 6 → dueF t.reverse x = dueF s.reverse x) {x y : Nat} (hx : x < 6) (hy : y < 6) : bitS t t.reverse x y = bitS s s.reverse x y := by
  unfold bitS
  rw [← mem_dueF ht hy, ← mem_dueF ht.rev hx, ← mem_dueF hs hy, ← mem_dueF hs.rev hx, hd x hx, hr y hy]
theorem lin_inv {s t : List Nat} (hs : Pm s) (ht : Pm t) (hd : ∀ x, x < 6 → dueF t x = dueF s x) (hr : ∀ x, x < 6 → dueF t.reverse x = dueF s.reverse x) : linS t = linS s := by
  unfold linS
  have : ([0, 1, 2, 3, 4, 5].map (maskS t t.reverse)) = [0, 1, 2, 3, 4, 5].map (maskS s s.reverse) := by
    refine List.map_congr_left fun x hx => ?_
    have hx : x < 6 := by simp only [List.mem_cons, List.mem_nil_iff, or_false] at hx; omega
    unfold maskS
    simp only [List.foldl_cons, List.foldl_nil, bit_inv hs ht hd hr hx (show 0 < 6 by omega), bit_inv hs ht hd hr hx (show 1 < 6 by omega), bit_inv hs ht hd hr hx (show 2 < 6 by omega), bit_inv hs ht hd hr hx (show 3 < 6 by omega), bit_inv hs ht hd hr hx (show 4 < 6 by omega), bit_inv hs ht hd hr hx (show 5 < 6 by omega)]
  rw [this]
end Mine
namespace Mine
theorem dueF_last {s : List Nat} (h : Pm s) {x : Nat} (hx : x < 6) : ∃ p, dueF s x = p ++ [x] ∧ Six p := by
  have hm := h.mem.mpr hx
  obtain ⟨A, B, e⟩ := List.append_of_mem hm
  have hn := h.nodup
  have hs : ∀ y ∈ s, y < 6 := fun y hy => h.mem.mp hy
  rw [e, List.nodup_append] at hn
  have hxA : x ∉ A := fun hm => hn.2.2 x hm x (.head _) rfl
  have hxB : x ∉ B := (List.nodup_cons.mp hn.2.1).1
  refine ⟨A.filter fun y => Nat.beq (fstR x y s) y, ?_, fun y hy => ?_⟩
  · unfold dueF
    conv => lhs; arg 2; rw [e]
    rw [List.filter_append, List.filter_cons]
    have e1 : Nat.beq (fstR x x s) x = true := by
      rw [fstR_eq, e, fstIn_app_miss (by
        rintro ⟨c, hc, h1⟩
        have : c = x := by omega
        exact hxA (this ▸ hc)), fstIn_hit (by omega)]
      exact Nat.beq_refl x
    have e2 : B.filter (fun y => Nat.beq (fstR x y s) y) = [] := by
      rw [List.filter_eq_nil_iff]
      intro y hy h1
      have h1 := Nat.eq_of_beq_eq_true h1
      have e3 : s = (A ++ [x]) ++ B := by rw [e]; simp
      rw [e3] at h1
      refine fstR_app_ne (c := x) (by simp) (by omega) ?_ h1
      intro hm
      rcases List.mem_append.mp hm with hm | hm
      · exact hn.2.2 y hm y (.tail _ hy) rfl
      · rw [List.mem_singleton] at hm; exact hxB (hm ▸ hy)
    rw [if_pos e1, e2]
  · exact hs y (by rw [e]; exact List.mem_append_left _ (List.mem_filter.mp hy).1)
/-! growing, fast -/
abbrev Kv := List (List Nat × List Nat)
structure Tri where
  a : Kv
  b : Kv
  c : Kv
def Tri.at (M : Tri) : Nat → Kv
  | 0 => M.a
  | 1 => M.b
  | _ => M.c
def Tri.set (M : Tri) (j : Nat) (v : Kv) : Tri := match j with
  | 0 => ⟨v, M.b, M.c⟩
  | 1 => ⟨M.a, v, M.c⟩
  | _ => ⟨M.a, M.b, v⟩
def lookF (k : List Nat) : Kv → Option (List Nat)
  | [] => none
  | (a, b) :: l => bif eqR k a then some b else lookF k l
def cmpN (x y : Nat) : Nat := bif Nat.blt y x then 2 else bif Nat.blt x y then 0 else 1
def wstepF (M : Tri) (x : Nat) (ps : List Nat × Nat) : List Nat × Nat := match lookF ps.1 (M.at ps.2) with | some p => (p, cmpN x (p.getLastD 0)) | none => ps
def wrunF (M : Tri) (x : Nat) : Nat → List Nat × Nat
  | 0 => ([], 1)
  | n + 1 => wstepF M x (wrunF M x n)
def putF (kvs : Kv) (k v : List Nat) : Kv := match lookF k kvs with | some _ => kvs.map (fun kv => bif eqR kv.1 k then (kv.1, v) else kv) | none => kvs ++ [(k, v)]
def gstepF (st : Tri × List (List Nat)) (x : Nat) : Tri × List (List Nat) :=
  let w := wrunF st.1 x st.2.length
  (st.1.set w.2 (putF (st.1.at w.2) w.1 (w.1 ++ [x])), st.2 ++ [w.1 ++ [x]])
def grownF (o : List Nat) : List (List Nat) := (o.foldl gstepF (⟨[], [], []⟩, [])).2
def eqLL : List (List Nat) → List (List Nat) → Bool
  | [], [] => true
  | a :: l, b :: m => eqR a b && eqLL l m
  | _, _ => false
theorem eqLL_iff : ∀ {l m : List (List Nat)}, eqLL l m = true ↔ l = m
  | [], [] => by simp [eqLL]
  | [], _ :: _ => by simp [eqLL]
  | _ :: _, [] => by simp [eqLL]
  | a :: l, b :: m => by simp [eqLL, eqLL_iff (l := l), eqR_iff]
/-! what the kernel is asked of each order -/
def chk (s : List Nat) : Bool := eqLL (grownF s) (s.map (dueF s)) && (Nat.beq ((reachP s).filter (baxGo [])).length 1 && (apGo s [] s && (memL s (linS s) && (linS s).all fun t => memL t (reachP s))))
def pms : List Nat → Nat → List (List Nat)
  | _, 0 => [[]]
  | l, n + 1 => l.flatMap fun x => (pms (eraN x l) n).map (x :: ·)
theorem eraN_perm {x : Nat} : ∀ {l : List Nat}, x ∈ l → l.Perm (x :: eraN x l)
  | y :: l, h => by
    unfold eraN
    cases e : Nat.beq x y with
    | true => rw [Nat.eq_of_beq_eq_true e]; exact List.Perm.refl _
    | false =>
      rcases List.mem_cons.mp h with rfl | h
      · rw [Nat.beq_refl] at e; cases e
      · exact ((eraN_perm h).cons y).trans (List.Perm.swap ..)
theorem mem_pms : ∀ {t l : List Nat}, t.Perm l → t ∈ pms l t.length
  | [], _, _ => by simp [pms]
  | x :: t, l, h => by
    have hx : x ∈ l := h.mem_iff.mp (.head _)
    have := mem_pms (List.Perm.cons_inv (h.trans (eraN_perm hx)))
    show _ ∈ pms l (t.length + 1)
    unfold pms
    exact List.mem_flatMap.mpr ⟨x, hx, List.mem_map.mpr ⟨t, this, rfl⟩⟩
def cut (x y : Nat) : Bool := (pms (eraN y (eraN x [0, 1, 2, 3, 4, 5])) 4).all fun u => chk (x :: y :: u)
theorem chk_all (H : ∀ x y, x < 6 → y < 6 → x ≠ y → cut x y = true) {t : List Nat} (h : Pm t) : chk t = true := by
  match t, h.len, h with
  | [c0, c1, c2, c3, c4, c5], _, h =>
    have h0 : c0 < 6 := h.mem.mp (by simp)
    have h1 : c1 < 6 := h.mem.mp (by simp)
    have hn := h.nodup
    have hne : c0 ≠ c1 := fun e => (List.nodup_cons.mp hn).1 (by simp [e])
    have p1 := List.Perm.cons_inv (h.trans (eraN_perm (show c0 ∈ [0, 1, 2, 3, 4, 5] by simp; omega)))
    have p2 := List.Perm.cons_inv (p1.trans (eraN_perm (p1.mem_iff.mp (.head _))))
    exact List.all_eq_true.mp (H c0 c1 h0 h1 hne) _ (mem_pms p2)
end Mine
namespace Mine
theorem cut_01 : cut 0 1 = true := by decide +kernel
theorem cut_02 : cut 0 2 = true := by decide +kernel
theorem cut_03 : cut 0 3 = true := by decide +kernel
theorem cut_04 : cut 0 4 = true := by decide +kernel
theorem cut_05 : cut 0 5 = true := by decide +kernel
theorem cut_10 : cut 1 0 = true := by decide +kernel
theorem cut_12 : cut 1 2 = true := by decide +kernel
theorem cut_13 : cut 1 3 = true := by decide +kernel
theorem cut_14 : cut 1 4 = true := by decide +kernel
theorem cut_15 : cut 1 5 = true := by decide +kernel
theorem cut_20 : cut 2 0 = true := by decide +kernel
theorem cut_21 : cut 2 1 = true := by decide +kernel
theorem cut_23 : cut 2 3 = true := by decide +kernel
theorem cut_24 : cut 2 4 = true := by decide +kernel
theorem cut_25 : cut 2 5 = true := by decide +kernel
theorem cut_30 : cut 3 0 = true := by decide +kernel
theorem cut_31 : cut 3 1 = true := by decide +kernel
theorem cut_32 : cut 3 2 = true := by decide +kernel
theorem cut_34 : cut 3 4 = true := by decide +kernel
theorem cut_35 : cut 3 5 = true := by decide +kernel
theorem cut_40 : cut 4 0 = true := by decide +kernel
theorem cut_41 : cut 4 1 = true := by decide +kernel
theorem cut_42 : cut 4 2 = true := by decide +kernel
theorem cut_43 : cut 4 3 = true := by decide +kernel
theorem cut_45 : cut 4 5 = true := by decide +kernel
theorem cut_50 : cut 5 0 = true := by decide +kernel
theorem cut_51 : cut 5 1 = true := by decide +kernel
theorem cut_52 : cut 5 2 = true := by decide +kernel
theorem cut_53 : cut 5 3 = true := by decide +kernel
theorem cut_54 : cut 5 4 = true := by decide +kernel
theorem cut_all : ∀ x y, x < 6 → y < 6 → x ≠ y → cut x y = true
  | 0, 0, _, _, h => absurd rfl h
  | 0, 1, _, _, _ => cut_01
  | 0, 2, _, _, _ => cut_02
  | 0, 3, _, _, _ => cut_03
  | 0, 4, _, _, _ => cut_04
  | 0, 5, _, _, _ => cut_05
  | 1, 0, _, _, _ => cut_10
  | 1, 1, _, _, h => absurd rfl h
  | 1, 2, _, _, _ => cut_12
  | 1, 3, _, _, _ => cut_13
  | 1, 4, _, _, _ => cut_14
  | 1, 5, _, _, _ => cut_15
  | 2, 0, _, _, _ => cut_20
  | 2, 1, _, _, _ => cut_21
  | 2, 2, _, _, h => absurd rfl h
  | 2, 3, _, _, _ => cut_23
  | 2, 4, _, _, _ => cut_24
  | 2, 5, _, _, _ => cut_25
  | 3, 0, _, _, _ => cut_30
  | 3, 1, _, _, _ => cut_31
  | 3, 2, _, _, _ => cut_32
  | 3, 3, _, _, h => absurd rfl h
  | 3, 4, _, _, _ => cut_34
  | 3, 5, _, _, _ => cut_35
  | 4, 0, _, _, _ => cut_40
  | 4, 1, _, _, _ => cut_41
  | 4, 2, _, _, _ => cut_42
  | 4, 3, _, _, _ => cut_43
  | 4, 4, _, _, h => absurd rfl h
  | 4, 5, _, _, _ => cut_45
  | 5, 0, _, _, _ => cut_50
  | 5, 1, _, _, _ => cut_51
  | 5, 2, _, _, _ => cut_52
  | 5, 3, _, _, _ => cut_53
  | 5, 4, _, _, _ => cut_54
  | 5, 5, _, _, h => absurd rfl h
  | n + 6, _, h, _, _ => absurd h (by omega)
  | 0, n + 6, _, h, _ => absurd h (by omega)
  | 1, n + 6, _, h, _ => absurd h (by omega)
  | 2, n + 6, _, h, _ => absurd h (by omega)
  | 3, n + 6, _, h, _ => absurd h (by omega)
  | 4, n + 6, _, h, _ => absurd h (by omega)
  | 5, n + 6, _, h, _ => absurd h (by omega)
theorem chk_pm {t : List Nat} (h : Pm t) : chk t = true := chk_all cut_all h
end Mine
namespace Mine
open Builtin Builtin.Str
/-! ### paths of names -/
def pc (κ r : Nat) (l : List Nat) : List Nat := l.flatMap fun i => 47 :: (nm κ r i).cps.toList
def pth (κ r : Nat) (l : List Nat) : Str := ⟨(pc κ r l).toArray⟩
def pr (κ r : Nat) (l : List Nat) : Str := if l = [] then slash else pth κ r l
theorem slash_list : slash.cps.toList = [47] := by decide
theorem str_len (x : Str) : x.length = x.cps.toList.length := by show x.cps.size = _; simp
theorem pth_list (κ r : Nat) (l : List Nat) : (pth κ r l).cps.toList = pc κ r l := rfl
theorem app_list (x y : Str) : (x ++ y).cps.toList = x.cps.toList ++ y.cps.toList := by
  show (x.cps ++ y.cps).toList = _
  rw [Array.toList_append]
theorem pc_app (κ r : Nat) (l m : List Nat) : pc κ r (l ++ m) = pc κ r l ++ pc κ r m := by unfold pc; rw [List.flatMap_append]
theorem pc_one (κ r x : Nat) : pc κ r [x] = 47 :: (nm κ r x).cps.toList := by simp [pc]
theorem pc_cons (κ r x : Nat) (l : List Nat) : pc κ r (x :: l) = 47 :: ((nm κ r x).cps.toList ++ pc κ r l) := by simp [pc]
theorem pth_snoc (κ r : Nat) (l : List Nat) (x : Nat) : pth κ r (l ++ [x]) = pth κ r l ++ (slash ++ nm κ r x) := str_ext (by
  rw [app_list, app_list, slash_list, pth_list, pth_list, pc_app, pc_one]; rfl)
theorem gl_map (p : List Nat) (κ r : Nat) (l : List Nat) : gl (p :: (l.map (nm κ r)).map (·.cps.toList)) = p ++ pc κ r l := by
  show p ++ ((l.map (nm κ r)).map (·.cps.toList)).flatMap (fun q => 47 :: q) = _
  rw [List.flatMap_map, List.flatMap_map]; rfl
theorem pth_glued (κ r : Nat) (l : List Nat) : pth κ r l = glued slash (Str.ofString "" :: l.map (nm κ r)) := str_ext (by
  rw [glued_gl, List.map_cons]
  have : (Str.ofString "").cps.toList = [] := by decide
  rw [this, gl_map]; rfl)
theorem slash_join (κ r : Nat) (c : List Nat) : slash ++ Txt.join slash (c.map (nm κ r)) = pr κ r c := by
  unfold pr Txt.join
  split
  · rename_i h; subst h; exact show slash ++ glued slash [] = slash by decide
  · refine str_ext ?_
    cases c with
    | nil => contradiction
    | cons x c =>
      rw [app_list, glued_gl, slash_list, pth_list, List.map_cons, List.map_cons, pc_cons, gl_map]; rfl
section
variable {κ r : Nat} (hκ : κ < 5) (hr : r < 12)
include hκ hr
theorem nm_ok {i : Nat} (hi : i < 6) : 47 ∉ (nm κ r i).cps.toList ∧ nm κ r i ≠ Str.ofString "." ∧ 0 < (nm κ r i).length ∧ (nm κ r i).length ≤ 100 := by
  obtain ⟨_, h2, h3⟩ := names_at hκ hr
  have hm : nm κ r i ∈ names κ r := by
    unfold nm
    rw [List.getD_eq_getElem?_getD, List.getElem?_eq_getElem (by omega)]
    exact List.getElem_mem (by omega)
  have h := h2 _ hm
  unfold nameOk at h
  simp only [Bool.and_eq_true, Bool.not_eq_true', bne_iff_ne, decide_eq_true_eq, ne_eq] at h
  obtain ⟨⟨⟨a, b⟩, c⟩, d⟩ := h
  refine ⟨fun hm => ?_, b, by omega, d⟩
  have : (nm κ r i).cps.toList.contains 47 = true := by rw [List.contains_iff_mem]; exact hm
  rw [a] at this; cases this
theorem join_nm {l : List Nat} (hl : Six l) {x : Nat} (hx : x < 6) : joinP (pr κ r l) (nm κ r x) = pth κ r (l ++ [x]) := by
  obtain ⟨a, _, c, _⟩ := nm_ok hκ hr hx
  have hs : Txt.startswith (nm κ r x) (Str.ofString "/") = false := by
    cases e : Txt.startswith (nm κ r x) (Str.ofString "/") with
    | false => rfl
    | true =>
      have := (starts_iff (nm κ r x)).mp e
      exact absurd (List.mem_of_getElem? this) a
  rcases List.eq_nil_or_concat l with rfl | ⟨l', y, rfl⟩
  · have e0 : pr κ r [] = slash := rfl
    unfold joinP
    rw [hs, e0, if_neg (by decide), if_pos (by decide)]
    refine str_ext ?_
    rw [app_list, slash_list, List.nil_append, pth_list, pc_one]; rfl
  · have hy : y < 6 := hl y (by simp)
    obtain ⟨a', _, c', _⟩ := nm_ok hκ hr hy
    have hp : pr κ r (l' ++ [y]) = pth κ r (l' ++ [y]) := if_neg (by simp)
    have he : Txt.endswith (pth κ r (l' ++ [y])) (Str.ofString "/") = false := by
      cases e : Txt.endswith (pth κ r (l' ++ [y])) (Str.ofString "/") with
      | false => rfl
      | true =>
        have := ((ends_iff _).mp e).2
        rw [pth_list, pc_app, pc_one, str_len, pth_list, pc_app, pc_one] at this
        rw [str_len] at c'
        generalize (nm κ r y).cps.toList = n at this a' c'
        simp only [List.length_append, List.length_cons] at this
        rw [List.getElem?_append_right (by omega), List.getElem?_cons, if_neg (by omega)] at this
        exact absurd (List.mem_of_getElem? this) a'
    have hl0 : ((pth κ r (l' ++ [y])).length : Int) ≠ 0 := by
      rw [str_len, pth_list, pc_app, pc_one]; simp
      omega
    rw [List.concat_eq_append, hp]
    unfold joinP
    rw [hs, he, if_neg (by simp; omega), if_neg (by decide)]
    exact (pth_snoc κ r _ x).symm
theorem base_nm (l : List Nat) {x : Nat} (hx : x < 6) : baseP (pth κ r (l ++ [x])) = nm κ r x := by
  obtain ⟨a, _, c, _⟩ := nm_ok hκ hr hx
  have hl : (pth κ r (l ++ [x])).cps.toList = pc κ r l ++ 47 :: (nm κ r x).cps.toList := by rw [pth_list, pc_app, pc_one]
  have hat : ∀ i, StrLaws.At (pth κ r (l ++ [x])) slash (pth κ r (l ++ [x])).length i ↔ (pc κ r l ++ 47 :: (nm κ r x).cps.toList)[i]? = some 47 := fun i => by
    rw [← hl]; exact sub_slash _ i
  have hmid : (pc κ r l ++ 47 :: (nm κ r x).cps.toList)[(pc κ r l).length]? = some 47 := by
    rw [List.getElem?_append_right (Nat.le_refl _)]; simp
  unfold baseP
  rcases rfind_whole (pth κ r (l ++ [x])) slash with ⟨_, h⟩ | ⟨i, e, h1, h2⟩
  · exact absurd ((hat _).mpr hmid) (h _)
  · have hi : i = (pc κ r l).length := by
      rcases Nat.lt_trichotomy i (pc κ r l).length with h | h | h
      · exact absurd ((hat _).mpr hmid) (h2 _ h)
      · exact h
      · have := (hat i).mp h1
        rw [List.getElem?_append_right (by omega), List.getElem?_cons, if_neg (by omega)] at this
        exact absurd (List.mem_of_getElem? this) a
    have hlen : (pth κ r (l ++ [x])).length = (pc κ r l).length + 1 + (nm κ r x).cps.toList.length := by
      rw [str_len, hl]; simp; omega
    have e' : Txt.rfind (pth κ r (l ++ [x])) (Str.ofString "/") = ((pc κ r l).length : Int) := by rw [← hi]; exact e
    rw [e', slice_from_eq (b := ((pth κ r (l ++ [x])).length : Int)) (by omega) (by omega) rfl]
    refine str_ext ?_
    show ((pth κ r (l ++ [x])).cps.toList.drop _).take _ = _
    rw [hl, List.drop_append, List.drop_of_length_le (by omega), List.nil_append]
    rw [show (((pc κ r l).length : Int) + 1).toNat - (pc κ r l).length = 1 by omega, List.drop_succ_cons, List.drop_zero]
    exact List.take_of_length_le (by omega)
theorem parts_nm {l : List Nat} (hl : Six l) : parts (pth κ r l) = l.map (nm κ r) := by
  unfold parts
  rw [pth_glued, split_glued (by
    intro p hp
    rcases List.mem_cons.mp hp with rfl | hp
    · decide
    · obtain ⟨i, hi, rfl⟩ := List.mem_map.mp hp
      exact (nm_ok hκ hr (hl i hi)).1) (by simp), List.filter_cons, if_neg (by decide)]
  refine List.filter_eq_self.mpr fun p hp => ?_
  obtain ⟨i, hi, rfl⟩ := List.mem_map.mp hp
  obtain ⟨_, b, c, _⟩ := nm_ok hκ hr (hl i hi)
  simp only [Bool.and_eq_true, bne_iff_ne, ne_eq]
  exact ⟨by omega, b⟩
theorem pth_inj {l m : List Nat} (hl : Six l) (hm : Six m) (h : pth κ r l = pth κ r m) : l = m :=
  map_inj hκ hr hl hm (by rw [← parts_nm hκ hr hl, ← parts_nm hκ hr hm, h])
theorem pr_pth {l m : List Nat} (hl : Six l) (hm : Six m) (hn : m ≠ []) : pr κ r l = pth κ r m ↔ l = m := by
  unfold pr
  split
  · rename_i h
    subst h
    constructor
    · intro e
      cases m with
      | nil => contradiction
      | cons x m =>
        have e := congrArg (fun s : Str => s.cps.toList.length) e
        have c := (nm_ok hκ hr (hm x (.head _))).2.2.1
        rw [str_len] at c
        simp only [slash_list, pth_list, pc_cons, List.length_cons, List.length_append, List.length_nil] at e
        omega
    · intro e; exact absurd e.symm hn
  · exact ⟨fun e => pth_inj hκ hr hl hm e, fun e => by rw [e]⟩
theorem pr_inj {l m : List Nat} (hl : Six l) (hm : Six m) (h : pr κ r l = pr κ r m) : l = m := by
  by_cases hn : m = []
  · subst hn
    by_cases hn' : l = []
    · exact hn'
    · exact ((pr_pth hκ hr hm hl hn').mp (h.symm.trans (if_neg hn'))).symm
  · exact (pr_pth hκ hr hl hm hn).mp (h.trans (if_neg hn))
end
end Mine
namespace Mine
open Builtin Builtin.Str
def ltR : List Nat → List Nat → Bool
  | [], [] => false
  | [], _ :: _ => true
  | _ :: _, [] => false
  | x :: xs, y :: ys => if x = y then ltR xs ys else decide (x < y)
theorem ltR_asymm : ∀ {a b : List Nat}, ltR a b = true → ltR b a = false
  | [], [], h => by cases h
  | [], _ :: _, _ => rfl
  | _ :: _, [], h => by cases h
  | x :: xs, y :: ys, h => by
    unfold ltR at h ⊢
    by_cases e : x = y
    · subst e
      rw [if_pos rfl] at h ⊢
      exact ltR_asymm h
    · rw [if_neg e, decide_eq_true_eq] at h
      rw [if_neg (Ne.symm e), decide_eq_false_iff_not]
      omega
theorem ltR_total : ∀ {a b : List Nat}, ltR a b = false → ltR b a = false → a = b
  | [], [], _, _ => rfl
  | [], _ :: _, h, _ => by cases h
  | _ :: _, [], _, h => by cases h
  | x :: xs, y :: ys, h, h' => by
    unfold ltR at h h'
    by_cases e : x = y
    · subst e
      rw [if_pos rfl] at h h'
      rw [ltR_total h h']
    · rw [if_neg e, decide_eq_false_iff_not] at h
      rw [if_neg (Ne.symm e), decide_eq_false_iff_not] at h'
      omega
def headsR : List Nat → List Nat → List Nat
  | x :: xs, y :: ys => if x = y then x :: headsR xs ys else []
  | _, _ => []
theorem headsR_symm : ∀ a b : List Nat, headsR a b = headsR b a
  | [], [] => rfl
  | [], _ :: _ => rfl
  | _ :: _, [] => rfl
  | x :: xs, y :: ys => by
    unfold headsR
    by_cases e : x = y
    · subst e; rw [if_pos rfl, if_pos rfl, headsR_symm]
    · rw [if_neg e, if_neg (Ne.symm e)]
theorem headsR_pre : ∀ {a b : List Nat}, headsR a b = a ↔ preB a b = true
  | [], [] => by simp [headsR, preB]
  | [], _ :: _ => by simp [headsR, preB]
  | _ :: _, [] => by simp [headsR, preB]
  | x :: xs, y :: ys => by
    unfold headsR preB
    by_cases e : x = y
    · subst e
      rw [if_pos rfl, Nat.beq_refl, Bool.true_and, ← headsR_pre (a := xs)]
      simp
    · have : Nat.beq x y = false := by
        cases h : Nat.beq x y with
        | false => rfl
        | true => exact absurd (Nat.eq_of_beq_eq_true h) e
      rw [if_neg e, this]; simp
theorem six_heads : ∀ {a b : List Nat}, Six a → Six (headsR a b)
  | [], [], _ => fun x h => by cases h
  | [], _ :: _, _ => fun x h => by cases h
  | _ :: _, [], _ => fun x h => by cases h
  | x :: xs, y :: ys, h => by
    unfold headsR
    split
    · intro z hz
      rcases List.mem_cons.mp hz with rfl | hz
      · exact h _ (.head _)
      · exact six_heads (fun w hw => h w (.tail _ hw)) z hz
    · intro z hz; cases hz
theorem six_tail {x : Nat} {l : List Nat} (h : Six (x :: l)) : x < 6 ∧ Six l := ⟨h x (.head _), fun y hy => h y (.tail _ hy)⟩
section
variable {κ r : Nat} (hκ : κ < 5) (hr : r < 12)
include hκ hr
theorem lt_nm : ∀ {a b : List Nat}, Six a → Six b → listLt (a.map (nm κ r)) (b.map (nm κ r)) = ltR a b
  | [], [], _, _ => rfl
  | [], _ :: _, _, _ => rfl
  | _ :: _, [], _, _ => rfl
  | x :: xs, y :: ys, ha, hb => by
    obtain ⟨hx, hxs⟩ := six_tail ha
    obtain ⟨hy, hys⟩ := six_tail hb
    rw [List.map_cons, List.map_cons]
    unfold listLt ltR
    by_cases e : x = y
    · subst e
      rw [if_pos (by simp), if_pos rfl, lt_nm hxs hys]
    · rw [if_neg (by simpa using fun h => e (nm_inj hκ hr hx hy h)), if_neg e, slt_nm hκ hr hx hy]
theorem heads_nm : ∀ {a b : List Nat}, Six a → Six b → heads (a.map (nm κ r)) (b.map (nm κ r)) = (headsR a b).map (nm κ r)
  | [], [], _, _ => rfl
  | [], _ :: _, _, _ => rfl
  | _ :: _, [], _, _ => rfl
  | x :: xs, y :: ys, ha, hb => by
    obtain ⟨hx, hxs⟩ := six_tail ha
    obtain ⟨hy, hys⟩ := six_tail hb
    rw [List.map_cons, List.map_cons]
    unfold heads headsR
    by_cases e : x = y
    · subst e
      rw [if_neg (by simp), if_pos rfl, heads_nm hxs hys]; rfl
    · rw [if_pos (by simpa using fun h => e (nm_inj hκ hr hx hy h)), if_neg e]; rfl
theorem common_nm {a b : List Nat} (ha : Six a) (hb : Six b) : common (a.map (nm κ r)) (b.map (nm κ r)) = (headsR a b).map (nm κ r) := by
  unfold common first2 last2 listGt
  rw [lt_nm hκ hr hb ha, lt_nm hκ hr ha hb]
  cases h1 : ltR b a with
  | true =>
    rw [ltR_asymm h1, if_pos rfl, if_neg (by decide), heads_nm hκ hr hb ha, headsR_symm]
  | false =>
    cases h2 : ltR a b with
    | true => rw [if_neg (by decide), if_pos rfl, heads_nm hκ hr ha hb]
    | false =>
      have e := ltR_total h2 h1
      subst e
      rw [if_neg (by decide), heads_nm hκ hr ha ha]
theorem commonP_nm {a b : List Nat} (ha : Six a) (hb : Six b) : commonP (pth κ r a) (pth κ r b) = pr κ r (headsR a b) := by
  unfold commonP
  rw [parts_nm hκ hr ha, parts_nm hκ hr hb, common_nm hκ hr ha hb, slash_join]
theorem apart_nm {a b : List Nat} (ha : Six a) (hb : Six b) (na : a ≠ []) (nb : b ≠ []) : apart1 (pth κ r a) (pth κ r b) = apR a b := by
  unfold apart1 apR
  congr 1
  rw [Bool.eq_iff_iff, memB_iff, commonP_nm hκ hr ha hb, Bool.or_eq_true, ← headsR_pre, ← headsR_pre, headsR_symm b a]
  simp only [List.mem_cons, List.mem_nil_iff, or_false]
  rw [pr_pth hκ hr (six_heads ha) ha na, pr_pth hκ hr (six_heads ha) hb nb]
/-! what is due -/
theorem sle_nm {i j : Nat} (hi : i < 6) (hj : j < 6) : sle (nm κ r i) (nm κ r j) = decide (i ≤ j) := by
  unfold sle
  rw [slt_nm hκ hr hj hi, Bool.eq_iff_iff]
  simp
theorem inside_nm {x y n : Nat} (hx : x < 6) (hy : y < 6) (hn : n < 6) : inside (nm κ r x) (nm κ r y) (nm κ r n) = decide (min x y ≤ n ∧ n ≤ max x y) := by
  unfold inside lo hi
  rw [sle_nm hκ hr hx hy]
  by_cases h : x ≤ y
  · rw [if_pos (decide_eq_true h), if_pos (decide_eq_true h), sle_nm hκ hr hx hn, sle_nm hκ hr hn hy, Nat.min_eq_left h, Nat.max_eq_right h]
    simp
  · rw [if_neg (by simpa using h), if_neg (by simpa using h), sle_nm hκ hr hy hn, sle_nm hκ hr hn hx, Nat.min_eq_right (by omega), Nat.max_eq_left (by omega)]
    simp
theorem betw_nm {x y : Nat} (hx : x < 6) (hy : y < 6) : ∀ {row : List Nat}, Six row → y ∈ row → (betw (row.map (nm κ r)) (nm κ r x) (nm κ r y)).headD default = nm κ r (fstR x y row) ∧ fstR x y row < 6
  | [], _, h => by cases h
  | n :: row, hs, h => by
    obtain ⟨hn, hs'⟩ := six_tail hs
    unfold betw
    rw [List.map_cons, List.filter_cons, inside_nm hκ hr hx hy hn]
    rw [fstR_eq]
    by_cases hi : min x y ≤ n ∧ n ≤ max x y
    · rw [if_pos (decide_eq_true hi), fstIn_hit hi]
      exact ⟨rfl, hn⟩
    · rw [if_neg (by simpa using hi), fstIn_miss hi, ← fstR_eq]
      refine betw_nm hx hy hs' ?_
      rcases List.mem_cons.mp h with rfl | h
      · exact absurd (by omega) hi
      · exact h
theorem dueOne_nm {x y : Nat} (hx : x < 6) (hy : y < 6) {row : List Nat} (hs : Six row) (h : y ∈ row) : dueOne (row.map (nm κ r)) (nm κ r x) (nm κ r y) = Nat.beq (fstR x y row) y := by
  obtain ⟨e, h6⟩ := betw_nm hκ hr hx hy hs h
  unfold dueOne
  rw [e, Bool.eq_iff_iff, beq_iff_eq]
  exact ⟨fun h => by rw [nm_inj hκ hr h6 hy h]; exact Nat.beq_refl y, fun h => by rw [Nat.eq_of_beq_eq_true h]⟩
theorem dueFold_nm {x : Nat} (hx : x < 6) {row : List Nat} (hs : Six row) : ∀ (l : List Nat), (∀ y ∈ l, y ∈ row) → ∀ p : List Nat, (l.map (nm κ r)).foldl (dueFold (row.map (nm κ r)) (nm κ r x)) (pth κ r p) = pth κ r (p ++ l.filter fun y => Nat.beq (fstR x y row) y)
  | [], _, p => by simp
  | y :: l, hl, p => by
    have hy := hl y (.head _)
    rw [List.map_cons, List.foldl_cons, List.filter_cons]
    unfold dueFold
    rw [dueOne_nm hκ hr hx (hs y hy) hs hy]
    cases Nat.beq (fstR x y row) y with
    | false => exact dueFold_nm hx hs l (fun z hz => hl z (.tail _ hz)) p
    | true =>
      rw [if_pos rfl, if_pos rfl, ← pth_snoc]
      have := dueFold_nm hx hs l (fun z hz => hl z (.tail _ hz)) (p ++ [y])
      rw [List.append_assoc] at this
      exact this
theorem duePath_nm {x : Nat} (hx : x < 6) {row : List Nat} (hs : Six row) : duePath (row.map (nm κ r)) (nm κ r x) = pth κ r (dueF row x) := by
  unfold duePath
  have e : Str.ofString "" = pth κ r [] := by rw [pth_glued]; rfl
  rw [e, dueFold_nm hκ hr hx hs row (fun _ h => h)]; rfl
theorem due_nm {row : List Nat} (hs : Six row) : due (row.map (nm κ r)) = sortS ((row.map (dueF row)).map (pth κ r)) := by
  unfold due
  rw [List.map_map, List.map_map]
  congr 1
  refine List.map_congr_left fun x hx => ?_
  exact duePath_nm hκ hr (hs x hx) hs
end
end Mine
namespace Mine
open Builtin Builtin.Str
/-! ### what is grown -/
def GoodKv (l : Kv) : Prop := ∀ kv ∈ l, Six kv.1 ∧ Six kv.2 ∧ kv.2 ≠ []
def enc (κ r : Nat) (kv : List Nat × List Nat) : Str × Str := (pr κ r kv.1, pth κ r kv.2)
theorem tri_at (T : Tri) {j i : Nat} (hj : j < 3) (hi : i < 3) (v : Kv) : (T.set j v).at i = if i = j then v else T.at i := by
  match j, hj, i, hi with
  | 0, _, 0, _ => rfl
  | 0, _, 1, _ => rfl
  | 0, _, 2, _ => rfl
  | 1, _, 0, _ => rfl
  | 1, _, 1, _ => rfl
  | 1, _, 2, _ => rfl
  | 2, _, 0, _ => rfl
  | 2, _, 1, _ => rfl
  | 2, _, 2, _ => rfl
theorem lookF_mem {k v : List Nat} : ∀ {l : Kv}, lookF k l = some v → ∃ kv ∈ l, kv.2 = v
  | (a, b) :: l, h => by
    unfold lookF at h
    cases e : eqR k a with
    | true => rw [e] at h; cases h; exact ⟨_, .head _, rfl⟩
    | false =>
      rw [e] at h
      obtain ⟨kv, hm, hv⟩ := lookF_mem (l := l) h
      exact ⟨kv, .tail _ hm, hv⟩
theorem cmpN_lt (x y : Nat) : cmpN x y < 3 := by
  unfold cmpN
  cases Nat.blt y x <;> cases Nat.blt x y <;> decide
theorem cmpN_eq (x y : Nat) : cmpR x y = (cmpN x y : Int) - 1 := by
  unfold cmpR cmpN b2i
  rcases Nat.lt_trichotomy x y with h | h | h
  · rw [show Nat.blt y x = false by cases e : Nat.blt y x with
      | false => rfl
      | true => rw [Nat.blt_eq] at e; omega, show Nat.blt x y = true from Nat.blt_eq.mpr h]
    rw [if_neg (by simp; omega), if_pos (by simpa using h)]; rfl
  · subst h
    rw [show Nat.blt x x = false by cases e : Nat.blt x x with
      | false => rfl
      | true => rw [Nat.blt_eq] at e; omega]
    rw [if_neg (by simp)]; rfl
  · rw [show Nat.blt y x = true from Nat.blt_eq.mpr h, if_pos (by simpa using h), if_neg (by simp; omega)]; rfl
section
variable {κ r : Nat} (hκ : κ < 5) (hr : r < 12)
include hκ hr
theorem pr_eqR {k a : List Nat} (hk : Six k) (ha : Six a) : decide (pr κ r k = pr κ r a) = eqR k a := by
  rw [Bool.eq_iff_iff, decide_eq_true_eq, eqR_iff]
  exact ⟨fun h => pr_inj hκ hr hk ha h, fun h => by rw [h]⟩
theorem lookup_nm {k : List Nat} (hk : Six k) : ∀ {l : Kv}, GoodKv l → (l.map (enc κ r)).lookup (pr κ r k) = (lookF k l).map (pth κ r)
  | [], _ => rfl
  | (a, b) :: l, h => by
    have h1 := h _ (.head _)
    rw [List.map_cons]
    show List.lookup _ ((pr κ r a, pth κ r b) :: _) = _
    rw [List.lookup_cons]
    unfold lookF
    have : (pr κ r k == pr κ r a) = eqR k a := pr_eqR hκ hr hk h1.1
    rw [this]
    cases eqR k a with
    | true => rfl
    | false => exact lookup_nm hk fun kv hkv => h kv (.tail _ hkv)
theorem any_nm {k : List Nat} (hk : Six k) : ∀ {l : Kv}, GoodKv l → ((l.map (enc κ r)).any fun kv => decide (kv.1 = pr κ r k)) = (lookF k l).isSome
  | [], _ => rfl
  | (a, b) :: l, h => by
    have h1 := h _ (.head _)
    rw [List.map_cons, List.any_cons]
    have : decide ((enc κ r (a, b)).1 = pr κ r k) = eqR k a := by
      rw [← pr_eqR hκ hr hk h1.1, decide_eq_decide]; exact eq_comm
    rw [this]
    unfold lookF
    cases eqR k a with
    | true => rfl
    | false =>
      rw [Bool.false_or]
      exact any_nm hk fun kv hkv => h kv (.tail _ hkv)
theorem put_nm {k v : List Nat} (hk : Six k) {l : Kv} (h : GoodKv l) : put (l.map (enc κ r)) (pr κ r k) (pth κ r v) = (putF l k v).map (enc κ r) := by
  unfold put putF
  rw [any_nm hκ hr hk h]
  cases lookF k l with
  | none => rw [if_neg (by decide), List.map_append]; rfl
  | some _ =>
    rw [if_pos (by rfl), List.map_map, List.map_map]
    refine List.map_congr_left fun kv hkv => ?_
    have h1 := h kv hkv
    show (if pr κ r kv.1 = pr κ r k then (pr κ r kv.1, pth κ r v) else enc κ r kv) = enc κ r (bif eqR kv.1 k then (kv.1, v) else kv)
    rw [← pr_eqR hκ hr h1.1 hk]
    by_cases e : pr κ r kv.1 = pr κ r k
    · rw [if_pos e, decide_eq_true e]; rfl
    · rw [if_neg e, decide_eq_false e]; rfl
end
theorem good_put {l : Kv} (h : GoodKv l) {k v : List Nat} (hk : Six k) (hv : Six v) (hn : v ≠ []) : GoodKv (putF l k v) := by
  unfold putF
  intro kv hkv
  cases e : lookF k l with
  | none =>
    rw [e] at hkv
    rcases List.mem_append.mp hkv with hkv | hkv
    · exact h kv hkv
    · rw [List.mem_singleton] at hkv; subst hkv; exact ⟨hk, hv, hn⟩
  | some _ =>
    rw [e] at hkv
    obtain ⟨kv', hm, rfl⟩ := List.mem_map.mp hkv
    cases eqR kv'.1 k with
    | true => exact ⟨(h kv' hm).1, hv, hn⟩
    | false => exact h kv' hm
structure Sim (κ r : Nat) (M : Sons) (T : Tri) : Prop where
  eq : ∀ j, j < 3 → M j = (T.at j).map (enc κ r)
  good : ∀ j, j < 3 → GoodKv (T.at j)
section
variable {κ r : Nat} (hκ : κ < 5) (hr : r < 12)
include hκ hr
theorem wrun_nm {M : Sons} {T : Tri} (h : Sim κ r M T) {x : Nat} (hx : x < 6) : ∀ n, wrun M (nm κ r x) n = (pr κ r (wrunF T x n).1, ((wrunF T x n).2 : Int) - 1) ∧ Six (wrunF T x n).1 ∧ (wrunF T x n).2 < 3
  | 0 => ⟨rfl, (show Six [] from fun y hy => nomatch hy), (show 1 < 3 by decide)⟩
  | n + 1 => by
    obtain ⟨e, h6, h3⟩ := wrun_nm h hx n
    unfold wrun wrunF
    rw [e]
    generalize wrunF T x n = w at h6 h3
    unfold wstep wstepF
    have ej : (((w.2 : Int) - 1) + 1).toNat = w.2 := by omega
    dsimp only
    rw [ej, h.eq _ h3, lookup_nm hκ hr h6 (h.good _ h3)]
    cases el : lookF w.1 (T.at w.2) with
    | none => exact ⟨rfl, h6, h3⟩
    | some p =>
      obtain ⟨kv, hm, rfl⟩ := lookF_mem el
      obtain ⟨_, hp, hne⟩ := h.good _ h3 kv hm
      rcases List.eq_nil_or_concat kv.2 with e' | ⟨q, y, e'⟩
      · exact absurd e' hne
      · rw [List.concat_eq_append] at e'
        have hy : y < 6 := hp y (by rw [e']; simp)
        refine ⟨?_, hp, cmpN_lt _ _⟩
        show (pth κ r kv.2, cmp3 (nm κ r x) (baseP (pth κ r kv.2))) = (pr κ r kv.2, ((cmpN x (kv.2.getLastD 0) : Nat) : Int) - 1)
        rw [e', base_nm hκ hr q hy, cmp_nm hκ hr hx hy, cmpN_eq]
        have : pr κ r (q ++ [y]) = pth κ r (q ++ [y]) := if_neg (by simp)
        rw [this]
        simp
theorem gstep_nm {M : Sons} {T : Tri} (h : Sim κ r M T) {P : List (List Nat)} {x : Nat} (hx : x < 6) :
    (gstep (M, P.map (pth κ r)) (nm κ r x)).2 = (gstepF (T, P) x).2.map (pth κ r) ∧ Sim κ r (gstep (M, P.map (pth κ r)) (nm κ r x)).1 (gstepF (T, P) x).1 := by
  obtain ⟨e, h6, h3⟩ := wrun_nm hκ hr h hx P.length
  have hl : (P.map (pth κ r)).length = P.length := List.length_map ..
  have hg : gplace (M, P.map (pth κ r)) (nm κ r x) = pth κ r ((wrunF T x P.length).1 ++ [x]) := by
    unfold gplace
    dsimp only
    rw [hl, e]
    exact join_nm hκ hr h6 hx
  have hv : Six ((wrunF T x P.length).1 ++ [x]) := fun y hy => by
    rcases List.mem_append.mp hy with hy | hy
    · exact h6 y hy
    · rw [List.mem_singleton] at hy; subst hy; exact hx
  unfold gstep gstepF
  dsimp only
  rw [hg]
  refine ⟨by rw [List.map_append]; rfl, fun j hj => ?_, fun j hj => ?_⟩
  · unfold gsons
    dsimp only
    rw [hl, e, hg]
    have ej : ((((wrunF T x P.length).2 : Int) - 1) + 1).toNat = (wrunF T x P.length).2 := by omega
    dsimp only
    rw [ej, tri_at T h3 hj]
    by_cases hjj : j = (wrunF T x P.length).2
    · rw [if_pos hjj, if_pos hjj, h.eq j hj, ← hjj]
      exact put_nm hκ hr h6 (h.good j hj)
    · rw [if_neg hjj, if_neg hjj, h.eq j hj]
  · rw [tri_at T h3 hj]
    split
    · exact good_put (h.good _ h3) h6 hv (by simp)
    · exact h.good j hj
theorem fold_nm : ∀ {o : List Nat}, Six o → ∀ {M : Sons} {T : Tri} (_ : Sim κ r M T) (P : List (List Nat)), ((o.map (nm κ r)).foldl gstep (M, P.map (pth κ r))).2 = (o.foldl gstepF (T, P)).2.map (pth κ r)
  | [], _, _, _, _, _ => rfl
  | x :: o, h, M, T, hS, P => by
    obtain ⟨hx, ho⟩ := six_tail h
    rw [List.map_cons, List.foldl_cons, List.foldl_cons]
    obtain ⟨e1, e2⟩ := gstep_nm hκ hr hS (P := P) hx
    have e3 : gstep (M, P.map (pth κ r)) (nm κ r x) = ((gstep (M, P.map (pth κ r)) (nm κ r x)).1, (gstepF (T, P) x).2.map (pth κ r)) := by rw [← e1]
    rw [e3]
    exact fold_nm ho e2 _
theorem grown_nm {o : List Nat} (h : Six o) : grown (o.map (nm κ r)) = sortS ((grownF o).map (pth κ r)) := by
  unfold grown grownF
  congr 1
  refine fold_nm hκ hr h (M := fun _ => []) (T := ⟨[], [], []⟩) ⟨fun j hj => ?_, fun j hj => ?_⟩ []
  · match j, hj with
    | 0, _ => rfl
    | 1, _ => rfl
    | 2, _ => rfl
  · match j, hj with
    | 0, _ => intro kv hkv; cases hkv
    | 1, _ => intro kv hkv; cases hkv
    | 2, _ => intro kv hkv; cases hkv
end
end Mine
namespace Mine
open Builtin Builtin.Str
theorem chk_at {s : List Nat} (h : Pm s) : grownF s = s.map (dueF s) ∧ ((reachP s).filter (baxGo [])).length = 1 ∧ apGo s [] s = true ∧ s ∈ linS s ∧ ∀ t ∈ linS s, t ∈ reachP s := by
  have := chk_pm h
  unfold chk at this
  simp only [Bool.and_eq_true, List.all_eq_true] at this
  obtain ⟨a, b, c, d, e⟩ := this
  exact ⟨eqLL_iff.mp a, Nat.eq_of_beq_eq_true b, c, memL_iff.mp d, fun t ht => memL_iff.mp (e t ht)⟩
theorem hap : HAp := fun _ h => (chk_at h).2.2.1
theorem Pm.six {s : List Nat} (h : Pm s) : Six s := fun _ hx => h.mem.mp hx
theorem six_due {s : List Nat} (h : Pm s) (x : Nat) : Six (dueF s x) := fun y hy => h.six y (List.mem_filter.mp hy).1
theorem reach_iff {s t : List Nat} (hs : Pm s) (ht : Pm t) : t ∈ reachP s ↔ (∀ x, x < 6 → dueF t x = dueF s x) ∧ ∀ x, x < 6 → dueF t.reverse x = dueF s.reverse x := by
  constructor
  · intro h
    have := (reach_fast hap hs).2 t h
    exact ⟨fun x _ => this.d x, fun x _ => this.r x⟩
  · rintro ⟨hd, hr⟩
    refine (chk_at hs).2.2.2.2 t ?_
    rw [← lin_inv hs ht hd hr]
    exact (chk_at ht).2.2.2.1
theorem preB_refl : ∀ p : List Nat, preB p p = true
  | [] => rfl
  | x :: p => by unfold preB; rw [Nat.beq_refl, preB_refl p]; rfl
section
variable {κ r : Nat} (hκ : κ < 5) (hr : r < 12)
include hκ hr
def treeS (κ r : Nat) (s : List Nat) : List Str := sortS ((s.map (dueF s)).map (pth κ r))
omit hκ hr in
theorem treeS_mem {s : List Nat} (h : Pm s) {p : Str} : p ∈ treeS κ r s ↔ ∃ u, u < 6 ∧ p = pth κ r (dueF s u) := by
  unfold treeS
  rw [(sortS_perm _).mem_iff, List.map_map, List.mem_map]
  constructor
  · rintro ⟨u, hu, e⟩; exact ⟨u, h.mem.mp hu, e.symm⟩
  · rintro ⟨u, hu, e⟩; exact ⟨u, h.mem.mpr hu, e.symm⟩
omit hκ hr in
theorem treeS_len {s : List Nat} (h : Pm s) : (treeS κ r s).length = 6 := by
  unfold treeS
  rw [(sortS_perm _).length_eq, List.length_map, List.length_map, h.len]
theorem grown_tree {s : List Nat} (h : Pm s) : grown (s.map (nm κ r)) = treeS κ r s := by
  rw [grown_nm hκ hr h.six, (chk_at h).1]; rfl
theorem due_tree {s : List Nat} (h : Pm s) : due (s.map (nm κ r)) = treeS κ r s := due_nm hκ hr h.six
theorem base_due {s : List Nat} (h : Pm s) {u : Nat} (hu : u < 6) : baseP (pth κ r (dueF s u)) = nm κ r u := by
  obtain ⟨p, e, _⟩ := dueF_last h hu
  rw [e, base_nm hκ hr p hu]
omit hκ hr in
theorem due_ne {s : List Nat} (h : Pm s) {u : Nat} (hu : u < 6) : dueF s u ≠ [] := by
  obtain ⟨p, e, _⟩ := dueF_last h hu
  rw [e]; simp
theorem apart_due {s : List Nat} (h : Pm s) {u v : Nat} (hu : u < 6) (hv : v < 6) : apart1 (pth κ r (dueF s u)) (pth κ r (dueF s v)) = apf s u v :=
  apart_nm hκ hr (six_due h u) (six_due h v) (due_ne h hu) (due_ne h hv)
omit hκ hr in
theorem mem_apartOf {x y : Str} {q : List Str} : q ∈ apartOf x y ↔ apart1 x y = true ∧ (q = [baseP x, baseP y] ∨ q = [baseP y, baseP x]) := by
  unfold apartOf
  cases h : apart1 x y with
  | true => simp
  | false => simp
omit hκ hr in
theorem at_mem {P : List Str} {k : Nat} (h : k < P.length) : at' P k ∈ P := by
  unfold at'
  rw [List.getD_eq_getElem?_getD, List.getElem?_eq_getElem h]; exact List.getElem_mem h
omit hκ hr in
theorem at_of_mem {P : List Str} {p : Str} (h : p ∈ P) : ∃ k, k < P.length ∧ at' P k = p := by
  obtain ⟨k, hk, e⟩ := List.mem_iff_getElem.mp h
  refine ⟨k, hk, ?_⟩
  unfold at'
  rw [List.getD_eq_getElem?_getD, List.getElem?_eq_getElem hk]; exact e
omit hκ hr in
theorem mem_apart {P : List Str} {q : List Str} : q ∈ apart P ↔ ∃ k, k < 6 ∧ ∃ m, m < k ∧ q ∈ apartOf (at' P k) (at' P m) := by
  unfold apart apartAt apartIn
  simp only [List.mem_flatMap, List.mem_range]
theorem apart_apf {s : List Nat} (h : Pm s) (a b : Nat) (ha : a < 6) (hb : b < 6) : memB [nm κ r a, nm κ r b] (apart (grown (s.map (nm κ r)))) = apf s a b := by
  rw [grown_tree hκ hr h, Bool.eq_iff_iff, memB_iff, mem_apart]
  have hl : (treeS κ r s).length = 6 := treeS_len h
  constructor
  · rintro ⟨k, hk, m, hm, hq⟩
    rw [mem_apartOf] at hq
    obtain ⟨u, hu, eu⟩ := (treeS_mem h).mp (at_mem (P := treeS κ r s) (k := k) (by omega))
    obtain ⟨v, hv, ev⟩ := (treeS_mem h).mp (at_mem (P := treeS κ r s) (k := m) (by omega))
    rw [eu, ev, apart_due hκ hr h hu hv, base_due hκ hr h hu, base_due hκ hr h hv] at hq
    obtain ⟨h1, h2 | h2⟩ := hq
    · injection h2 with e1 e2
      injection e2 with e2 _
      rw [nm_inj hκ hr ha hu e1, nm_inj hκ hr hb hv e2]; exact h1
    · injection h2 with e1 e2
      injection e2 with e2 _
      rw [nm_inj hκ hr ha hv e1, nm_inj hκ hr hb hu e2, apf_symm]; exact h1
  · intro hap
    obtain ⟨k, hk, ek⟩ := at_of_mem ((treeS_mem (κ := κ) (r := r) h).mpr ⟨a, ha, rfl⟩)
    obtain ⟨m, hm, em⟩ := at_of_mem ((treeS_mem (κ := κ) (r := r) h).mpr ⟨b, hb, rfl⟩)
    rcases Nat.lt_trichotomy k m with hkm | hkm | hkm
    · refine ⟨m, by omega, k, hkm, ?_⟩
      rw [mem_apartOf, ek, em, apart_due hκ hr h hb ha, base_due hκ hr h ha, base_due hκ hr h hb, apf_symm]
      exact ⟨hap, .inr rfl⟩
    · exfalso
      subst hkm
      have e := pth_inj hκ hr (six_due h a) (six_due h b) (ek.symm.trans em)
      unfold apf apR at hap
      rw [e, preB_refl] at hap
      cases hap
    · refine ⟨k, by omega, m, hkm, ?_⟩
      rw [mem_apartOf, ek, em, apart_due hκ hr h ha hb, base_due hκ hr h ha, base_due hκ hr h hb]
      exact ⟨hap, .inl rfl⟩
theorem tree_iff {s t : List Nat} (hs : Pm s) (ht : Pm t) : treeS κ r t = treeS κ r s ↔ ∀ x, x < 6 → dueF t x = dueF s x := by
  constructor
  · intro e x hx
    have hm : pth κ r (dueF t x) ∈ treeS κ r s := by rw [← e]; exact (treeS_mem ht).mpr ⟨x, hx, rfl⟩
    obtain ⟨u, hu, eu⟩ := (treeS_mem hs).mp hm
    have e' := pth_inj hκ hr (six_due ht x) (six_due hs u) eu
    obtain ⟨p, e1, _⟩ := dueF_last ht hx
    obtain ⟨q, e2, _⟩ := dueF_last hs hu
    have : x = u := by
      rw [e1, e2] at e'
      exact (List.append_inj' e' rfl).2 |> fun h => by injection h
    rw [e', this]
  · intro hd
    unfold treeS
    refine sortS_congr (List.Perm.map _ ?_)
    have : t.map (dueF t) = t.map (dueF s) := List.map_congr_left fun x hx => hd x (ht.mem.mp hx)
    rw [this]
    exact (ht.trans hs.symm).map _
theorem law_true {s t : List Nat} (hs : Pm s) (ht : Pm t) : lawB (s.map (nm κ r)) (t.map (nm κ r)) (s.map (nm κ r)) = true := by
  have er : ∀ u : List Nat, (u.map (nm κ r)).reverse = u.reverse.map (nm κ r) := fun u => List.map_reverse.symm
  have hR := reached_nm hκ hr (ap := apart (grown (s.map (nm κ r)))) (ot := apart (grown (s.map (nm κ r)).reverse)) (apf := apf s) (otf := apf s.reverse) (apart_apf hκ hr hs) (by rw [er]; exact apart_apf hκ hr hs.rev) (o := s) ⟨hs.six, hs.len⟩
  obtain ⟨hR1, _⟩ := hR
  obtain ⟨hF1, hF2⟩ := reach_fast hap hs
  rw [hF1] at hR1
  unfold lawB
  rw [hR1]
  have c1 : [grown (s.map (nm κ r)), grown (s.map (nm κ r)).reverse] = [due (s.map (nm κ r)), due (s.map (nm κ r)).reverse] := by
    rw [er, grown_tree hκ hr hs, grown_tree hκ hr hs.rev, due_tree hκ hr hs, due_tree hκ hr hs.rev]
  rw [if_neg (by rw [decide_eq_true c1]; decide)]
  have c2 : (((reachP s).map (List.map (nm κ r))).filter baxter).length = 1 := by
    rw [List.filter_map, List.length_map]
    have : (reachP s).filter (baxter ∘ List.map (nm κ r)) = (reachP s).filter (baxGo []) := by
      refine List.filter_congr fun o ho => ?_
      have hp := (hF2 o ho).pm
      show baxter (o.map (nm κ r)) = _
      rw [baxter_nm hκ hr hp.six hp.len, baxter_fast hp.len hp.nodup]
    rw [this]
    exact (chk_at hs).2.1
  rw [if_neg (by rw [c2]; decide)]
  rw [mem_nm hκ hr ht.six (fun x hx => (hF2 x hx).pm.six), er, er, grown_tree hκ hr hs, grown_tree hκ hr hs.rev, grown_tree hκ hr ht, grown_tree hκ hr ht.rev]
  rw [beq_iff_eq, Bool.eq_iff_iff, memB_iff, decide_eq_true_eq, reach_iff hs ht, ← tree_iff hκ hr hs ht, ← tree_iff hκ hr hs.rev ht.rev]
  constructor
  · rintro ⟨h1, h2⟩; rw [h1, h2]
  · intro h
    injection h with h1 h2
    injection h2 with h2 _
    exact ⟨h1, h2⟩
end
end Mine
namespace Mine
/-! ### the law, whatever is drawn -/
theorem order_ranks {κ r : Nat} (h5 : κ < 5) (hr : r < 12) {O : List Str} (p : O.Perm (win r)) : ∃ σ : List Nat, Pm σ ∧ O.map (escK κ) = σ.map (nm κ r) := by
  obtain ⟨σ, h1, h2⟩ := perm_idx ((p.map (escK κ)).trans (names_perm κ r).symm)
  rw [(names_at h5 hr).2.2] at h1
  exact ⟨σ, h1.trans (by decide), h2⟩
theorem short_ranks {κ r : Nat} (h5 : κ < 5) (hr : r < 12) {σ : List Nat} (h : Pm σ) : Short (σ.map (nm κ r)) := by
  refine ⟨by rw [List.length_map, h.len]; exact Nat.le_refl 6, fun x hx => ?_⟩
  obtain ⟨i, hi, rfl⟩ := List.mem_map.mp hx
  exact (nm_ok h5 hr (h.six i hi)).2.2.2
theorem pc_len {κ r : Nat} (h5 : κ < 5) (hr : r < 12) : ∀ {l : List Nat}, Six l → (pc κ r l).length ≤ 101 * l.length
  | [], _ => by simp [pc]
  | x :: l, h => by
    obtain ⟨hx, hl⟩ := six_tail h
    have := (nm_ok h5 hr hx).2.2.2
    rw [str_len] at this
    have ih := pc_len h5 hr hl
    rw [pc_cons, List.length_cons, List.length_append, List.length_cons]
    omega
theorem tree_ok {κ r : Nat} (h5 : κ < 5) (hr : r < 12) {σ : List Nat} (h : Pm σ) : (grown (σ.map (nm κ r))).length = 6 ∧ (∀ x ∈ grown (σ.map (nm κ r)), x.length ≤ 900) ∧ (∀ x ∈ grown (σ.map (nm κ r)), Txt.startswith x slash = true) := by
  rw [grown_tree h5 hr h]
  refine ⟨treeS_len h, fun x hx => ?_, fun x hx => ?_⟩
  · obtain ⟨u, hu, rfl⟩ := (treeS_mem h).mp hx
    rw [str_len, pth_list]
    have h1 := pc_len h5 hr (six_due h u)
    have h2 : (dueF σ u).length ≤ σ.length := List.length_filter_le _ _
    rw [h.len] at h2
    omega
  · obtain ⟨u, hu, rfl⟩ := (treeS_mem h).mp hx
    rw [starts_iff, pth_list]
    cases e : dueF σ u with
    | nil => exact absurd e (due_ne h hu)
    | cons y l => rw [pc_cons]; rfl
theorem fn_true (w : World) (ns : List Int) (hz : ns.length ≤ 63) : Fn w 8 (.ref 234) [TInts ns] (TBool true) := by
  have hm := fmod_bounds (cellAt ns 0) (n := 5) (by decide)
  obtain ⟨κ, hκ⟩ : ∃ κ : Nat, (cellAt ns 0).fmod 5 = (κ : Int) := ⟨((cellAt ns 0).fmod 5).toNat, by omega⟩
  have h5 : κ < 5 := by omega
  obtain ⟨r, hr, ht⟩ := texts_win (cellAt ns 0)
  have p0 := orderAt_perm ns 0
  have p1 := orderAt_perm ns 1
  have hp : ∀ i, ∀ x ∈ orderAt ns i, told κ x = escK κ x ∧ escKOk κ x = true ∧ toldOk κ x = true ∧ (escK κ x).length ≤ 100 := fun i x hx => pool_at h5 (texts_mem ((orderAt_perm ns i).mem_iff.mp hx))
  rw [ht] at p0 p1
  obtain ⟨σ, hσ, e0⟩ := order_ranks h5 hr p0
  obtain ⟨τ, hτ, e1⟩ := order_ranks h5 hr p1
  have et : (orderAt ns 0).map (told κ) = σ.map (nm κ r) := by
    rw [← e0]
    exact List.map_congr_left fun x hx => (hp 0 x hx).1
  have hl : (win r).length = 6 := by unfold win; rw [List.length_map, List.length_range]
  have := fn_law w 0 ns κ (orderAt ns 0) (orderAt ns 1) hz hκ h5 rfl rfl (p0.length_eq.trans hl) (p1.length_eq.trans hl) (fun x hx => (hp 0 x hx).2.1) (fun x hx => (hp 1 x hx).2.1) (fun x hx => (hp 0 x hx).2.2.1)
    (by rw [e0]; exact short_ranks h5 hr hσ) (by rw [e1]; exact short_ranks h5 hr hτ) (by rw [et]; exact short_ranks h5 hr hσ) (fun o ho => by
      rw [e0] at ho
      rcases ho with rfl | rfl
      · exact tree_ok h5 hr hσ
      · rw [← List.map_reverse]; exact tree_ok h5 hr hσ.rev)
  rw [e0, e1, et, law_true h5 hr hσ hτ] at this
  exact this
theorem ints_all {h : Heap} : ∀ {vs : List Value} {ns : List Int}, IntsAre vs ns → AllH h vs (ns.map TInt)
  | _, _, .nil => .nil
  | _, _, .cons _ _ r => .cons ⟨_, rfl⟩ (ints_all r)
theorem room8 : Room 8 callerA := ⟨rfl, by decide, by decide⟩
theorem law_at (w : World) : nsIn (hd.heap_39 w.params) mainGlobals (Str.ofString "law") = some (some (.ref 234)) := by rfl
end Mine
theorem PySem.Challenge.cw_rt0057_01_holds : PySem.Challenge.rw_rt0057_01.Holds := by
  refine Mine.hd ?_
  k_fill
  intro w s₀ s₁ mg mb G Y fa o pm cd doc dV kV ho hdd hcd hD hmg hg args vals as hpre hlay hrd hwl hlo
  have KX := kIn_of Y
  refine Ground.open G ?_
  intro T B D TE TW
  clear D G
  wrow_args hpre hlay hrd hwl hlo
  rename_i ns hs hl0 hL1 hr1 hl2 as1 as2 a vs as3 hL ra wl r0 hI hr2 hc1 hc2
  have hfa : fa = 234 := by
    have e := mg_of KX T.g (Mine.law_at w)
    have e2 := hmg.symm.trans e
    injection e2 with e2
    injection e2
  subst hfa
  have hz : ns.length ≤ 63 := by omega
  have F := (Mine.fn_true w ns hz).go callerA s₁ [.ref a] [] Mine.room8 ⟨KX, mg, mb, topRead_of T⟩ (Nat.zero_le _) (fun _ h => nomatch h) (.cons ⟨a, vs.toArray, rfl, hL, Mine.ints_all hI⟩ .nil)
  refine wpAny_mono F (fun v s' hv => ?_) (fun _ _ x => x.elim)
  obtain ⟨⟨⟨h', t', rfl, hk⟩, _⟩, hv⟩ := hv
  cases hv
  exact ⟨.inl ⟨_, _, [], rfl, fun _ => rfl, ReadsW.bool true, by first | rfl | wrow_post, fun _ => ⟨List.nodup_nil, fun _ hm => nomatch hm⟩⟩, .of_keep hk, rfl, .of_eq hg⟩
