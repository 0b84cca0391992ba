import PyProof.Rows.All
import Wide.All
import OpenK.AllK
import Wide.FinOn
import PySem.Challenge.RW_gj0002_02
set_option Elab.async false
set_option maxRecDepth 100000
namespace Mine
open PySem PySem.Calls PyProof.Rows PySem.W

abbrev Vw := Addr → Option Obj
def Vle (w w' : Vw) : Prop := ∀ b o, w b = some o → w' b = some o
theorem Vle.refl (w : Vw) : Vle w w := fun _ _ e => e
theorem Vle.trans {w w' w'' : Vw} (x : Vle w w') (y : Vle w' w'') : Vle w w'' := fun b o e => y b o (x b o e)

inductive D where
  | none
  | bool (b : Bool)
  | int (i : Int)
  | tup (l : List D)
  | lst (l : List D)
  | dct (l : List (Int × Int))
  | tc (C : Addr) (l : D)
  | ptr (a : Addr)

inductive KV : List (Int × Value) → List (Int × Int) → Prop
  | nil : KV [] []
  | cons {k v t r r'} : KV r r' → KV ((k, .int v t) :: r) ((k, v) :: r')

mutual
inductive RV (prog : Program) (wd : World) (w : Vw) : Value → D → Prop
  | none : RV prog wd w .none .none
  | bool (b) : RV prog wd w (.bool b) (.bool b)
  | int (i t) : RV prog wd w (.int i t) (.int i)
  | tup {a vs n ds} : w a = some ({ cls := .type "tuple", data := .seq vs n } : Obj) → RVs prog wd w vs.toList ds → RV prog wd w (.ref a) (.tup ds)
  | lst {a vs n ds} : w a = some ({ cls := .type "list", data := .seq vs n } : Obj) → RVs prog wd w vs.toList ds → RV prog wd w (.ref a) (.lst ds)
  | dct {a o kvs l} : w a = some o → (a == sysModules) = false → o.IsDictOf (intKind prog wd) kvs → KV kvs l → RV prog wd w (.ref a) (.dct l)
  | tc {x dx C h t v d n} : w x = some (instObj C dx) → w dx = some (dictOf [⟨h, .str "comp_select_list" t, v⟩] n) → RV prog wd w v d → RV prog wd w (.ref x) (.tc C d)
  | ptr (a) : RV prog wd w (.ref a) (.ptr a)
inductive RVs (prog : Program) (wd : World) (w : Vw) : List Value → List D → Prop
  | nil : RVs prog wd w [] []
  | cons {v vs d ds} : RV prog wd w v d → RVs prog wd w vs ds → RVs prog wd w (v :: vs) (d :: ds)
end

section
variable {prog : Program} {wd : World}
mutual
theorem RV.mono {w w' : Vw} (hs : Vle w w') : ∀ {v : Value} {d : D}, RV prog wd w v d → RV prog wd w' v d
  | _, _, .none => .none
  | _, _, .bool b => .bool b
  | _, _, .int i t => .int i t
  | _, _, .tup a r => .tup (hs _ _ a) (RVs.mono hs r)
  | _, _, .lst a r => .lst (hs _ _ a) (RVs.mono hs r)
  | _, _, .dct a b c d => .dct (hs _ _ a) b c d
  | _, _, .tc a b r => .tc (hs _ _ a) (hs _ _ b) (RV.mono hs r)
  | _, _, .ptr a => .ptr a
theorem RVs.mono {w w' : Vw} (hs : Vle w w') : ∀ {v : List Value} {d : List D}, RVs prog wd w v d → RVs prog wd w' v d
  | _, _, .nil => .nil
  | _, _, .cons h r => .cons (RV.mono hs h) (RVs.mono hs r)
end
theorem RVs.length {w : Vw} {vs : List Value} {ds : List D} (h : RVs prog wd w vs ds) : vs.length = ds.length := by
  induction vs generalizing ds with
  | nil => cases h; rfl
  | cons v vs ih => cases h with | cons _ r => simp [ih r]
theorem RVs.append {w : Vw} {vs us : List Value} {ds es : List D} (h : RVs prog wd w vs ds) (k : RVs prog wd w us es) : RVs prog wd w (vs ++ us) (ds ++ es) := by
  induction vs generalizing ds with
  | nil => cases h; exact k
  | cons v vs ih => cases h with | cons h r => exact .cons h (ih r)
theorem RVs.get {w : Vw} {vs : List Value} {ds : List D} (h : RVs prog wd w vs ds) {k : Nat} {v : Value} (hk : vs[k]? = some v) : ∃ d, ds[k]? = some d ∧ RV prog wd w v d := by
  induction vs generalizing ds k with
  | nil => simp at hk
  | cons u vs ih =>
    cases h with
    | cons h r =>
      cases k with
      | zero => simp at hk; subst hk; exact ⟨_, rfl, h⟩
      | succ k => simpa using ih r (by simpa using hk)
theorem RVs.getD {w : Vw} {vs : List Value} {ds : List D} (h : RVs prog wd w vs ds) {k : Nat} {d : D} (hk : ds[k]? = some d) : ∃ v, vs[k]? = some v ∧ RV prog wd w v d := by
  induction vs generalizing ds k with
  | nil => cases h; simp at hk
  | cons u vs ih =>
    cases h with
    | cons h r =>
      cases k with
      | zero => simp at hk; subst hk; exact ⟨_, rfl, h⟩
      | succ k => simpa using ih r (by simpa using hk)

/-- the state is in order, w a part of its heap -/
structure Ok (H0 : Heap) (w : Vw) (s : Shared) : Prop where
  base : ∀ b o, H0.get? b = some o → s.heap.get? b = some o
  part : ∀ b o, w b = some o → s.heap.get? b = some o

structure Stp (w : Vw) (s : Shared) (w' : Vw) (s' : Shared) : Prop where
  mono : Vle w w'
  part : ∀ b o, w' b = some o → s'.heap.get? b = some o
  fresh : ∀ b o, w' b = some o → w b = some o ∨ s.heap.get? b = none
  keep : ∀ b o, s.heap.get? b = some o → s'.heap.get? b = some o
  os : s'.os = s.os
  gens : s'.gens = s.gens

theorem Stp.refl {H0 : Heap} {w : Vw} {s : Shared} (h : Ok H0 w s) : Stp w s w s := ⟨.refl w, h.part, fun _ _ e => .inl e, fun _ _ e => e, rfl, rfl⟩
theorem Stp.trans {w w' w'' : Vw} {s s' s'' : Shared} (x : Stp w s w' s') (y : Stp w' s' w'' s'') : Stp w s w'' s'' where
  mono := x.mono.trans y.mono
  part := y.part
  fresh := fun b o e => by
    rcases y.fresh b o e with h | h
    · exact x.fresh b o h
    · refine .inr ?_
      cases q : s.heap.get? b with
      | none => rfl
      | some o' => rw [x.keep b o' q] at h; cases h
  keep := fun b o e => y.keep b o (x.keep b o e)
  os := y.os.trans x.os
  gens := y.gens.trans x.gens
theorem Stp.ok {H0 : Heap} {w w' : Vw} {s s' : Shared} (x : Stp w s w' s') (h : Ok H0 w s) : Ok H0 w' s' := ⟨fun b o e => x.keep b o (h.base b o e), x.part⟩
/-- a step that makes nothing visible -/
theorem Stp.quiet {H0 : Heap} {w : Vw} {s s' : Shared} (h : Ok H0 w s) (k : ∀ b o, s.heap.get? b = some o → s'.heap.get? b = some o) (ho : s'.os = s.os) (hg : s'.gens = s.gens) : Stp w s w s' :=
  ⟨.refl w, fun b o e => k b o (h.part b o e), fun _ _ e => .inl e, k, ho, hg⟩

/-- a step that makes one object -/
def Vw.put (w : Vw) (a : Addr) (o : Obj) : Vw := fun b => if b = a then some o else w b
theorem Vw.put_self (w : Vw) (a : Addr) (o : Obj) : w.put a o a = some o := by simp [Vw.put]
theorem Vw.le_put {w : Vw} {a : Addr} {o : Obj} (h : w a = none) : Vle w (w.put a o) := fun b o' e => by
  unfold Vw.put
  by_cases hb : b = a
  · subst hb; rw [h] at e; cases e
  · rw [if_neg hb]; exact e
theorem Stp.put {H0 : Heap} {w : Vw} {s s' : Shared} {a : Addr} {o : Obj} (h : Ok H0 w s) (hn : s.heap.get? a = none) (ha : s'.heap.get? a = some o) (k : ∀ b o, s.heap.get? b = some o → s'.heap.get? b = some o) (ho : s'.os = s.os) (hg : s'.gens = s.gens) :
    Stp w s (w.put a o) s' := by
  have hw : w a = none := by
    cases q : w a with
    | none => rfl
    | some o' => rw [h.part a o' q] at hn; cases hn
  refine ⟨Vw.le_put hw, fun b o' e => ?_, fun b o' e => ?_, k, ho, hg⟩
  · unfold Vw.put at e
    by_cases hb : b = a
    · subst hb; rw [if_pos rfl] at e; cases e; exact ha
    · rw [if_neg hb] at e; exact k _ _ (h.part _ _ e)
  · unfold Vw.put at e
    by_cases hb : b = a
    · subst hb; exact .inr hn
    · rw [if_neg hb] at e; exact .inl e
theorem fresh_size (h : Heap) : h.get? h.objs.size = none := by
  cases q : h.get? h.objs.size with
  | none => rfl
  | some o => exact absurd (Heap.lt_size q) (Nat.lt_irrefl _)

/-- where a name's value is found -/
def Look (env : Env) (h : Heap) (x : Str) (v : Value) : Prop :=
  (env.kindOf x = some .local ∧ ∃ m, h.Ns env.locals m ∧ m x = some v) ∨
  ((env.kindOf x = some .cell ∨ env.kindOf x = some .free) ∧ ∃ c, env.cells.lookup x = some c ∧ h.IsCell c (some v))
theorem Look.keeps {env : Env} {h h' : Heap} {x : Str} {v : Value} (L : Look env h x v) (k : ∀ b o, h.get? b = some o → h'.get? b = some o) : Look env h' x v := by
  rcases L with ⟨a, m, b, c⟩ | ⟨a, c, b, d⟩
  · exact .inl ⟨a, m, b.keeps k, c⟩
  · exact .inr ⟨a, c, b, d.keeps k⟩
theorem wpAny_look {M : Model} {A : Around} {env : Env} {x : Str} {v : Value} {s : Shared} {Q : Value → Shared → Prop} {E : Value → Shared → Prop} (L : Look env s.heap x v) (hk : env.scope.kind = .function)
    (hn : (x == ("__classdict__" : Str)) = false) (h : Q v s) : wpAny M A (loadName env x) Q E s := by
  rcases L with ⟨a, m, b, c⟩ | ⟨a | a, c, b, d⟩
  · exact wpAny_loadName_local hk a b c h
  · exact wpAny_loadName_cell hk a b d h
  · exact wpAny_loadName_free hk a b d h hn

abbrev Loc := Str → Option D
def View (prog : Program) (wd : World) (env : Env) (loc : Loc) (w : Vw) (h : Heap) : Prop :=
  ∀ x d, loc x = some d → ∃ v, Look env h x v ∧ RV prog wd w v d
theorem View.step {env : Env} {loc : Loc} {w w' : Vw} {s s' : Shared} (V : View prog wd env loc w s.heap) (x : Stp w s w' s') : View prog wd env loc w' s'.heap := fun y d e =>
  let ⟨v, a, b⟩ := V y d e; ⟨v, a.keeps x.keep, b.mono x.mono⟩

abbrev NoE : Value → Shared → Prop := fun _ _ => False

/-- the expression gives d -/
def PE (prog : Program) (wd : World) (H0 : Heap) (A : Around) (env : Env) (loc : Loc) (e : Expr) (d : D) : Prop :=
  ∀ (w : Vw) (s : Shared), Ok H0 w s → View prog wd env loc w s.heap →
    wpAny (model prog wd) A (eval e env) (fun v s' => ∃ w', Stp w s w' s' ∧ RV prog wd w' v d) NoE s
/-- a test gives b -/
def PT (prog : Program) (wd : World) (H0 : Heap) (A : Around) (env : Env) (loc : Loc) (e : Expr) (b : Bool) : Prop :=
  ∀ (w : Vw) (s : Shared), Ok H0 w s → View prog wd env loc w s.heap →
    wpAny (model prog wd) A (isTrue e env (eval e env)) (fun r s' => ∃ w', Stp w s w' s' ∧ r = b) NoE s
def PEs (prog : Program) (wd : World) (H0 : Heap) (A : Around) (env : Env) (loc : Loc) (es : List Expr) (ds : List D) : Prop :=
  ∀ (pos : Pos) (w : Vw) (s : Shared), Ok H0 w s → View prog wd env loc w s.heap →
    wpAny (model prog wd) A (spliced (backTo pos (starEach es env))) (fun vs s' => ∃ w', Stp w s w' s' ∧ RVs prog wd w' vs ds) NoE s
/-- an operation upon two values -/
def BO (prog : Program) (wd : World) (H0 : Heap) (A : Around) (op : Operator) (d₁ d₂ d : D) : Prop :=
  ∀ (w : Vw) (s : Shared) (v₁ v₂ : Value), Ok H0 w s → RV prog wd w v₁ d₁ → RV prog wd w v₂ d₂ →
    wpAny (model prog wd) A (binaryOp op v₁ v₂) (fun v s' => ∃ w', Stp w s w' s' ∧ RV prog wd w' v d) NoE s
def CO (prog : Program) (wd : World) (H0 : Heap) (A : Around) (op : CmpOp) (d₁ d₂ : D) (b : Bool) : Prop :=
  ∀ (w : Vw) (s : Shared) (v₁ v₂ : Value), Ok H0 w s → RV prog wd w v₁ d₁ → RV prog wd w v₂ d₂ →
    wpAny (model prog wd) A (compareOp op v₁ v₂) (fun v s' => ∃ w', Stp w s w' s' ∧ v = .bool b) NoE s
/-- a call upon values -/
def CF (prog : Program) (wd : World) (H0 : Heap) (A : Around) (f : Value) (ds : List D) (d : D) : Prop :=
  ∀ (w : Vw) (s : Shared) (vs : List Value), Ok H0 w s → RVs prog wd w vs ds →
    wpAny (model prog wd) A (call f vs) (fun v s' => ∃ w', Stp w s w' s' ∧ RV prog wd w' v d) NoE s
/-- the name gives a value of the top's -/
def GN (prog : Program) (wd : World) (H0 : Heap) (A : Around) (env : Env) (x : Str) (f : Value) : Prop :=
  ∀ (pos : Pos) (s : Shared) (Q E : Value → Shared → Prop), (∀ b o, H0.get? b = some o → s.heap.get? b = some o) → Q f s → wpAny (model prog wd) A (eval (.Name x pos) env) Q E s

theorem noE {α : Type} {M : Model} {A : Around} {t : Sem α} {Q Q' : α → Shared → Prop} {E : Value → Shared → Prop} {s : Shared} (h : wpAny M A t Q NoE s) (hQ : ∀ a s, Q a s → Q' a s) : wpAny M A t Q' E s :=
  wpAny_mono h hQ fun _ _ f => f.elim

section
variable {H0 : Heap} {A : Around} {env : Env} {loc : Loc}
theorem PE.name {x : Str} {pos : Pos} {d : D} (h : loc x = some d) (hk : env.scope.kind = .function) (hd : (x == ("__debug__" : Str)) = false := by decide) (hc : (x == ("__classdict__" : Str)) = false := by decide) :
    PE prog wd H0 A env loc (.Name x pos) d := fun w s o V => by
  obtain ⟨v, a, b⟩ := V x d h
  exact wpAny_Name (wpAny_look a hk hc ⟨w, .refl o, b⟩) hd
theorem PE.int {i : Int} {k pos} : PE prog wd H0 A env loc (.Constant (.int i) k pos) (.int i) := fun w _ o _ =>
  wpAny_Constant_int ⟨w, .quiet o (fun _ _ e => e) rfl rfl, .int _ _⟩
theorem PE.none {k pos} : PE prog wd H0 A env loc (.Constant .none k pos) .none := fun w _ o _ => wpAny_Constant_none ⟨w, .refl o, .none⟩
theorem PE.bool {b k pos} : PE prog wd H0 A env loc (.Constant (.bool b) k pos) (.bool b) := fun w _ o _ => wpAny_Constant_bool ⟨w, .refl o, .bool b⟩
theorem PEs.nil : PEs prog wd H0 A env loc [] [] := fun _ w _ o _ => wpAny_items_nil ⟨w, .refl o, .nil⟩
theorem PEs.cons {e : Expr} {es : List Expr} {d : D} {ds : List D} (h : PE prog wd H0 A env loc e d) (t : PEs prog wd H0 A env loc es ds) (hs : starEach (e :: es) env = (false, eval e env) :: starEach es env) :
    PEs prog wd H0 A env loc (e :: es) (d :: ds) := fun pos w s o V => by
  refine wpAny_items_cons ?_ hs
  refine wpAny_mono (h w s o V) (fun v s₁ ⟨w₁, S₁, R₁⟩ => ?_) fun _ _ f => f
  refine wpAny_mono (t pos w₁ s₁ (S₁.ok o) (V.step S₁)) (fun vs s₂ ⟨w₂, S₂, R₂⟩ => ?_) fun _ _ f => f
  exact ⟨w₂, S₁.trans S₂, .cons (R₁.mono S₂.mono) R₂⟩
theorem PE.bin {l r : Expr} {op : Operator} {pos : Pos} {a b d : D} (hl : PE prog wd H0 A env loc l a) (hr : PE prog wd H0 A env loc r b) (h : BO prog wd H0 A op a b d) : PE prog wd H0 A env loc (.BinOp l op r pos) d := fun w s o V => by
  refine wpAny_BinOp (wpAny_mono (hl w s o V) (fun v s₁ ⟨w₁, S₁, R₁⟩ => ?_) fun _ _ f => f)
  refine wpAny_mono (hr w₁ s₁ (S₁.ok o) (V.step S₁)) (fun u s₂ ⟨w₂, S₂, R₂⟩ => ?_) fun _ _ f => f
  refine wpAny_mono (h w₂ s₂ v u (S₂.ok (S₁.ok o)) (R₁.mono S₂.mono) R₂) (fun x s₃ ⟨w₃, S₃, R₃⟩ => ?_) fun _ _ f => f
  exact ⟨w₃, S₁.trans (S₂.trans S₃), R₃⟩
theorem PE.cmp {l r : Expr} {op : CmpOp} {pos : Pos} {a b : D} {k : Bool} (hl : PE prog wd H0 A env loc l a) (hr : PE prog wd H0 A env loc r b) (h : CO prog wd H0 A op a b k) (hm : behindInMarks op r = false) : PE prog wd H0 A env loc (.Compare l [op] [r] pos) (.bool k) := fun w s o V => by
  refine wpAny_Compare1 (wpAny_mono (hl w s o V) (fun v s₁ ⟨w₁, S₁, R₁⟩ => ?_) fun _ _ f => f) hm
  refine wpAny_mono (hr w₁ s₁ (S₁.ok o) (V.step S₁)) (fun u s₂ ⟨w₂, S₂, R₂⟩ => ?_) fun _ _ f => f
  refine wpAny_mono (h w₂ s₂ v u (S₂.ok (S₁.ok o)) (R₁.mono S₂.mono) R₂) (fun x s₃ ⟨w₃, S₃, e⟩ => ?_) fun _ _ f => f
  subst e
  exact ⟨w₃, S₁.trans (S₂.trans S₃), .bool k⟩
theorem PT.cmp {l r : Expr} {op : CmpOp} {pos : Pos} {a b : D} {k : Bool} (hl : PE prog wd H0 A env loc l a) (hr : PE prog wd H0 A env loc r b) (h : CO prog wd H0 A op a b k) (hm : behindInMarks op r = false) : PT prog wd H0 A env loc (.Compare l [op] [r] pos) k := fun w s o V => by
  refine wpAny_isTrue_Compare1 (wpAny_mono (hl w s o V) (fun v s₁ ⟨w₁, S₁, R₁⟩ => ?_) fun _ _ f => f) hm
  refine wpAny_mono (hr w₁ s₁ (S₁.ok o) (V.step S₁)) (fun u s₂ ⟨w₂, S₂, R₂⟩ => ?_) fun _ _ f => f
  refine wpAny_mono (h w₂ s₂ v u (S₂.ok (S₁.ok o)) (R₁.mono S₂.mono) R₂) (fun x s₃ ⟨w₃, S₃, e⟩ => ?_) fun _ _ f => f
  subst e
  exact wpAny_truthy_bool ⟨w₃, S₁.trans (S₂.trans S₃), rfl⟩
theorem PE.ite {c x y : Expr} {pos : Pos} {b : Bool} {d : D} (hc : PT prog wd H0 A env loc c b) (hx : b = true → PE prog wd H0 A env loc x d) (hy : b = false → PE prog wd H0 A env loc y d) : PE prog wd H0 A env loc (.IfExp c x y pos) d := fun w s o V => by
  refine wpAny_IfExp (wpAny_mono (hc w s o V) (fun v s₁ ⟨w₁, S₁, e⟩ => ?_) fun _ _ f => f)
  subst e
  cases v
  · exact wpAny_mono (hy rfl w₁ s₁ (S₁.ok o) (V.step S₁)) (fun u s₂ ⟨w₂, S₂, R₂⟩ => ⟨w₂, S₁.trans S₂, R₂⟩) fun _ _ f => f
  · exact wpAny_mono (hx rfl w₁ s₁ (S₁.ok o) (V.step S₁)) (fun u s₂ ⟨w₂, S₂, R₂⟩ => ⟨w₂, S₁.trans S₂, R₂⟩) fun _ _ f => f
theorem PT.and2 {x y : Expr} {pos : Pos} {a b : Bool} (hx : PT prog wd H0 A env loc x a) (hy : a = true → PT prog wd H0 A env loc y b) : PT prog wd H0 A env loc (.BoolOp .And [x, y] pos) (a && b) := fun w s o V => by
  refine wpAny_isTrue_BoolOp (wpAny_allTrue_And_cons (wpAny_mono (hx w s o V) (fun v s₁ ⟨w₁, S₁, e⟩ => ?_) fun _ _ f => f))
  subst e
  cases v
  · exact ⟨w₁, S₁, rfl⟩
  · refine wpAny_allTrue_And_cons (wpAny_mono (hy rfl w₁ s₁ (S₁.ok o) (V.step S₁)) (fun u s₂ ⟨w₂, S₂, e⟩ => ?_) fun _ _ f => f)
    subst e
    cases u
    · exact ⟨w₂, S₁.trans S₂, rfl⟩
    · exact wpAny_allTrue_And_nil ⟨w₂, S₁.trans S₂, rfl⟩
theorem PT.or2 {x y : Expr} {pos : Pos} {a b : Bool} (hx : PT prog wd H0 A env loc x a) (hy : a = false → PT prog wd H0 A env loc y b) : PT prog wd H0 A env loc (.BoolOp .Or [x, y] pos) (a || b) := fun w s o V => by
  refine wpAny_isTrue_BoolOp (wpAny_allTrue_Or_cons (wpAny_mono (hx w s o V) (fun v s₁ ⟨w₁, S₁, e⟩ => ?_) fun _ _ f => f))
  subst e
  cases v
  · refine wpAny_allTrue_Or_cons (wpAny_mono (hy rfl w₁ s₁ (S₁.ok o) (V.step S₁)) (fun u s₂ ⟨w₂, S₂, e⟩ => ?_) fun _ _ f => f)
    subst e
    cases u
    · exact wpAny_allTrue_Or_nil ⟨w₂, S₁.trans S₂, rfl⟩
    · exact ⟨w₂, S₁.trans S₂, rfl⟩
  · exact ⟨w₁, S₁, rfl⟩
theorem PE.tup {es : List Expr} {ds : List D} {k : Nat} {pos : Pos} (h : PEs prog wd H0 A env loc es ds) (hz : ds.length ≤ 1000) : PE prog wd H0 A env loc (.Tuple es k pos) (.tup ds) := fun w s o V => by
  refine Tuple_ (wpAny_mono (h pos w s o V) (fun vs s₁ ⟨w₁, S₁, R₁⟩ => ?_) fun _ _ f => f)
  refine wpAny_newObj_type (data := .seq vs.toArray) ?_ (by show vs.toArray.size ≤ sizeLine; rw [List.size_toArray, R₁.length]; exact Nat.le_trans hz (by decide))
  have S₂ : Stp w₁ s₁ (Vw.put w₁ s₁.heap.objs.size { cls := .type "tuple", data := .seq vs.toArray }) { s₁ with heap := s₁.heap.push { cls := .type "tuple", data := .seq vs.toArray } } :=
    .put (S₁.ok o) (fresh_size _) (Heap.get?_push_size _ rfl) (fun _ _ e => Heap.get?_push_of_some _ e) rfl rfl
  exact ⟨_, S₁.trans S₂, .tup (Vw.put_self ..) (by simpa using R₁.mono S₂.mono)⟩
theorem PE.lst {es : List Expr} {ds : List D} {pos : Pos} (h : PEs prog wd H0 A env loc es ds) (hz : ds.length ≤ 1000) : PE prog wd H0 A env loc (.List es pos) (.lst ds) := fun w s o V => by
  refine List_ (wpAny_mono (h pos w s o V) (fun vs s₁ ⟨w₁, S₁, R₁⟩ => ?_) fun _ _ f => f)
  refine wpAny_newObj_type (data := .seq vs.toArray) ?_ (by show vs.toArray.size ≤ sizeLine; rw [List.size_toArray, R₁.length]; exact Nat.le_trans hz (by decide))
  have S₂ : Stp w₁ s₁ (Vw.put w₁ s₁.heap.objs.size { cls := .type "list", data := .seq vs.toArray }) { s₁ with heap := s₁.heap.push { cls := .type "list", data := .seq vs.toArray } } :=
    .put (S₁.ok o) (fresh_size _) (Heap.get?_push_size _ rfl) (fun _ _ e => Heap.get?_push_of_some _ e) rfl rfl
  exact ⟨_, S₁.trans S₂, .lst (Vw.put_self ..) (by simpa using R₁.mono S₂.mono)⟩
end
end
end Mine
namespace Mine
open PySem PySem.Calls PyProof.Rows PySem.W
section
variable {prog : Program} {wd : World} {H0 : Heap} {A : Around} {env : Env} {loc : Loc}

theorem BO.add {a b : Int} : BO prog wd H0 A .Add (.int a) (.int b) (.int (a + b)) := fun w s v₁ v₂ o r₁ r₂ => by
  cases r₁; cases r₂
  exact PyProof.Rows.add_int ⟨w, .quiet o (fun _ _ e => e) rfl rfl, .int _ _⟩
theorem BO.sub {a b : Int} : BO prog wd H0 A .Sub (.int a) (.int b) (.int (a - b)) := fun w s v₁ v₂ o r₁ r₂ => by
  cases r₁; cases r₂
  exact PyProof.Rows.sub_int ⟨w, .quiet o (fun _ _ e => e) rfl rfl, .int _ _⟩
theorem BO.mod {a b : Int} (hb : b ≠ 0) : BO prog wd H0 A .Mod (.int a) (.int b) (.int (a.fmod b)) := fun w s v₁ v₂ o r₁ r₂ => by
  cases r₁; cases r₂
  exact PyProof.Rows.mod_int hb ⟨w, .quiet o (fun _ _ e => e) rfl rfl, .int _ _⟩
theorem BO.fdiv {a b : Int} (hb : b ≠ 0) (hs : b.natAbs < 1000) : BO prog wd H0 A .FloorDiv (.int a) (.int b) (.int (a.fdiv b)) := fun w s v₁ v₂ o r₁ r₂ => by
  cases r₁; cases r₂
  exact PyProof.Rows.floordiv_int (hp := Or.inl (PyProof.noPylong_small (by omega))) hb ⟨w, .quiet o (fun _ _ e => e) rfl rfl, .int _ _⟩
theorem PE.neg {x : Expr} {pos : Pos} {a : Int} (h : PE prog wd H0 A env loc x (.int a)) : PE prog wd H0 A env loc (.UnaryOp .USub x pos) (.int (-a)) := fun w s o V => by
  refine wpAny_UnaryOp (wpAny_mono (h w s o V) (fun v s₁ ⟨w₁, S₁, R₁⟩ => ?_) fun _ _ f => f)
  cases R₁
  exact PyProof.Rows.neg_int ⟨w₁, S₁.trans (.quiet (S₁.ok o) (fun _ _ e => e) rfl rfl), .int _ _⟩

theorem CO.lt {a b : Int} : CO prog wd H0 A .Lt (.int a) (.int b) (decide (a < b)) := fun w s v₁ v₂ o r₁ r₂ => by
  cases r₁; cases r₂
  exact PyProof.Rows.lt_int ⟨w, .refl o, rfl⟩
theorem CO.gt {a b : Int} : CO prog wd H0 A .Gt (.int a) (.int b) (decide (b < a)) := fun w s v₁ v₂ o r₁ r₂ => by
  cases r₁; cases r₂
  exact PyProof.Rows.gt_int ⟨w, .refl o, rfl⟩
theorem CO.le {a b : Int} : CO prog wd H0 A .LtE (.int a) (.int b) (decide (a ≤ b)) := fun w s v₁ v₂ o r₁ r₂ => by
  cases r₁; cases r₂
  exact PyProof.Rows.le_int ⟨w, .refl o, rfl⟩
theorem CO.ge {a b : Int} : CO prog wd H0 A .GtE (.int a) (.int b) (decide (b ≤ a)) := fun w s v₁ v₂ o r₁ r₂ => by
  cases r₁; cases r₂
  exact PyProof.Rows.ge_int ⟨w, .refl o, rfl⟩
theorem CO.eq {a b : Int} : CO prog wd H0 A .Eq (.int a) (.int b) (a == b) := fun w s v₁ v₂ o r₁ r₂ => by
  cases r₁; cases r₂
  exact PyProof.Rows.eq_int ⟨w, .refl o, rfl⟩
theorem CO.ne {a b : Int} : CO prog wd H0 A .NotEq (.int a) (.int b) (a != b) := fun w s v₁ v₂ o r₁ r₂ => by
  cases r₁; cases r₂
  exact PyProof.Rows.ne_int ⟨w, .refl o, rfl⟩
theorem CO.isNone {d : D} {b : Bool} (h : b = match d with | .none => true | _ => false) : CO prog wd H0 A .Is d .none b := fun w s v₁ v₂ o r₁ r₂ => by
  cases r₂
  refine PySem.is_none ⟨w, .refl o, ?_⟩
  subst h
  cases r₁ <;> rfl

/-- what a datum is, as the library's data -/
def D.py : D → PyData
  | .none => .none
  | .bool b => .bool b
  | .int i => .int i
  | .tup l => .tuple (l.attach.map fun ⟨d, _⟩ => d.py)
  | .lst l => .list (l.attach.map fun ⟨d, _⟩ => d.py)
  | _ => .none
theorem D.py_tup (l : List D) : (D.tup l).py = .tuple (l.map D.py) := by rw [D.py]; simp
theorem D.py_lst (l : List D) : (D.lst l).py = .list (l.map D.py) := by rw [D.py]; simp
/-- plain: ints, bools, none, tuples and lists of them, to a depth -/
def D.plain : Nat → D → Bool
  | _, .none => true
  | _, .bool _ => true
  | _, .int _ => true
  | n + 1, .tup l => l.all (D.plain n)
  | n + 1, .lst l => l.all (D.plain n)
  | _, _ => false

mutual
theorem RV.reads {w : Vw} {s : Shared} (o : ∀ b ob, w b = some ob → s.heap.get? b = some ob) : ∀ {v : Value} {d : D} (n : Nat), RV prog wd w v d → d.plain n = true → ∃ as, Reads s.heap v d.py as
  | _, _, _, .none, _ => ⟨_, by rw [D.py]; exact Reads.none⟩
  | _, _, _, .bool b, _ => ⟨_, by rw [D.py]; exact Reads.bool b⟩
  | _, _, _, .int i t, _ => ⟨_, by rw [D.py]; exact Reads.int i t⟩
  | _, _, 0, .tup _ _, h => by simp [D.plain] at h
  | _, _, 0, .lst _ _, h => by simp [D.plain] at h
  | _, _, n + 1, .tup a r, h => by
    obtain ⟨as, q⟩ := RVs.reads o n r (by simpa [D.plain] using h)
    rw [D.py_tup]
    exact ⟨_, Reads.tuple (o _ _ a) rfl rfl q⟩
  | _, _, n + 1, .lst a r, h => by
    obtain ⟨as, q⟩ := RVs.reads o n r (by simpa [D.plain] using h)
    rw [D.py_lst]
    exact ⟨_, Reads.list (o _ _ a) rfl rfl q⟩
  | _, _, n, .dct _ _ _ _, h => by cases n <;> simp [D.plain] at h
  | _, _, n, .tc _ _ _, h => by cases n <;> simp [D.plain] at h
  | _, _, n, .ptr _, h => by cases n <;> simp [D.plain] at h
theorem RVs.reads {w : Vw} {s : Shared} (o : ∀ b ob, w b = some ob → s.heap.get? b = some ob) : ∀ {vs : List Value} {ds : List D} (n : Nat), RVs prog wd w vs ds → (∀ d ∈ ds, d.plain n = true) → ∃ as, ReadsAll s.heap vs (ds.map D.py) as
  | _, _, _, .nil, _ => ⟨_, .nil⟩
  | _, _, n, .cons a r, h => by
    obtain ⟨as, p⟩ := RV.reads o n a (h _ (.head _))
    obtain ⟨bs, q⟩ := RVs.reads o n r fun d m => h d (.tail _ m)
    exact ⟨_, .cons p q⟩
end
theorem D.plain_lay : ∀ (n : Nat) (d : D), d.plain n = true → d.py.canLay0 = true ∧ d.py.depth ≤ n := by
  have all : ∀ (n : Nat), (∀ d : D, d.plain n = true → d.py.canLay0 = true ∧ d.py.depth ≤ n) → ∀ ds : List D, (∀ d ∈ ds, d.plain n = true) → PyData.canLayAll0 (ds.map D.py) = true ∧ PyData.depthAll (ds.map D.py) ≤ n := by
    intro n ih ds
    induction ds with
    | nil => intro _; simp [PyData.canLayAll0, PyData.depthAll]
    | cons d ds hi =>
      intro h
      have h1 := ih d (h d (.head _))
      have h2 := hi fun e he => h e (.tail _ he)
      simp only [List.map_cons, PyData.canLayAll0, PyData.depthAll, h1.1, h2.1, Bool.and_self, true_and]
      have a1 := h1.2
      have a2 := h2.2
      omega
  intro n
  induction n with
  | zero => intro d h; cases d <;> simp_all [D.plain, D.py, PyData.canLay0, PyData.depth]
  | succ n ih =>
    intro d h
    cases d with
    | none => simp [D.py, PyData.canLay0, PyData.depth]
    | bool b => simp [D.py, PyData.canLay0, PyData.depth]
    | int i => simp [D.py, PyData.canLay0, PyData.depth]
    | tup l =>
      have q := all n ih l (by simpa [D.plain] using h)
      have q2 := q.2
      simp only [D.py_tup, PyData.canLay0, PyData.depth, q.1, true_and]
      omega
    | lst l =>
      have q := all n ih l (by simpa [D.plain] using h)
      have q2 := q.2
      simp only [D.py_lst, PyData.canLay0, PyData.depth, q.1, true_and]
      omega
    | dct l => simp [D.plain] at h
    | tc C l => simp [D.plain] at h
    | ptr a => simp [D.plain] at h
theorem D.shaped {d : D} (n : Nat) (h : d.plain n = true) (hn : n ≤ 64 := by decide) : PySem.SeqAt.shaped d.py = true := by
  have q := D.plain_lay n d h
  simp only [PySem.SeqAt.shaped, q.1, Bool.true_and, decide_eq_true_eq]
  omega
theorem CO.eqD {d e : D} {b : Bool} (n : Nat) (hd : d.plain n = true) (he : e.plain n = true) (hu : A.units + 64 < cLine) (hb : PyData.eqv d.py e.py = b) (hn : n ≤ 64 := by decide) : CO prog wd H0 A .Eq d e b := fun w s v₁ v₂ o r₁ r₂ => by
  obtain ⟨as, q⟩ := RV.reads o.part n r₁ hd
  obtain ⟨bs, q'⟩ := RV.reads o.part n r₂ he
  exact PySem.SeqAt.compareEq_shaped q q' (D.shaped n hd hn) (D.shaped n he hn) hu ⟨w, .refl o, by rw [hb]⟩
theorem CO.neD {d e : D} {b : Bool} (n : Nat) (hd : d.plain n = true) (he : e.plain n = true) (hu : A.units + 64 < cLine) (hb : (!PyData.eqv d.py e.py) = b) (hn : n ≤ 64 := by decide) : CO prog wd H0 A .NotEq d e b := fun w s v₁ v₂ o r₁ r₂ => by
  obtain ⟨as, q⟩ := RV.reads o.part n r₁ hd
  obtain ⟨bs, q'⟩ := RV.reads o.part n r₂ he
  exact PySem.SeqAt.compareNe_shaped q q' (D.shaped n hd hn) (D.shaped n he hn) hu ⟨w, .refl o, by rw [hb]⟩
end
end Mine
namespace Mine
open PySem PySem.Calls PyProof.Rows PySem.W
section
variable {prog : Program} {wd : World} {H0 : Heap} {A : Around} {env : Env} {loc : Loc}

theorem RV.isList {w : Vw} {a : Addr} {ds : List D} {s : Shared} (r : RV prog wd w (.ref a) (.lst ds)) (o : ∀ b ob, w b = some ob → s.heap.get? b = some ob) :
    ∃ vs n, s.heap.get? a = some { cls := .type "list", data := .seq vs n } ∧ s.heap.IsList a vs ∧ RVs prog wd w vs.toList ds := by
  cases r with
  | lst h r => exact ⟨_, _, o _ _ h, ⟨_, o _ _ h, rfl, _, rfl⟩, r⟩
theorem RV.isTup {w : Vw} {a : Addr} {ds : List D} {s : Shared} (r : RV prog wd w (.ref a) (.tup ds)) (o : ∀ b ob, w b = some ob → s.heap.get? b = some ob) :
    ∃ vs n, s.heap.get? a = some { cls := .type "tuple", data := .seq vs n } ∧ IsTup s.heap a vs ∧ RVs prog wd w vs.toList ds := by
  cases r with
  | tup h r => exact ⟨_, _, o _ _ h, ⟨_, o _ _ h, rfl, _, rfl⟩, r⟩
theorem RV.lstRef {w : Vw} {v : Value} {ds : List D} (r : RV prog wd w v (.lst ds)) : ∃ a, v = .ref a := by cases r; exact ⟨_, rfl⟩
theorem RV.tupRef {w : Vw} {v : Value} {ds : List D} (r : RV prog wd w v (.tup ds)) : ∃ a, v = .ref a := by cases r; exact ⟨_, rfl⟩
theorem RV.dctRef {w : Vw} {v : Value} {l} (r : RV prog wd w v (.dct l)) : ∃ a, v = .ref a := by cases r; exact ⟨_, rfl⟩
theorem RV.dictOf {w : Vw} {a : Addr} {l : List (Int × Int)} {s : Shared} (r : RV prog wd w (.ref a) (.dct l)) (o : ∀ b ob, w b = some ob → s.heap.get? b = some ob) :
    ∃ kvs, (a == sysModules) = false ∧ s.heap.DictOf (intKind prog wd) a kvs ∧ KV kvs l := by
  cases r with
  | dct h lo hd k => exact ⟨_, lo, Heap.dictOf_iff.mpr ⟨_, o _ _ h, hd⟩, k⟩

/-- the plain way of an item -/
def PlainSub (slice : Expr) : Prop := ∀ (a : Addr) (i : Int) (t : Tok), subscripted slice false (.ref a) (.int i t) = operate [.ref a, .int i t] (getItem (.ref a) (.int i t))

theorem PE.itemL {value slice : Expr} {pos : Pos} {ds : List D} {k : Int} {d : D} (hv : PE prog wd H0 A env loc value (.lst ds)) (hk : PE prog wd H0 A env loc slice (.int k)) (h0 : 0 ≤ k) (h1 : k < 2 ^ 63) (hd : ds[k.toNat]? = some d)
    (hs : PlainSub slice) : PE prog wd H0 A env loc (.Subscript value slice pos) d := fun w s o V => by
  refine Subscript_ (wpAny_mono (hv w s o V) (fun v s₁ ⟨w₁, S₁, R₁⟩ => ?_) fun _ _ f => f)
  refine wpAny_mono (hk w₁ s₁ (S₁.ok o) (V.step S₁)) (fun u s₂ ⟨w₂, S₂, R₂⟩ => ?_) fun _ _ f => f
  obtain ⟨a, rfl⟩ := R₁.lstRef
  cases R₂ with
  | int i t =>
    obtain ⟨vs, n, _, hl, r⟩ := (R₁.mono S₂.mono).isList (S₂.ok (S₁.ok o)).part
    obtain ⟨x, hx, rx⟩ := r.getD hd
    exact tail_any hl.typeIs slot_list_getitem.lookup (wpAny_getItem_list hl h0 h1 (by simpa using hx) ⟨w₂, S₁.trans S₂, rx⟩) (hs a k t)
theorem PE.itemT {value slice : Expr} {pos : Pos} {ds : List D} {k : Int} {d : D} {j : Nat} (hv : PE prog wd H0 A env loc value (.tup ds)) (hk : PE prog wd H0 A env loc slice (.int k)) (h0 : -(2 ^ 63) ≤ k) (h1 : k < 2 ^ 63) (hj : seqIndex? k ds.length = some j) (hd : ds[j]? = some d)
    (hs : PlainSub slice) : PE prog wd H0 A env loc (.Subscript value slice pos) d := fun w s o V => by
  refine Subscript_ (wpAny_mono (hv w s o V) (fun v s₁ ⟨w₁, S₁, R₁⟩ => ?_) fun _ _ f => f)
  refine wpAny_mono (hk w₁ s₁ (S₁.ok o) (V.step S₁)) (fun u s₂ ⟨w₂, S₂, R₂⟩ => ?_) fun _ _ f => f
  obtain ⟨a, rfl⟩ := R₁.tupRef
  cases R₂ with
  | int i t =>
    obtain ⟨vs, n, _, hl, r⟩ := (R₁.mono S₂.mono).isTup (S₂.ok (S₁.ok o)).part
    obtain ⟨x, hx, rx⟩ := r.getD hd
    have e : vs.size = ds.length := by rw [← r.length, Array.length_toList]
    exact tail_any hl.typeIs slot_tuple_getitem.lookup (getItem_tuple hl h0 h1 (by rw [e]; exact hj) (by simpa using hx) ⟨w₂, S₁.trans S₂, rx⟩) (hs a k t)

/-- what a dict holds at a key -/
def dget (l : List (Int × Int)) (k : Int) : Option Int := (l.find? fun p => p.1 = k).map (·.2)
theorem KV.valueAt {kvs : List (Int × Value)} {l : List (Int × Int)} (h : KV kvs l) (k : Int) : (dget l k = none ∧ PySem.valueAt kvs k = none) ∨ ∃ x t, dget l k = some x ∧ PySem.valueAt kvs k = some (.int x t) := by
  induction h with
  | nil => exact .inl ⟨rfl, rfl⟩
  | @cons c v t r r' _ ih =>
    by_cases e : c = k
    · subst e; exact .inr ⟨v, t, by simp [dget], by simp [PySem.valueAt]⟩
    · simpa [dget, PySem.valueAt, List.find?_cons, e] using ih
theorem PE.itemD {value slice : Expr} {pos : Pos} {l : List (Int × Int)} {k x : Int} (hv : PE prog wd H0 A env loc value (.dct l)) (hk : PE prog wd H0 A env loc slice (.int k)) (hd : dget l k = some x)
    (hs : PlainSub slice) : PE prog wd H0 A env loc (.Subscript value slice pos) (.int x) := fun w s o V => by
  refine Subscript_ (wpAny_mono (hv w s o V) (fun v s₁ ⟨w₁, S₁, R₁⟩ => ?_) fun _ _ f => f)
  refine wpAny_mono (hk w₁ s₁ (S₁.ok o) (V.step S₁)) (fun u s₂ ⟨w₂, S₂, R₂⟩ => ?_) fun _ _ f => f
  obtain ⟨a, rfl⟩ := R₁.dctRef
  cases R₂ with
  | int i t =>
    obtain ⟨kvs, lo, hD, r⟩ := (R₁.mono S₂.mono).dictOf (S₂.ok (S₁.ok o)).part
    rcases r.valueAt k with ⟨e, _⟩ | ⟨y, u, e, q⟩
    · rw [hd] at e; cases e
    · rw [hd] at e; cases e
      exact tail_any hD.typeIs slot_dict_getitem.lookup (wpAny_getItem_of (intKind_is prog wd k t) hD.mapOf q ⟨w₂, (S₁.trans S₂).trans (.quiet (S₂.ok (S₁.ok o)) (fun _ _ e => e) rfl rfl), .int _ _⟩) (hs a k t)
theorem CO.inD {l : List (Int × Int)} {k : Int} : CO prog wd H0 A .In (.int k) (.dct l) (dget l k).isSome := fun w s v₁ v₂ o r₁ r₂ => by
  obtain ⟨a, rfl⟩ := r₂.dctRef
  cases r₁ with
  | int i t =>
    obtain ⟨kvs, lo, hD, r⟩ := r₂.dictOf o.part
    have e : (PySem.valueAt kvs k).isSome = (dget l k).isSome := by
      rcases r.valueAt k with ⟨e, e'⟩ | ⟨y, u, e, e'⟩ <;> rw [e, e'] <;> rfl
    exact wpAny_in_of (intKind_is prog wd k t) lo hD.mapOf ⟨w, .quiet o (fun _ _ e => e) rfl rfl, by rw [e]⟩
theorem CO.notInD {l : List (Int × Int)} {k : Int} : CO prog wd H0 A .NotIn (.int k) (.dct l) (!(dget l k).isSome) := fun w s v₁ v₂ o r₁ r₂ => by
  obtain ⟨a, rfl⟩ := r₂.dctRef
  cases r₁ with
  | int i t =>
    obtain ⟨kvs, lo, hD, r⟩ := r₂.dictOf o.part
    have e : (PySem.valueAt kvs k).isSome = (dget l k).isSome := by
      rcases r.valueAt k with ⟨e, e'⟩ | ⟨y, u, e, e'⟩ <;> rw [e, e'] <;> rfl
    exact wpAny_notIn_of (intKind_is prog wd k t) lo hD.mapOf ⟨w, .quiet o (fun _ _ e => e) rfl rfl, by rw [e]⟩
theorem CO.inL {d : D} {ds : List D} {b : Bool} (n : Nat) (hd : d.plain n = true) (he : ∀ x ∈ ds, x.plain n = true) (hu : A.units + 64 < cLine) (hb : (ds.any fun y => PyData.eqv y.py d.py) = b) (hn : n ≤ 60 := by decide) : CO prog wd H0 A .In d (.lst ds) b := fun w s v₁ v₂ o r₁ r₂ => by
  obtain ⟨as, q⟩ := RV.reads o.part n r₁ hd
  obtain ⟨bs, q'⟩ := RV.reads o.part (n + 1) r₂ (by simpa [D.plain] using he)
  rw [D.py_lst] at q'
  have h1 := D.plain_lay (n + 1) (.lst ds) (by simpa [D.plain] using he)
  have h2 := D.plain_lay n d hd
  rw [D.py_lst] at h1
  simp only [PyData.canLay0, PyData.depth] at h1
  have h3 := h1.2
  have h4 := h2.2
  exact SeqAt.in_list_reads q' q h1.1 h2.1 (by omega) ⟨w, .refl o, by rw [List.any_map]; exact congrArg Value.bool hb⟩
theorem CO.notInL {d : D} {ds : List D} {b : Bool} (n : Nat) (hd : d.plain n = true) (he : ∀ x ∈ ds, x.plain n = true) (hu : A.units + 64 < cLine) (hb : (!ds.any fun y => PyData.eqv y.py d.py) = b) (hn : n ≤ 60 := by decide) : CO prog wd H0 A .NotIn d (.lst ds) b := fun w s v₁ v₂ o r₁ r₂ => by
  obtain ⟨as, q⟩ := RV.reads o.part n r₁ hd
  obtain ⟨bs, q'⟩ := RV.reads o.part (n + 1) r₂ (by simpa [D.plain] using he)
  rw [D.py_lst] at q'
  have h1 := D.plain_lay (n + 1) (.lst ds) (by simpa [D.plain] using he)
  have h2 := D.plain_lay n d hd
  rw [D.py_lst] at h1
  simp only [PyData.canLay0, PyData.depth] at h1
  have h3 := h1.2
  have h4 := h2.2
  exact SeqAt.notIn_list_reads q' q h1.1 h2.1 (by omega) ⟨w, .refl o, by rw [List.any_map]; exact congrArg Value.bool hb⟩

/-- a new object's step -/
theorem Stp.push {w : Vw} {s : Shared} (o : Ok H0 w s) (ob : Obj) (hf : ob.isFreed = false := by rfl) (tk : Nat := s.toks) : Stp w s (w.put s.heap.objs.size ob) { s with heap := s.heap.push ob, toks := tk } :=
  .put o (fresh_size _) (Heap.get?_push_size _ hf) (fun _ _ e => Heap.get?_push_of_some _ e) rfl rfl
theorem RVs.drop {w : Vw} {vs : List Value} {ds : List D} (h : RVs prog wd w vs ds) (k : Nat) : RVs prog wd w (vs.drop k) (ds.drop k) := by
  induction k generalizing vs ds with
  | zero => simpa using h
  | succ k ih => cases h with
    | nil => simpa using RVs.nil
    | cons h r => simpa using ih r
theorem RVs.take {w : Vw} {vs : List Value} {ds : List D} (h : RVs prog wd w vs ds) (k : Nat) : RVs prog wd w (vs.take k) (ds.take k) := by
  induction k generalizing vs ds with
  | zero => simpa using RVs.nil
  | succ k ih => cases h with
    | nil => simpa using RVs.nil
    | cons h r => simpa using RVs.cons h (ih r)
theorem PE.sliceFrom {value : Expr} {pos p p' : Pos} {ds : List D} {k : Nat} {kd : Nat} (hv : PE prog wd H0 A env loc value (.lst ds)) (hz : ds.length ≤ 1000) (ht : ∀ o r, letTemporaryGo value o r = pure ()) :
    PE prog wd H0 A env loc (.Subscript value (.Slice (some (.Constant (.int k) kd p)) Option.none Option.none p') pos) (.lst (ds.drop k)) := fun w s o V => by
  refine wpAny_Subscript_list_slice (wpAny_mono (hv w s o V) (fun v s₁ ⟨w₁, S₁, R₁⟩ => ?_) fun _ _ f => f) ht
  rw [evalPart_some]
  refine wpAny_Constant_int ?_
  rw [evalPart_none]
  refine wpAny_pure ?_
  obtain ⟨a, rfl⟩ := R₁.lstRef
  obtain ⟨vs, n, _, hl, r⟩ := R₁.isList (S₁.ok o).part
  have e : vs.size = ds.length := by rw [← r.length, Array.length_toList]
  refine ⟨a, vs, some k, Option.none, rfl, hl, by rw [e]; exact Nat.le_trans hz (by decide), .int _ _, .none, ?_⟩
  have q : Stp w₁ s₁ w₁ { s₁ with heap := s₁.heap.push { cls := .type "slice", data := .fields #[.int k s₁.toks, .none, .none] }, toks := s₁.toks + 1 } := .quiet (S₁.ok o) (fun _ _ e => Heap.get?_push_of_some _ e) rfl rfl
  have q2 := Stp.push (q.ok (S₁.ok o)) { cls := .type "list", data := .seq (slicePick vs (some (k : Int)) Option.none Option.none) }
  refine ⟨_, S₁.trans (q.trans q2), ?_⟩
  have hz : (s₁.heap.push { cls := .type "slice", data := .fields #[.int k s₁.toks, .none, .none] }).objs.size = s₁.heap.objs.size + 1 := Heap.size_push ..
  refine .lst (vs := slicePick vs (some (k : Int)) Option.none Option.none) (n := 0) (by simp only [hz]; exact Vw.put_self ..) ?_
  rw [show (slicePick vs (some (k : Int)) Option.none Option.none).toList = vs.toList.drop k from by rw [slicePick_from']]
  exact (r.drop k).mono q2.mono
theorem PE.sliceUpto {value : Expr} {pos p p' : Pos} {ds : List D} {k : Nat} {kd : Nat} (hv : PE prog wd H0 A env loc value (.lst ds)) (hz : ds.length ≤ 1000) (ht : ∀ o r, letTemporaryGo value o r = pure ()) :
    PE prog wd H0 A env loc (.Subscript value (.Slice Option.none (some (.Constant (.int k) kd p)) Option.none p') pos) (.lst (ds.take k)) := fun w s o V => by
  refine wpAny_Subscript_list_slice (wpAny_mono (hv w s o V) (fun v s₁ ⟨w₁, S₁, R₁⟩ => ?_) fun _ _ f => f) ht
  rw [evalPart_none]
  refine wpAny_pure ?_
  rw [evalPart_some]
  refine wpAny_Constant_int ?_
  obtain ⟨a, rfl⟩ := R₁.lstRef
  obtain ⟨vs, n, _, hl, r⟩ := R₁.isList (S₁.ok o).part
  have e : vs.size = ds.length := by rw [← r.length, Array.length_toList]
  refine ⟨a, vs, Option.none, some k, rfl, hl, by rw [e]; exact Nat.le_trans hz (by decide), .none, .int _ _, ?_⟩
  have q : Stp w₁ s₁ w₁ { s₁ with heap := s₁.heap.push { cls := .type "slice", data := .fields #[.none, .int k s₁.toks, .none] }, toks := s₁.toks + 1 } := .quiet (S₁.ok o) (fun _ _ e => Heap.get?_push_of_some _ e) rfl rfl
  have q2 := Stp.push (q.ok (S₁.ok o)) { cls := .type "list", data := .seq (slicePick vs Option.none (some (k : Int)) Option.none) }
  refine ⟨_, S₁.trans (q.trans q2), ?_⟩
  have hz : (s₁.heap.push { cls := .type "slice", data := .fields #[.none, .int k s₁.toks, .none] }).objs.size = s₁.heap.objs.size + 1 := Heap.size_push ..
  refine .lst (vs := slicePick vs Option.none (some (k : Int)) Option.none) (n := 0) (by simp only [hz]; exact Vw.put_self ..) ?_
  rw [show (slicePick vs Option.none (some (k : Int)) Option.none).toList = vs.toList.take k from by rw [slicePick_upto']]
  exact (r.take k).mono q2.mono
theorem PE.sliceT {value : Expr} {pos p p' : Pos} {ds : List D} {k : Nat} {kd : Nat} (hv : PE prog wd H0 A env loc value (.tup ds)) (h1 : 1 ≤ k) (hk : k ≤ ds.length) (hz : ds.length ≤ 1000) (ht : ∀ o r, letTemporaryGo value o r = pure ()) :
    PE prog wd H0 A env loc (.Subscript value (.Slice (some (.Constant (.int k) kd p)) Option.none Option.none p') pos) (.tup (ds.drop k)) := fun w s o V => by
  refine wpAny_Subscript_Slice (T := "tuple") slot_tuple_getitem.lookup (wpAny_mono (hv w s o V) (fun v s₁ ⟨w₁, S₁, R₁⟩ => ?_) fun _ _ f => f) ht
  refine wpAny_Slice ?_
  rw [evalPart_some]
  refine wpAny_Constant_int ?_
  rw [evalPart_none]
  refine wpAny_pure (wpAny_pure ?_)
  obtain ⟨a, rfl⟩ := R₁.tupRef
  obtain ⟨vs, n, ha, hl, r⟩ := R₁.isTup (S₁.ok o).part
  have e : vs.size = ds.length := by rw [← r.length, Array.length_toList]
  have q : Stp w₁ s₁ w₁ { s₁ with heap := s₁.heap.push { cls := .type "slice", data := .fields #[.int k s₁.toks, .none, .none] }, toks := s₁.toks + 1 } := .quiet (S₁.ok o) (fun _ _ e => Heap.get?_push_of_some _ e) rfl rfl
  have hl' : IsTup (s₁.heap.push { cls := .type "slice", data := .fields #[.int k s₁.toks, .none, .none] }) a vs := ⟨_, Heap.get?_push_of_some _ ha, rfl, _, rfl⟩
  refine ⟨hl'.typeIs, getItem_tuple_from (a := k) (u := s₁.toks) hl' (Heap.IsSliceOf.new ..) h1 (by rw [e]; exact hk) ?_ (by rw [e]; exact Nat.le_trans hz (by decide))⟩
  have q2 := Stp.push (q.ok (S₁.ok o)) { cls := .type "tuple", data := .seq (vs.toList.drop k).toArray }
  refine ⟨_, S₁.trans (q.trans q2), ?_⟩
  exact .tup (vs := (vs.toList.drop k).toArray) (n := 0) (Vw.put_self ..) (by simpa using (r.drop k).mono q2.mono)

theorem BO.addL {as bs : List D} (hz : as.length + bs.length ≤ 1000) : BO prog wd H0 A .Add (.lst as) (.lst bs) (.lst (as ++ bs)) := fun w s v₁ v₂ o r₁ r₂ => by
  obtain ⟨a, rfl⟩ := r₁.lstRef
  obtain ⟨b, rfl⟩ := r₂.lstRef
  obtain ⟨us, n, ha, hl, q⟩ := r₁.isList o.part
  obtain ⟨vs, m, hb, hl', q'⟩ := r₂.isList o.part
  have e : us.size = as.length := by rw [← q.length, Array.length_toList]
  have e' : vs.size = bs.length := by rw [← q'.length, Array.length_toList]
  refine concat_meets ⟨_, ha, rfl⟩ ⟨_, hb, rfl⟩ noFill_list_add seq_list_add PySem.F.slot_list_add PySem.F.entry_list_add (PySem.F.args_list_add_2 _ _) (list_addW a b us vs n m none none #[] #[] (by rw [e, e']; exact Nat.le_trans hz (by decide))) ⟨ha, hb, ?_⟩
  have S := Stp.push o { cls := .type "list", data := .seq (us ++ vs) }
  exact ⟨_, S, .lst (Vw.put_self ..) (by simpa using (q.append q').mono S.mono)⟩
theorem CF.lenL {ds : List D} (hz : ds.length ≤ 1000) : CF prog wd H0 A (.builtin "len") [.lst ds] (.int ds.length) := fun w s vs o r => by
  cases r with
  | cons r t =>
    cases t
    obtain ⟨a, rfl⟩ := r.lstRef
    obtain ⟨us, n, ha, hl, q⟩ := r.isList o.part
    have e : us.size = ds.length := by rw [← q.length, Array.length_toList]
    exact Calls.call_len_list hl (by omega) ⟨w, .quiet o (fun _ _ e => e) rfl rfl, by rw [e]; exact .int _ _⟩
theorem KV.length {kvs : List (Int × Value)} {l : List (Int × Int)} (h : KV kvs l) : kvs.length = l.length := by induction h with | nil => rfl | cons _ ih => simp [ih]
theorem CF.lenD {l : List (Int × Int)} (hz : l.length ≤ 1000) : CF prog wd H0 A (.builtin "len") [.dct l] (.int l.length) := fun w s vs o r => by
  cases r with
  | cons r t =>
    cases t
    obtain ⟨a, rfl⟩ := r.dctRef
    obtain ⟨kvs, lo, hD, q⟩ := r.dictOf o.part
    have e := q.length
    exact call_len_dict lo hD (by omega) ⟨w, .quiet o (fun _ _ e => e) rfl rfl, by rw [e]; exact .int _ _⟩
theorem RVs.ints {w : Vw} {vs : List Value} {is : List Int} (h : RVs prog wd w vs (is.map D.int)) : IntsAre vs is := by
  induction is generalizing vs with
  | nil => cases h; exact .nil
  | cons i is ih =>
    cases h with
    | cons h r => cases h; exact .cons _ _ (ih r)
theorem CF.sum {is : List Int} (hh : A.handled = none) : CF prog wd H0 A (.builtin "sum") [.lst (is.map D.int)] (.int is.sum) := fun w s vs o r => by
  cases r with
  | cons r t =>
    cases t
    obtain ⟨a, rfl⟩ := r.lstRef
    obtain ⟨us, n, ha, hl, q⟩ := r.isList o.part
    have hi := q.ints
    obtain ⟨xs, hx⟩ := hi.allInts.items
    have hx' : us = intItems xs := by rw [← hx]
    have hl' : s.heap.IsList a (intItems xs) := hx' ▸ hl
    refine sum_intListG hh hl' fun h' tk t' hk => ⟨w, .quiet o hk rfl rfl, ?_⟩
    have e1 : is = xs.toList.map (·.1) := by
      rw [← nums_intItems, ← hx]
      exact (show numsOf us.toList.toArray.toList = is from hi.numsOf).symm
    have e : preSum (numAt xs) xs.size = is.sum := by
      rw [preSum_eq, List.take_of_length_le (by simp), e1]
    rw [e]; exact .int _ _
theorem CF.min2 {a b : Int} (hh : A.handled = none) : CF prog wd H0 A (.builtin "min") [.int a, .int b] (.int (if b < a then b else a)) := fun w s vs o r => by
  cases r with
  | cons r t => cases t with
    | cons r' t => cases t; cases r; cases r'; exact min_two_ints hh fun h' tk hk => ⟨w, .quiet o hk rfl rfl, by split <;> exact .int _ _⟩
theorem CF.max2 {a b : Int} (hh : A.handled = none) : CF prog wd H0 A (.builtin "max") [.int a, .int b] (.int (if b > a then b else a)) := fun w s vs o r => by
  cases r with
  | cons r t => cases t with
    | cons r' t => cases t; cases r; cases r'; exact max_two_ints hh fun h' tk hk => ⟨w, .quiet o hk rfl rfl, by split <;> exact .int _ _⟩
end
end Mine
namespace Mine
open PySem PySem.Calls PyProof.Rows PySem.W
section
variable {prog : Program} {wd : World} {H0 : Heap} {A : Around} {env : Env} {loc : Loc}

/-- the call's keeper is known -/
def KP (prog : Program) (wd : World) (H0 : Heap) (f : Value) : Prop :=
  ∀ h : Heap, (∀ b o, H0.get? b = some o → h.get? b = some o) → ∃ k, (k = Keeper.frame ∨ k = Keeper.machine ∨ k = Keeper.boundFrame) ∧ Looks (model prog wd) h (keeperOf f) k
theorem KP.builtin (id : String) : KP prog wd H0 (.builtin id) := fun _ _ => ⟨.machine, .inr (.inl rfl), Looks.of_pure rfl⟩
theorem KP.type (id : String) : KP prog wd H0 (.type id) := fun _ _ => ⟨.machine, .inr (.inl rfl), Looks.of_pure rfl⟩
theorem KP.fn {a : Addr} {o : Obj} {fd : FuncData} (h : H0.get? a = some o) (hd : o.data = .func fd) : KP prog wd H0 (.ref a) := fun h' k =>
  ⟨.frame, .inl rfl, (Looks.ld (part := none) (k _ _ h)).andThen (by rw [hd]; exact .now)⟩

theorem callWith_ok {pos : Pos} {f : Value} {e : Expr} {rest : List Expr} {ds : List D} {d : D} (hk : KP prog wd H0 f) (ha : PEs prog wd H0 A env loc (e :: rest) ds) (hf : CF prog wd H0 A f ds d)
    (he : starEach (e :: rest) env = (false, eval e env) :: starEach rest env) (hplain : (backTo pos (starEach rest env)).any (·.1) = false) (w : Vw) (s : Shared) (o : Ok H0 w s) (V : View prog wd env loc w s.heap) :
    wpAny (model prog wd) A (callWith pos f [] (backTo pos (starEach (e :: rest) env)) []) (fun v s' => ∃ w', Stp w s w' s' ∧ RV prog wd w' v d) NoE s := by
  have hp := ha pos w s o V
  rw [he] at hp ⊢
  refine callWith_of (P := fun h => ∀ b o, H0.get? b = some o → h.get? b = some o) (by show ((false || (backTo pos (starEach rest env)).any (·.1)) || false) = false; rw [hplain]; rfl) hk (evalArgs_plain ?_)
  refine wpAny_mono hp (fun vs s₁ ⟨w₁, S₁, R₁⟩ => ⟨(S₁.ok o).base, ?_⟩) fun _ _ f => f
  exact wpAny_mono (hf w₁ s₁ vs (S₁.ok o) R₁) (fun v s₂ ⟨w₂, S₂, R₂⟩ => ⟨w₂, S₁.trans S₂, R₂⟩) fun _ _ f => f
theorem PE.call {x : Str} {f : Value} {e : Expr} {rest : List Expr} {ds : List D} {d : D} {p pos : Pos} (hn : GN prog wd H0 A env x f) (hk : KP prog wd H0 f) (ha : PEs prog wd H0 A env loc (e :: rest) ds) (hf : CF prog wd H0 A f ds d)
    (he : starEach (e :: rest) env = (false, eval e env) :: starEach rest env) (hplain : (backTo pos (starEach rest env)).any (·.1) = false)
    (hc : eval (.Call (.Name x p) (e :: rest) [] pos) env = (do callWith pos (← eval (.Name x p) env) [] (backTo pos (starEach (e :: rest) env)) (backToKw pos (keywordEach [] env)))) : PE prog wd H0 A env loc (.Call (.Name x p) (e :: rest) [] pos) d := fun w s o V =>
  Call_ (hn p s _ _ o.base (callWith_ok hk ha hf he hplain w s o V)) hc
end
end Mine
namespace Mine
open PySem PySem.Calls PyProof.Rows PySem.W
section
variable {prog : Program} {wd : World} {H0 : Heap} {A : Around} {env : Env} {loc : Loc}

/-- a step that may turn the objects at Mu -/
structure MS (Mu : Addr → Prop) (w : Vw) (s : Shared) (w' : Vw) (s' : Shared) : Prop where
  mono : Vle w w'
  part : ∀ b o, w' b = some o → s'.heap.get? b = some o
  fresh : ∀ b o, w' b = some o → w b = some o ∨ s.heap.get? b = none
  keep : ∀ b o, ¬ Mu b → s.heap.get? b = some o → s'.heap.get? b = some o
  live : ∀ b o, s.heap.get? b = some o → ∃ o', s'.heap.get? b = some o'
  os : s'.os = s.os
  gens : s'.gens = s.gens
theorem Stp.ms {Mu : Addr → Prop} {w w' : Vw} {s s' : Shared} (x : Stp w s w' s') : MS Mu w s w' s' :=
  ⟨x.mono, x.part, x.fresh, fun b o _ e => x.keep b o e, fun b o e => ⟨o, x.keep b o e⟩, x.os, x.gens⟩
theorem MS.refl {Mu : Addr → Prop} {w : Vw} {s : Shared} (h : ∀ b o, w b = some o → s.heap.get? b = some o) : MS Mu w s w s := ⟨.refl w, h, fun _ _ e => .inl e, fun _ _ _ e => e, fun _ o e => ⟨o, e⟩, rfl, rfl⟩
theorem MS.weaken {Mu Mu' : Addr → Prop} {w w' : Vw} {s s' : Shared} (x : MS Mu w s w' s') (h : ∀ b, Mu b → Mu' b) : MS Mu' w s w' s' :=
  ⟨x.mono, x.part, x.fresh, fun b o n e => x.keep b o (fun m => n (h b m)) e, x.live, x.os, x.gens⟩
theorem MS.trans {Mu : Addr → Prop} {w w' w'' : Vw} {s s' s'' : Shared} (x : MS Mu w s w' s') (y : MS Mu w' s' w'' s'') : MS Mu w s w'' s'' where
  mono := x.mono.trans y.mono
  part := y.part
  fresh := fun b o e => by
    rcases y.fresh b o e with h | h
    · exact x.fresh b o h
    · refine .inr ?_
      cases q : s.heap.get? b with
      | none => rfl
      | some o' =>
        obtain ⟨o₂, q₂⟩ := x.live b o' q
        rw [q₂] at h; cases h
  keep := fun b o n e => y.keep b o n (x.keep b o n e)
  live := fun b o e => let ⟨o₁, e₁⟩ := x.live b o e; y.live b o₁ e₁
  os := y.os.trans x.os
  gens := y.gens.trans x.gens
theorem MS.ok {Mu : Addr → Prop} {w w' : Vw} {s s' : Shared} (x : MS Mu w s w' s') (h : Ok H0 w s) (hm : ∀ b o, H0.get? b = some o → ¬ Mu b) : Ok H0 w' s' := ⟨fun b o e => x.keep b o (hm b o e) (h.base b o e), x.part⟩
/-- turned objects that are new, are no turned objects -/
theorem MS.stp {Mu : Addr → Prop} {w w' : Vw} {s s' : Shared} (x : MS Mu w s w' s') (h : ∀ b o, Mu b → s.heap.get? b = some o → False) : Stp w s w' s' :=
  ⟨x.mono, x.part, x.fresh, fun b o e => x.keep b o (fun m => h b o m e) e, x.os, x.gens⟩

/-- the frame's own objects that stores to N turn -/
def FrA (env : Env) (N : Str → Prop) (b : Addr) : Prop := b = env.locals ∨ ∃ x, N x ∧ env.kindOf x = some .cell ∧ env.cells.lookup x = some b
structure EnvOk (env : Env) (N : Str → Prop) : Prop where
  kind : env.scope.kind = .function
  inj : ∀ x y c, N x → env.kindOf x = some .cell → env.cells.lookup x = some c → env.cells.lookup y = some c → y = x
structure FS (H0 : Heap) (env : Env) (N : Str → Prop) (w : Vw) (h : Heap) : Prop where
  ns : ∃ m, h.Ns env.locals m
  wl : w env.locals = none
  hl : H0.get? env.locals = none
  cell : ∀ x, N x → env.kindOf x = some .cell → ∃ c, env.cells.lookup x = some c ∧ (∃ v, h.IsCell c v) ∧ w c = none ∧ H0.get? c = none
theorem FS.base {N : Str → Prop} {w : Vw} {h : Heap} (F : FS H0 env N w h) (b : Addr) (o : Obj) (e : H0.get? b = some o) : ¬ FrA env N b := by
  rintro (rfl | ⟨x, n, k, l⟩)
  · rw [F.hl] at e; cases e
  · obtain ⟨c, l', _, _, e'⟩ := F.cell x n k
    rw [l] at l'; cases l'
    rw [e'] at e; cases e
theorem FS.keeps {N : Str → Prop} {w w' : Vw} {s s' : Shared} {Mu : Addr → Prop} (F : FS H0 env N w s.heap) (x : MS Mu w s w' s') (hm : ∀ b, FrA env N b → ¬ Mu b) : FS H0 env N w' s'.heap := by
  have nv : ∀ b o, w b = none → s.heap.get? b = some o → w' b = none := fun b o hw e => by
    cases q : w' b with
    | none => rfl
    | some o' =>
      rcases x.fresh b o' q with h | h
      · rw [hw] at h; cases h
      · rw [e] at h; cases h
  obtain ⟨m, ns⟩ := F.ns
  obtain ⟨oL, es, ep, hL, rL⟩ := id ns
  refine ⟨⟨m, oL, es, ep, x.keep _ _ (hm _ (.inl rfl)) hL, rL⟩, nv _ _ F.wl hL, F.hl, fun y n k => ?_⟩
  obtain ⟨c, l, ⟨v, oc, hc, dc⟩, wc, hc0⟩ := F.cell y n k
  exact ⟨c, l, ⟨v, oc, x.keep _ _ (hm _ (.inr ⟨y, n, k, l⟩)) hc, dc⟩, nv _ _ wc hc, hc0⟩
theorem FS.stp {N : Str → Prop} {w w' : Vw} {s s' : Shared} (F : FS H0 env N w s.heap) (x : Stp w s w' s') : FS H0 env N w' s'.heap := F.keeps (x.ms (Mu := fun _ => False)) fun _ _ f => f

/-- a name's store -/
theorem Look.other {h h' : Heap} {L : Addr} {y : Str} {u : Value} {m m' : Str → Option Value} (e : env.locals = L) (Lk : Look env h y u) (hn : h.Ns L m) (hn' : h'.Ns L m') (hm : m' y = m y)
    (k : ∀ b o, b ≠ L → h.get? b = some o → h'.get? b = some o) : Look env h' y u := by
  rcases Lk with ⟨a, m₁, b, c⟩ | ⟨a, c, b, d⟩
  · refine .inl ⟨a, m', e ▸ hn', ?_⟩
    have : m₁ y = m y := by
      obtain ⟨o₁, es₁, ep₁, g₁, d₁, _, f₁⟩ := b
      obtain ⟨o₂, es₂, ep₂, g₂, d₂, _, f₂⟩ := hn
      rw [e] at g₁
      rw [g₁] at g₂; cases g₂
      rw [d₁] at d₂; cases d₂
      rw [← f₁ y, f₂ y]
    rw [hm, ← this, c]
  · refine .inr ⟨a, c, b, ?_⟩
    obtain ⟨oc, hc, dc⟩ := d
    refine ⟨oc, k c oc (fun q => ?_) hc, dc⟩
    obtain ⟨o₂, es₂, ep₂, g₂, d₂, _⟩ := hn
    rw [q, g₂] at hc; cases hc
    rw [d₂] at dc; cases dc

def Loc.set (loc : Loc) (x : Str) (d : D) : Loc := fun y => if y = x then some d else loc y

theorem store_ok {N : Str → Prop} {x : Str} {d : D} {w : Vw} {s : Shared} {v : Value} (hx : N x) (hkx : env.kindOf x = some .local ∨ env.kindOf x = some .cell) (EO : EnvOk env N)
    (o : Ok H0 w s) (F : FS H0 env N w s.heap) (V : View prog wd env loc w s.heap) (r : RV prog wd w v d) :
    wpAny (model prog wd) A (storeName env x v) (fun _ s' => MS (FrA env N) w s w s' ∧ FS H0 env N w s'.heap ∧ View prog wd env (loc.set x d) w s'.heap) NoE s := by
  obtain ⟨m, hns⟩ := F.ns
  rcases hkx with hkx | hkx
  · refine wpAny_storeName_local hkx hns (fun h' hn hs => ?_) (by rw [EO.kind]; rfl)
    have kp : ∀ b ob, b ≠ env.locals → s.heap.get? b = some ob → h'.get? b = some ob := fun b ob hb e => hs.extBut b ob hb e
    have M : MS (FrA env N) w s w { s with heap := h', toks := s.toks + 1 } := by
      refine ⟨.refl w, fun b ob e => kp b ob (fun q => ?_) (o.part b ob e), fun _ _ e => .inl e, fun b ob n e => kp b ob (fun q => n (.inl q)) e, fun b ob e => ?_, rfl, rfl⟩
      · rw [q, F.wl] at e; cases e
      · by_cases hb : b = env.locals
        · subst hb
          obtain ⟨o', _, _, e', _⟩ := hn
          exact ⟨o', e'⟩
        · exact ⟨ob, kp b ob hb e⟩
    refine ⟨M, ⟨⟨_, hn⟩, F.wl, F.hl, fun y n k => ?_⟩, fun y dy ey => ?_⟩
    · obtain ⟨c, l, ⟨u, oc, hc, dc⟩, wc, h0⟩ := F.cell y n k
      refine ⟨c, l, ⟨u, oc, kp c oc (fun q => ?_) hc, dc⟩, wc, h0⟩
      obtain ⟨o₂, es₂, ep₂, g₂, d₂, _⟩ := hns
      rw [q, g₂] at hc; cases hc
      rw [d₂] at dc; cases dc
    · unfold Loc.set at ey
      by_cases hy : y = x
      · subst hy
        rw [if_pos rfl] at ey; cases ey
        exact ⟨v, .inl ⟨hkx, _, hn, by simp⟩, r⟩
      · rw [if_neg hy] at ey
        obtain ⟨u, Lk, ru⟩ := V y dy ey
        exact ⟨u, Lk.other rfl hns hn (by simp [hy]) kp, ru⟩
  · obtain ⟨c, l, ⟨v₀, hc⟩, wc, h0⟩ := F.cell x hx hkx
    refine wpAny_storeName_cell EO.kind hkx l hc fun h' hv hs => ?_
    have kp : ∀ b ob, b ≠ c → s.heap.get? b = some ob → h'.get? b = some ob := fun b ob hb e => hs.extBut b ob hb e
    have hLc : env.locals ≠ c := by
      obtain ⟨oc, gc, dc⟩ := hc
      obtain ⟨o₂, es₂, ep₂, g₂, d₂, _⟩ := id hns
      intro q
      rw [← q, g₂] at gc; cases gc
      rw [d₂] at dc; cases dc
    have hn' : h'.Ns env.locals m := let ⟨o₂, es₂, ep₂, g₂, r₂⟩ := hns; ⟨o₂, es₂, ep₂, kp _ _ hLc g₂, r₂⟩
    have M : MS (FrA env N) w s w { s with heap := h' } := by
      refine ⟨.refl w, fun b ob e => kp b ob (fun q => ?_) (o.part b ob e), fun _ _ e => .inl e, fun b ob n e => kp b ob (fun q => n (.inr ⟨x, hx, hkx, q ▸ l⟩)) e, fun b ob e => ?_, rfl, rfl⟩
      · rw [q, wc] at e; cases e
      · by_cases hb : b = c
        · subst hb
          obtain ⟨o', e', _⟩ := hv
          exact ⟨o', e'⟩
        · exact ⟨ob, kp b ob hb e⟩
    refine ⟨M, ⟨⟨_, hn'⟩, F.wl, F.hl, fun y n k => ?_⟩, fun y dy ey => ?_⟩
    · obtain ⟨c', l', ⟨u, oc, hc', dc⟩, wc', h0'⟩ := F.cell y n k
      by_cases q : c' = c
      · subst q; exact ⟨c', l', ⟨_, hv⟩, wc', h0'⟩
      · exact ⟨c', l', ⟨u, oc, kp c' oc q hc', dc⟩, wc', h0'⟩
    · unfold Loc.set at ey
      by_cases hy : y = x
      · subst hy
        rw [if_pos rfl] at ey; cases ey
        exact ⟨v, .inr ⟨.inl hkx, c, l, hv⟩, r⟩
      · rw [if_neg hy] at ey
        obtain ⟨u, Lk, ru⟩ := V y dy ey
        refine ⟨u, ?_, ru⟩
        rcases Lk with ⟨a, m₁, b₁, c₁⟩ | ⟨a, c₁, b₁, d₁⟩
        · exact .inl ⟨a, m₁, (let ⟨o₂, es₂, ep₂, g₂, r₂⟩ := b₁; ⟨o₂, es₂, ep₂, kp _ _ hLc g₂, r₂⟩), c₁⟩
        · refine .inr ⟨a, c₁, b₁, ?_⟩
          obtain ⟨oc, hc₁, dc⟩ := d₁
          exact ⟨oc, kp c₁ oc (fun q => hy (EO.inj x y c hx hkx l (q ▸ b₁))) hc₁, dc⟩

/-- a target takes a datum -/
def BT (prog : Program) (wd : World) (H0 : Heap) (A : Around) (env : Env) (N : Str → Prop) (loc : Loc) (t : Expr) (d : D) (loc' : Loc) : Prop :=
  ∀ (w : Vw) (s : Shared) (v : Value), Ok H0 w s → FS H0 env N w s.heap → View prog wd env loc w s.heap → RV prog wd w v d →
    wpAny (model prog wd) A (assign t env v) (fun _ s' => ∃ w', MS (FrA env N) w s w' s' ∧ FS H0 env N w' s'.heap ∧ View prog wd env loc' w' s'.heap) NoE s
def BTs (prog : Program) (wd : World) (H0 : Heap) (A : Around) (env : Env) (N : Str → Prop) (loc : Loc) (ts : List Expr) (ds : List D) (loc' : Loc) : Prop :=
  ∀ (w : Vw) (s : Shared) (vs : List Value), Ok H0 w s → FS H0 env N w s.heap → View prog wd env loc w s.heap → RVs prog wd w vs ds →
    wpAny (model prog wd) A (assignInOrder ((assignEach ts env).map (·.2)) vs) (fun _ s' => ∃ w', MS (FrA env N) w s w' s' ∧ FS H0 env N w' s'.heap ∧ View prog wd env loc' w' s'.heap) NoE s
theorem BT.name {N : Str → Prop} {x : Str} {pos : Pos} {d : D} (EO : EnvOk env N) (hx : N x) (hkx : env.kindOf x = some .local ∨ env.kindOf x = some .cell) : BT prog wd H0 A env N loc (.Name x pos) d (loc.set x d) := fun w s _ o F V r =>
  PySem.wpAny_assign_Name (wpAny_mono (store_ok hx hkx EO o F V r) (fun _ _ ⟨M, F', V'⟩ => ⟨w, M, F', V'⟩) fun _ _ f => f)
theorem BTs.nil {N : Str → Prop} : BTs prog wd H0 A env N loc [] [] loc := fun w s vs o F V r => by
  cases r
  rw [arm_assignEach_nil]
  exact assignInOrder_nil ⟨w, .refl o.part, F, V⟩
theorem BTs.cons {N : Str → Prop} {t : Expr} {ts : List Expr} {d : D} {ds : List D} {loc₁ loc₂ : Loc} (h : BT prog wd H0 A env N loc t d loc₁) (k : BTs prog wd H0 A env N loc₁ ts ds loc₂)
    (hs : assignEach (t :: ts) env = (false, assign t env) :: assignEach ts env) : BTs prog wd H0 A env N loc (t :: ts) (d :: ds) loc₂ := fun w s vs o F V r => by
  cases r with
  | cons r rs =>
    rw [hs]
    refine assignInOrder_cons (wpAny_mono (h w s _ o F V r) (fun _ s₁ ⟨w₁, M₁, F₁, V₁⟩ => ?_) fun _ _ f => f)
    refine wpAny_mono (k w₁ s₁ _ (M₁.ok o F.base) F₁ V₁ (rs.mono M₁.mono)) (fun _ s₂ ⟨w₂, M₂, F₂, V₂⟩ => ?_) fun _ _ f => f
    exact ⟨w₂, M₁.trans M₂, F₂, V₂⟩
theorem BT.tup {N : Str → Prop} {ts : List Expr} {k : Nat} {pos : Pos} {ds : List D} {loc' : Loc} (hh : A.handled = none) (h : BTs prog wd H0 A env N loc ts ds loc') (hn : (assignEach ts env).length = ds.length)
    (hstar : (assignEach ts env).findIdx? (·.1) = none) : BT prog wd H0 A env N loc (.Tuple ts k pos) (.tup ds) loc' := fun w s v o F V r => by
  obtain ⟨a, rfl⟩ := r.tupRef
  obtain ⟨vs, n, ha, ht, rs⟩ := r.isTup o.part
  have e : vs.size = ds.length := by rw [← rs.length, Array.length_toList]
  refine assign_Tuple_tuple hh ht (by rw [e]; exact hn) hstar fun h' he => ?_
  have S : Stp w s w { s with heap := h' } := .quiet o (fun b ob q => he b ob (Nat.ne_of_lt (Heap.lt_size q)) q) rfl rfl
  refine wpAny_mono (h w _ _ (S.ok o) (F.stp S) (V.step S) rs) (fun _ s₂ ⟨w₂, M₂, F₂, V₂⟩ => ?_) fun _ _ f => f
  exact ⟨w₂, S.ms.trans M₂, F₂, V₂⟩
end
end Mine
namespace Mine
open PySem PySem.Calls PyProof.Rows PySem.W
section
variable {prog : Program} {wd : World} {H0 : Heap} {A : Around} {env : Env} {loc : Loc}

/-- a quiet object: no frame, no cell, no list -/
def Quiet (h : Heap) (I : Addr) : Prop := ∃ o fs, h.get? I = some o ∧ o.data = .fields fs
/-- an iterator over data; wr: the objects that it turns -/
structure Iter (prog : Program) (wd : World) (H0 : Heap) (A : Around) (t : Expr) (I : Addr) (wr : Addr → Prop) (fp : List Addr) (xs : List D) (St : Nat → Vw → Heap → Prop) (Mid : Nat → Value → Vw → Heap → Prop) : Prop where
  frame : ∀ i w w' h h', St i w h → Vle w w' → (∀ a, wr a → w' a = none) → (∀ b ∈ fp, ∀ o, h.get? b = some o → h'.get? b = some o) → St i w' h'
  vis : ∀ i w h, St i w h → ∀ a, wr a → w a = none ∧ Quiet h a
  visM : ∀ i v w h, Mid i v w h → ∀ a, wr a → w a = none ∧ Quiet h a
  wrfp : ∀ a, wr a → a ∈ fp
  base : ∀ a, wr a → H0.get? a = none
  item : ∀ i w (s : Shared), i < xs.length → Ok H0 w s → St i w s.heap →
    wpAny (model prog wd) A (pyNext (.ref I)) (fun r s' => ∃ v d w', r = some v ∧ xs[i]? = some d ∧ RV prog wd w' v d ∧ MS wr w s w' s' ∧ Mid i v w' s'.heap) NoE s
  done : ∀ w (s : Shared), Ok H0 w s → St xs.length w s.heap → wpAny (model prog wd) A (pyNext (.ref I)) (fun r s' => r = none ∧ (∀ b o, ¬ wr b → s.heap.get? b = some o → s'.heap.get? b = some o) ∧ s'.os = s.os ∧ s'.gens = s.gens) NoE s
  own : ∀ i w (s : Shared) v d, Ok H0 w s → Mid i v w s.heap → RV prog wd w v d →
    wpAny (model prog wd) A (letOwnedTupleGo t (.ref I) v) (fun _ s' => ∃ w', MS wr w s w' s' ∧ St (i + 1) w' s'.heap) NoE s
  self : ∀ i w (s : Shared) (Q : Value → Shared → Prop), St i w s.heap → Q (.ref I) s → wpAny (model prog wd) A (pyIter (.ref I)) Q NoE s

/-- what is iterated, as data -/
def ITE (prog : Program) (wd : World) (H0 : Heap) (A : Around) (env : Env) (loc : Loc) (t iter : Expr) (xs : List D) : Prop :=
  ∀ (w : Vw) (s : Shared), Ok H0 w s → View prog wd env loc w s.heap →
    wpAny (model prog wd) A (eval iter env) (fun x s₁ => wpAny (model prog wd) A (pyIter x) (fun it s₂ => ∃ w₂ I wr fp St Mid, it = .ref I ∧ Iter prog wd H0 A t I wr fp xs St Mid ∧ St 0 w₂ s₂.heap ∧ Stp w s w₂ s₂ ∧
      (∀ b ∈ fp, (w₂ b ≠ none ∨ s.heap.get? b = none) ∧ ∃ o, s₂.heap.get? b = some o) ∧ ∀ a, wr a → s.heap.get? a = none) NoE s₁) NoE s

theorem letOwned_other {M : Model} {s : Shared} {t : Expr} {I : Addr} {v : Value} {o : Obj} {Q : Unit → Shared → Prop} {E : Value → Shared → Prop} (ho : s.heap.get? I = some o)
    (hn : (match o.cls with | .type n => (["enumerate", "zip", "dict_itemiterator", "dict_reverseitemiterator", "odict_iterator", "itertools.zip_longest", "itertools.pairwise"] : List String).contains n | _ => false) = false) (h : Q () s) :
    wpAny M A (letOwnedTupleGo t (.ref I) v) Q E s := by
  have key : ∀ a : Addr, wpAny M A (do
      let o ← load I
      match o.cls, o.data with
      | .type n, .fields vs =>
        if (["enumerate", "zip", "dict_itemiterator", "dict_reverseitemiterator", "odict_iterator", "itertools.zip_longest", "itertools.pairwise"] : List String).contains n && vs[0]? == some (rawInt a) then
          rule "for.unpacks-the-owned-tuple"
          updateField I 0 .none
      | _, _ => pure () : Sem Unit) Q E s := by
    intro a
    refine wpAny_bind (wpAny_load ho ?_)
    split
    · rename_i n vs e1 e2
      rw [e1] at hn
      dsimp only at hn
      rw [hn]
      exact wpAny_pure h
    · exact wpAny_pure h
  unfold letOwnedTupleGo
  split
  · cases v <;> first | exact wpAny_pure h | exact key _
  · cases v <;> first | exact wpAny_pure h | exact key _
  · exact wpAny_pure h

/-- the library's walks, as iterators -/
theorem Iter.ofWalks {t : Expr} {I : Addr} {fp : List Addr} {xs : List D} {P : Nat → Value → Prop} {WS : Nat → Heap → Prop} (W : Walks prog wd A I fp [I] xs.length P WS) (hI : I ∈ fp) (h0 : H0.get? I = none) (w₀ : Vw)
    (hob : ∀ i h, WS i h → ∃ o, h.get? I = some o ∧ (match o.cls with | .type n => (["enumerate", "zip", "dict_itemiterator", "dict_reverseitemiterator", "odict_iterator", "itertools.zip_longest", "itertools.pairwise"] : List String).contains n | _ => false) = false ∧ ∃ fs, o.data = .fields fs)
    (hP : ∀ i v, P i v → i < xs.length → ∃ d, xs[i]? = some d ∧ RV prog wd w₀ v d) : Iter prog wd H0 A t I (· = I) fp xs (fun i w h => WS i h ∧ w I = none ∧ Vle w₀ w) (fun i _ w h => WS (i + 1) h ∧ w I = none ∧ Vle w₀ w) where
  frame := fun i w w' h h' st hw hv hk => ⟨W.frame i h h' st.1 hk, hv I rfl, st.2.2.trans hw⟩
  vis := fun i w h st a e => by subst e; exact ⟨st.2.1, let ⟨o, ho, _, fs, hf⟩ := hob i h st.1; ⟨o, fs, ho, hf⟩⟩
  visM := fun i v w h st a e => by subst e; exact ⟨st.2.1, let ⟨o, ho, _, fs, hf⟩ := hob _ h st.1; ⟨o, fs, ho, hf⟩⟩
  wrfp := fun a e => e ▸ hI
  base := fun a e => e ▸ h0
  item := fun i w s hi o st => W.item i s _ _ hi st.1 fun v h' tk hp st' hk => by
    obtain ⟨d, hd, r⟩ := hP i v hp hi
    have M : MS (· = I) w s w { s with heap := h', toks := tk } := by
      refine ⟨.refl w, fun b ob e => hk b ob (fun q => ?_) (o.part b ob e), fun _ _ e => .inl e, fun b ob n e => hk b ob (fun q => n (List.mem_singleton.mp q)) e, fun b ob e => ?_, rfl, rfl⟩
      · rw [List.mem_singleton.mp q, st.2.1] at e; cases e
      · by_cases hb : b = I
        · subst hb; obtain ⟨o', ho', _⟩ := hob _ _ st'; exact ⟨o', ho'⟩
        · exact ⟨ob, hk b ob (fun q => hb (List.mem_singleton.mp q)) e⟩
    exact ⟨v, d, w, rfl, hd, r.mono st.2.2, M, st', st.2.1, st.2.2⟩
  done := fun w s o st => W.done s _ _ st.1 fun h' tk hk => ⟨rfl, fun b ob n e => hk b ob (fun q => n (List.mem_singleton.mp q)) e, rfl, rfl⟩
  own := fun i w s v d o st r => by
    obtain ⟨ob, ho, hn, _⟩ := hob _ _ st.1
    exact letOwned_other ho hn ⟨w, .refl o.part, st⟩
  self := fun i w s Q st h => W.self i s _ _ st.1 h

theorem keep_fresh {s : Shared} {o : Obj} {b : Addr} {ob : Obj} (e : s.heap.get? b = some ob) : (s.heap.push o).get? b = some ob := Heap.get?_push_of_some _ e
theorem H0_fresh {w : Vw} {s : Shared} (o : Ok H0 w s) {a : Addr} (h : s.heap.get? a = none) : H0.get? a = none := by
  cases q : H0.get? a with
  | none => rfl
  | some x => rw [o.base a x q] at h; cases h
theorem w_fresh {w : Vw} {s : Shared} (o : Ok H0 w s) {a : Addr} (h : s.heap.get? a = none) : w a = none := by
  cases q : w a with
  | none => rfl
  | some x => rw [o.part a x q] at h; cases h

theorem ITE.list {t iter : Expr} {xs : List D} (hh : A.handled = none) (h : PE prog wd H0 A env loc iter (.lst xs)) : ITE prog wd H0 A env loc t iter xs := fun w s o V => by
  refine wpAny_mono (h w s o V) (fun v s₁ ⟨w₁, S₁, R₁⟩ => ?_) fun _ _ f => f
  obtain ⟨a, rfl⟩ := R₁.lstRef
  have o₁ := S₁.ok o
  obtain ⟨vs, n, ha, hl, r⟩ := R₁.isList o₁.part
  refine wpAny_pyIter_list hl ?_
  have hne : a ≠ s₁.heap.objs.size := Nat.ne_of_lt (Heap.lt_size ha)
  have e : vs.size = xs.length := by rw [← r.length, Array.length_toList]
  have W := Walks.list (prog := prog) (w := wd) hh s₁.heap.objs.size a hne vs
  rw [e] at W
  have fr := fresh_size s₁.heap
  have S₂ : Stp w₁ s₁ w₁ { s₁ with heap := s₁.heap.push { cls := .type "list_iterator", data := .fields #[.ref a, .int 0 0] } } := .quiet o₁ (fun _ _ e => Heap.get?_push_of_some _ e) rfl rfl
  have fr0 : s.heap.get? s₁.heap.objs.size = none := by
    cases q : s.heap.get? s₁.heap.objs.size with
    | none => rfl
    | some x => rw [S₁.keep _ _ q] at fr; cases fr
  have wa : w₁ a ≠ none := by
    cases R₁ with
    | lst h _ => rw [h]; simp
  refine ⟨w₁, s₁.heap.objs.size, _, [s₁.heap.objs.size, a], _, _, rfl, Iter.ofWalks W (by simp) (H0_fresh o₁ fr) w₁ (fun i h st => ?_) (fun i v hp _ => ?_), ⟨⟨⟨_, Heap.get?_push_size _ rfl, rfl, rfl⟩, hl.push _⟩, w_fresh o₁ fr, .refl _⟩, S₁.trans S₂, fun b hb => ?_, fun a e => e ▸ fr0⟩
  · obtain ⟨⟨ob, ho, hc, hd⟩, _⟩ := st
    exact ⟨ob, ho, by rw [hc]; decide, _, hd⟩
  · exact r.get (by simpa using hp)
  · rcases List.mem_cons.mp hb with rfl | hb
    · exact ⟨.inr fr0, _, Heap.get?_push_size _ rfl⟩
    · rw [List.mem_singleton.mp hb]; exact ⟨.inl wa, _, Heap.get?_push_of_some _ ha⟩

/-- the state within a comprehension -/
structure CSt (prog : Program) (wd : World) (H0 : Heap) (env : Env) (N : Str → Prop) (acc : Addr) (w : Vw) (loc : Loc) (os : List D) (s : Shared) : Prop where
  ok : Ok H0 w s
  fs : FS H0 env N w s.heap
  view : View prog wd env loc w s.heap
  lst : ∃ vs n, s.heap.get? acc = some ({ cls := .type "list", data := .seq vs n } : Obj) ∧ RVs prog wd w vs.toList os
  wa : w acc = none
  ha : H0.get? acc = none
def MuC (env : Env) (N : Str → Prop) (acc : Addr) (b : Addr) : Prop := FrA env N b ∨ b = acc
theorem FrA.notAcc {N : Str → Prop} {acc : Addr} {w : Vw} {os : List D} {s : Shared} (c : CSt prog wd H0 env N acc w loc os s) : ¬ FrA env N acc := by
  obtain ⟨vs, n, e, _⟩ := c.lst
  rintro (q | ⟨x, nx, k, l⟩)
  · obtain ⟨m, o, es, ep, g, d, _⟩ := c.fs.ns
    rw [← q, e] at g; cases g; cases d
  · obtain ⟨a, l', ⟨v, oc, g, d⟩, _⟩ := c.fs.cell x nx k
    rw [l] at l'; cases l'
    rw [e] at g; cases g; cases d
/-- a body of a comprehension: it adds outs -/
def CB (prog : Program) (wd : World) (H0 : Heap) (A : Around) (env : Env) (N : Str → Prop) (loc : Loc) (t : Value → Sem Unit) (outs : List D) : Prop :=
  ∀ acc w os s, os.length + outs.length ≤ 100000 → CSt prog wd H0 env N acc w loc os s → wpAny (model prog wd) A (t (.ref acc)) (fun _ s' => ∃ w', MS (MuC env N acc) w s w' s' ∧ CSt prog wd H0 env N acc w' loc (os ++ outs) s') NoE s
theorem CSt.stp {N : Str → Prop} {acc : Addr} {w w' : Vw} {os : List D} {s s' : Shared} (c : CSt prog wd H0 env N acc w loc os s) (S : Stp w s w' s') : CSt prog wd H0 env N acc w' loc os s' := by
  obtain ⟨vs, n, e, r⟩ := c.lst
  refine ⟨S.ok c.ok, c.fs.stp S, c.view.step S, ⟨vs, n, S.keep _ _ e, r.mono S.mono⟩, ?_, c.ha⟩
  cases q : w' acc with
  | none => rfl
  | some x =>
    rcases S.fresh _ _ q with h | h
    · rw [c.wa] at h; cases h
    · rw [e] at h; cases h
theorem CSt.weak {N : Str → Prop} {acc : Addr} {w : Vw} {os : List D} {s : Shared} {loc' : Loc} (c : CSt prog wd H0 env N acc w loc os s) (h : ∀ x d, loc' x = some d → loc x = some d) : CSt prog wd H0 env N acc w loc' os s :=
  ⟨c.ok, c.fs, fun x d e => c.view x d (h x d e), c.lst, c.wa, c.ha⟩
theorem CSt.add {N : Str → Prop} {acc : Addr} {w : Vw} {os : List D} {s : Shared} {v : Value} {d : D} {h' : Heap} {n' : Nat} {vs : Array Value} (c : CSt prog wd H0 env N acc w loc os s) (r : RV prog wd w v d)
    (hv : RVs prog wd w vs.toList os) (e' : h'.get? acc = some ({ cls := .type "list", data := .seq (vs.push v) n' } : Obj)) (hs : Heap.SameBut acc s.heap h') :
    MS (MuC env N acc) w s w { s with heap := h' } ∧ CSt prog wd H0 env N acc w loc (os ++ [d]) { s with heap := h' } := by
  have kp : ∀ b ob, b ≠ acc → s.heap.get? b = some ob → h'.get? b = some ob := fun b ob hb e => hs.extBut b ob hb e
  have M : MS (· = acc) w s w { s with heap := h' } := by
    refine ⟨.refl w, fun b ob e => kp b ob (fun q => ?_) (c.ok.part b ob e), fun _ _ e => .inl e, fun b ob n e => kp b ob n e, fun b ob e => ?_, rfl, rfl⟩
    · rw [q, c.wa] at e; cases e
    · by_cases hb : b = acc
      · subst hb; exact ⟨_, e'⟩
      · exact ⟨ob, kp b ob hb e⟩
  have hn := FrA.notAcc c
  refine ⟨M.weaken fun b q => .inr q, M.ok c.ok fun b o e q => ?_, c.fs.keeps M fun b q q' => hn (q' ▸ q), fun x dx ex => ?_, ⟨vs.push v, n', e', by simpa using hv.append (.cons r .nil)⟩, c.wa, c.ha⟩
  · rw [q, c.ha] at e; cases e
  · obtain ⟨u, L, ru⟩ := c.view x dx ex
    obtain ⟨vs₀, n₀, e₀, _⟩ := c.lst
    refine ⟨u, ?_, ru⟩
    rcases L with ⟨a, m, ⟨o₂, es, ep, g, d₂, r₂⟩, c₁⟩ | ⟨a, c₁, b₁, oc, hc, dc⟩
    · exact .inl ⟨a, m, ⟨o₂, es, ep, kp _ _ (fun q => by rw [q, e₀] at g; cases g; cases d₂) g, d₂, r₂⟩, c₁⟩
    · exact .inr ⟨a, c₁, b₁, oc, kp _ _ (fun q => by rw [q, e₀] at hc; cases hc; cases dc) hc, dc⟩
/-- the last body: an element -/
theorem CB.elt {N : Str → Prop} {elt : Expr} {d : D} (h : PE prog wd H0 A env loc elt d) :
    CB prog wd H0 A env N loc (fun acc => do let _ ← call (.builtin "list.append") [acc, ← eval elt env]) [d] := fun acc w os s hz c => by
  show wpAny _ _ (eval elt env >>= fun x => call (.builtin "list.append") [.ref acc, x] >>= fun _ => pure ()) _ _ _
  refine wpAny_bind (wpAny_mono (h w s c.ok c.view) (fun v s₁ ⟨w₁, S₁, R₁⟩ => ?_) fun _ _ f => f)
  have c₁ := c.stp S₁
  obtain ⟨vs, n, e, r⟩ := c₁.lst
  refine wpAny_bind (wpAny_list_append_plain (items := vs) ⟨n, e⟩ (fun h' hp hs => ?_) (by
    have : vs.size = os.length := by rw [← r.length, Array.length_toList]
    rw [this]; simp only [List.length_cons, List.length_nil] at hz; rw [sizeLine_eq]; omega))
  obtain ⟨n', e'⟩ := hp
  obtain ⟨M, c₂⟩ := c₁.add R₁ r e' hs
  exact wpAny_pure ⟨w₁, S₁.ms.trans M, c₂⟩
end
end Mine
namespace Mine
open PySem PySem.Calls PyProof.Rows PySem.W
section
variable {prog : Program} {wd : World} {H0 : Heap} {A : Around} {env : Env} {loc : Loc}

theorem Quiet.locals {s : Shared} {I : Addr} {N : Str → Prop} {w : Vw} (q : Quiet s.heap I) (F : FS H0 env N w s.heap) : ¬ FrA env N I := by
  obtain ⟨o, fs, e, d⟩ := q
  rintro (rfl | ⟨x, n, k, l⟩)
  · obtain ⟨m, o', es, ep, g, d', _⟩ := F.ns
    rw [e] at g; cases g; rw [d] at d'; cases d'
  · obtain ⟨c, l', ⟨v, oc, g, d'⟩, _⟩ := F.cell x n k
    rw [l] at l'; cases l'
    rw [e] at g; cases g; rw [d] at d'; cases d'
theorem View.quiet {s s' : Shared} {wr : Addr → Prop} {w w' : Vw} (V : View prog wd env loc w s.heap) (q : ∀ a, wr a → Quiet s.heap a) (M : MS wr w s w' s') : View prog wd env loc w' s'.heap := fun x d e => by
  obtain ⟨u, L, r⟩ := V x d e
  refine ⟨u, ?_, r.mono M.mono⟩
  rcases L with ⟨a, m, ⟨o₂, es, ep, g, d₂, r₂⟩, c₁⟩ | ⟨a, c₁, b₁, oc, hc, dc⟩
  · exact .inl ⟨a, m, ⟨o₂, es, ep, M.keep _ _ (fun k => by obtain ⟨o, fs, ho, hd⟩ := q _ k; rw [ho] at g; cases g; rw [hd] at d₂; cases d₂) g, d₂, r₂⟩, c₁⟩
  · exact .inr ⟨a, c₁, b₁, oc, M.keep _ _ (fun k => by obtain ⟨o, fs, ho, hd⟩ := q _ k; rw [ho] at hc; cases hc; rw [hd] at dc; cases dc) hc, dc⟩
theorem MS.hidden {Mu : Addr → Prop} {w w' : Vw} {s s' : Shared} (M : MS Mu w s w' s') {a : Addr} {o : Obj} (hw : w a = none) (e : s.heap.get? a = some o) : w' a = none := by
  cases q : w' a with
  | none => rfl
  | some x =>
    rcases M.fresh _ _ q with h | h
    · rw [hw] at h; cases h
    · rw [e] at h; cases h
theorem CSt.quiet {N : Str → Prop} {acc : Addr} {w w' : Vw} {os : List D} {s s' : Shared} {wr : Addr → Prop} (c : CSt prog wd H0 env N acc w loc os s) (q : ∀ a, wr a → Quiet s.heap a) (h0 : ∀ a, wr a → H0.get? a = none) (M : MS wr w s w' s') : CSt prog wd H0 env N acc w' loc os s' := by
  obtain ⟨vs, n, e, r⟩ := c.lst
  refine ⟨M.ok c.ok fun b o e k => ?_, c.fs.keeps M fun b f k => (q b k).locals c.fs f, c.view.quiet q M, ⟨vs, n, M.keep _ _ (fun k => ?_) e, r.mono M.mono⟩, M.hidden c.wa e, c.ha⟩
  · rw [h0 b k] at e; cases e
  · obtain ⟨o, fs, ho, hd⟩ := q _ k
    rw [ho] at e; cases e; cases hd
theorem CSt.fra {N : Str → Prop} {acc : Addr} {w w' : Vw} {os : List D} {s s' : Shared} {loc' : Loc} (c : CSt prog wd H0 env N acc w loc os s) (M : MS (FrA env N) w s w' s') (F : FS H0 env N w' s'.heap) (V : View prog wd env loc' w' s'.heap) : CSt prog wd H0 env N acc w' loc' os s' := by
  obtain ⟨vs, n, e, r⟩ := c.lst
  exact ⟨M.ok c.ok c.fs.base, F, V, ⟨vs, n, M.keep _ _ (FrA.notAcc c) e, r.mono M.mono⟩, M.hidden c.wa e, c.ha⟩

/-- the tests of a for in a comprehension -/
def IFS (prog : Program) (wd : World) (H0 : Heap) (A : Around) (env : Env) (loc : Loc) (ifs : List Expr) (b : Bool) : Prop :=
  ∀ (w : Vw) (s : Shared), Ok H0 w s → View prog wd env loc w s.heap →
    wpAny (model prog wd) A (forIn ifs true fun c r => if r = true then do let ok ← PySem.isTrue c env (eval c env); pure (ForInStep.yield ok) else pure (ForInStep.yield r)) (fun r s' => ∃ w', Stp w s w' s' ∧ r = b) NoE s
theorem IFS.nil : IFS prog wd H0 A env loc [] true := fun w s o _ => by
  rw [List.forIn_nil]
  exact wpAny_pure ⟨w, .refl o, rfl⟩
theorem IFS.one {c : Expr} {b : Bool} (h : PT prog wd H0 A env loc c b) : IFS prog wd H0 A env loc [c] b := fun w s o V => by
  rw [List.forIn_cons]
  refine wpAny_bind ?_
  simp only [if_true]
  refine wpAny_bind (wpAny_mono (h w s o V) (fun r s₁ ⟨w₁, S₁, e⟩ => ?_) fun _ _ f => f)
  refine wpAny_pure ?_
  show wpAny _ _ (forIn [] r _) _ _ _
  rw [List.forIn_nil]
  exact wpAny_pure ⟨w₁, S₁, e⟩

/-- what follows the tests -/
def bodyT (elt : Expr) (gens : List Comprehension) (scope : Scope) (pos : Pos) (k : Nat) (env : Env) (acc : Value) : Sem Unit :=
  match gens[k + 1]? with
  | some g' => do
    let x ← eval g'.iter env
    standAt g'.iter.pos
    let x ← foldedSetIterable g'.iter env x
    let it ← holding [x] (pyIter x)
    let _ ← runOwn (.compStart (.ListComp elt gens scope pos) (k + 1) it acc env) env
    pure ()
  | none => do let _ ← call (.builtin "list.append") [acc, ← eval elt env]

theorem comp_turn {elt : Expr} {gens : List Comprehension} {scope : Scope} {pos : Pos} {k : Nat} {it acc : Value} {g : Comprehension} {Q : PySem.Fin → Shared → Prop} {E : Value → Shared → Prop} {s : Shared}
    (hg : gens[k]? = some g) (ha : g.is_async = 0) (ha' : ∀ g', gens[k + 1]? = some g' → g'.is_async = 0)
    (h : wpAny (model prog wd) A (pyNext it) (fun r s₁ => match r with
      | none => Q (.done .next) s₁
      | some v => wpAny (model prog wd) A (letOwnedTupleGo g.target it v) (fun _ s₂ => wpAny (model prog wd) A (assign g.target env v) (fun _ s₃ =>
          wpAny (model prog wd) A (forIn g.ifs true fun c r => if r = true then do let ok ← PySem.isTrue c env (eval c env); pure (ForInStep.yield ok) else pure (ForInStep.yield r)) (fun b s₄ =>
            if b = true then wpAny (model prog wd) A (bodyT elt gens scope pos k env acc) (fun _ s₅ => Q (.again (.compLoop (.ListComp elt gens scope pos) k it acc env)) s₅) E s₄
            else Q (.again (.compLoop (.ListComp elt gens scope pos) k it acc env)) s₄) E s₃) E s₂) E s₁) E s) :
    wpAny (model prog wd) A (compTurn (.ListComp elt gens scope pos) k it acc env) Q E s := by
  unfold compTurn
  simp only [hg]
  rw [ha]
  refine wpAny_bind (wpAny_standAt ?_)
  rw [if_neg (by decide)]
  refine wpAny_bind (wpAny_mono h (fun r s₁ h₁ => ?_) fun _ _ e => e)
  cases r with
  | none => exact wpAny_pure h₁
  | some v =>
    refine wpAny_bind (wpAny_mono h₁ (fun _ s₂ h₂ => wpAny_bind (wpAny_mono h₂ (fun _ s₃ h₃ => wpAny_bind (wpAny_mono h₃ (fun b s₄ h₄ => ?_) fun _ _ e => e)) fun _ _ e => e)) fun _ _ e => e)
    cases b with
    | false => exact wpAny_pure h₄
    | true =>
      simp only [if_true] at h₄ ⊢
      have e2 : ∀ {t : Sem Unit} {K : PySem.Fin}, wpAny (model prog wd) A t (fun _ s₅ => Q K s₅) E s₄ → wpAny (model prog wd) A (t >>= fun _ => pure K) Q E s₄ := fun ht => wpAny_bind (wpAny_mono ht (fun _ _ x => wpAny_pure x) fun _ _ e => e)
      have key := e2 (K := .again (.compLoop (.ListComp elt gens scope pos) k it acc env)) h₄
      unfold bodyT at key
      cases hk : gens[k + 1]? with
      | none =>
        rw [hk] at key
        exact key
      | some g' =>
        rw [hk] at key
        simp only [ha' g' hk]
        simp only [bind_assoc, pure_bind] at key
        simp only [bne_self_eq_false, Bool.false_eq_true, if_false]
        exact key

theorem comp_loop {elt : Expr} {gens : List Comprehension} {scope : Scope} {pos : Pos} {k : Nat} {g : Comprehension} {N : Str → Prop} {I acc : Addr} {wr : Addr → Prop} {fp : List Addr} {xs : List D} {St : Nat → Vw → Heap → Prop} {Mid : Nat → Value → Vw → Heap → Prop} {R : Result → Shared → Prop}
    {w₀ w : Vw} {s₀ s : Shared} {os : List D} (outs : D → List D)
    (hg : gens[k]? = some g) (ha : g.is_async = 0) (ha' : ∀ g', gens[k + 1]? = some g' → g'.is_async = 0)
    (W : Iter prog wd H0 A g.target I wr fp xs St Mid) (hmu : ∀ b ∈ fp, ¬ MuC env N acc b)
    (turn : ∀ x ∈ xs, ∃ loc₁ b, BT prog wd H0 A env N loc g.target x loc₁ ∧ (∀ y d, loc y = some d → loc₁ y = some d) ∧ IFS prog wd H0 A env loc₁ g.ifs b ∧
      (b = true → CB prog wd H0 A env N loc₁ (bodyT elt gens scope pos k env) (outs x)) ∧ (b = false → outs x = []))
    (hst : St 0 w s.heap) (c : CSt prog wd H0 env N acc w loc os s) (M₀ : MS (MuC env N acc) w₀ s₀ w s) (hI : ∀ a, wr a → s₀.heap.get? a = none) (hz : os.length + (xs.flatMap outs).length ≤ 100000)
    (hR : ∀ w' s', MS (MuC env N acc) w₀ s₀ w' s' → CSt prog wd H0 env N acc w' loc (os ++ xs.flatMap outs) s' → R (.ok .next) s') :
    codeAny (model prog wd) A (.compLoop (.ListComp elt gens scope pos) k (.ref I) (.ref acc) env) R s := by
  refine codeAny_loop rfl (fun n s' => ∃ i w', i ≤ xs.length ∧ n = xs.length + 1 - i ∧ St i w' s'.heap ∧ CSt prog wd H0 env N acc w' loc (os ++ (xs.take i).flatMap outs) s' ∧ MS (MuC env N acc) w₀ s₀ w' s') ?_ (xs.length + 1)
    ⟨0, w, Nat.zero_le _, rfl, hst, by simpa using c, M₀⟩
  rintro n s₁ ⟨i, w₁, hi, rfl, st₁, c₁, M₁⟩
  show wpAny _ _ ((compTurn (.ListComp elt gens scope pos) k (.ref I) (.ref acc) env).onRaise (fun x => do noteFrame x env; theTreesLotGoes x)) _ _ s₁
  have up : A.under (.compLoop (.ListComp elt gens scope pos) k (.ref I) (.ref acc) env) = A := Around.under_of_weight rfl
  rw [up]
  refine wpAny_noted (wpAny_mono (comp_turn (E := NoE) hg ha ha' ?_) (fun _ _ q => q) fun _ _ f => f.elim)
  have hid : ∀ {w w' : Vw} {s s' : Shared} {Mu : Addr → Prop}, MS Mu w s w' s' → (∀ a, wr a → w a = none ∧ Quiet s.heap a) → ∀ a, wr a → w' a = none := fun M v a k => by
    obtain ⟨e, o, fs, ho, _⟩ := v a k
    exact M.hidden e ho
  by_cases hlt : i < xs.length
  · refine wpAny_mono (W.item i w₁ s₁ hlt c₁.ok st₁) (fun r s₂ ⟨v, d, w₂, er, hd, rv, M₂, st₂⟩ => ?_) fun _ _ f => f
    subst er
    have c₂ := c₁.quiet (fun a k => (W.vis _ _ _ st₁ a k).2) W.base M₂
    refine wpAny_mono (W.own i w₂ s₂ v d c₂.ok st₂ rv) (fun _ s₃ ⟨w₃, M₃, st₃⟩ => ?_) fun _ _ f => f
    have c₃ := c₂.quiet (fun a k => (W.visM _ _ _ _ st₂ a k).2) W.base M₃
    obtain ⟨loc₁, b, hbt, hle, hif, hb1, hb0⟩ := turn d (List.mem_of_getElem? hd)
    refine wpAny_mono (hbt w₃ s₃ v c₃.ok c₃.fs c₃.view (rv.mono M₃.mono)) (fun _ s₄ ⟨w₄, M₄, F₄, V₄⟩ => ?_) fun _ _ f => f
    have c₄ := c₃.fra M₄ F₄ V₄
    have st₄ : St (i + 1) w₄ s₄.heap := W.frame _ _ _ _ _ st₃ M₄.mono (hid M₄ (W.vis _ _ _ st₃)) fun b hb o e => M₄.keep b o (fun q => hmu b hb (.inl q)) e
    refine wpAny_mono (hif w₄ s₄ c₄.ok c₄.view) (fun r s₅ ⟨w₅, S₅, e⟩ => ?_) fun _ _ f => f
    subst e
    have c₅ := c₄.stp S₅
    have st₅ : St (i + 1) w₅ s₅.heap := W.frame _ _ _ _ _ st₄ S₅.mono (hid (S₅.ms (Mu := fun _ => False)) (W.vis _ _ _ st₄)) fun b hb o e => S₅.keep b o e
    have MM : MS (fun b => MuC env N acc b ∨ wr b) w₁ s₁ w₅ s₅ :=
      (((M₂.weaken fun b q => .inr q).trans (M₃.weaken fun b q => .inr q)).trans (M₄.weaken fun b q => .inl (.inl q))).trans S₅.ms
    have back : ∀ {w' s'}, MS (fun b => MuC env N acc b ∨ wr b) w₁ s₁ w' s' → MS (MuC env N acc) w₀ s₀ w' s' := fun {w' s'} x => by
      have y := (M₁.weaken (Mu' := fun b => MuC env N acc b ∨ wr b) fun b q => .inl q).trans x
      exact ⟨y.mono, y.part, y.fresh, fun b o n e => y.keep b o (fun q => q.elim n fun q => by rw [hI b q] at e; cases e) e, y.live, y.os, y.gens⟩
    have tk : (xs.take (i + 1)).flatMap outs = (xs.take i).flatMap outs ++ outs d := by
      rw [List.take_add_one, hd]; simp
    cases r with
    | false =>
      have e0 := hb0 rfl
      refine ⟨rfl, xs.length + 1 - (i + 1), by omega, i + 1, w₅, hlt, rfl, st₅, ?_, back MM⟩
      rw [tk, e0, List.append_nil]
      exact c₅.weak hle
    | true =>
      refine wpAny_mono (hb1 rfl acc w₅ _ s₅ ?_ c₅) (fun _ s₆ ⟨w₆, M₆, c₆⟩ => ?_) fun _ _ f => f
      · have : xs.flatMap outs = (xs.take i).flatMap outs ++ (outs d ++ (xs.drop (i + 1)).flatMap outs) := by
          rw [← List.append_assoc, ← tk, ← List.flatMap_append, List.take_append_drop]
        rw [this] at hz
        simp only [List.length_append] at hz ⊢
        omega
      · have st₆ : St (i + 1) w₆ s₆.heap := W.frame _ _ _ _ _ st₅ M₆.mono (hid M₆ (W.vis _ _ _ st₅)) fun b hb o e => M₆.keep b o (hmu b hb) e
        refine ⟨rfl, xs.length + 1 - (i + 1), by omega, i + 1, w₆, hlt, rfl, st₆, ?_, back (MM.trans (M₆.weaken fun b q => .inl q))⟩
        rw [tk, ← List.append_assoc]
        exact c₆.weak hle
  · have ei : i = xs.length := by omega
    subst ei
    refine wpAny_mono (W.done w₁ s₁ c₁.ok st₁) (fun r s₂ ⟨er, hk, hos, hgs⟩ => ?_) fun _ _ f => f
    subst er
    have vis := W.vis _ _ _ st₁
    have hkI : ∀ b o, w₁ b = some o → s₂.heap.get? b = some o := fun b o e => hk b o (fun q => by rw [(vis b q).1] at e; cases e) (c₁.ok.part b o e)
    refine hR w₁ s₂ ⟨M₁.mono, hkI, M₁.fresh, fun b o n e => ?_, fun b o e => ?_, hos.trans M₁.os, hgs.trans M₁.gens⟩ ?_
    · exact hk b o (fun q => by rw [hI b q] at e; cases e) (M₁.keep b o n e)
    · obtain ⟨o₁, e₁⟩ := M₁.live b o e
      exact ⟨o₁, hk b o₁ (fun q => by rw [hI b q] at e; cases e) e₁⟩
    · rw [List.take_length] at c₁
      obtain ⟨vs, n, e, r⟩ := c₁.lst
      have ne : ∀ b o, s₁.heap.get? b = some o → (∀ fs, o.data ≠ .fields fs) → s₂.heap.get? b = some o := fun b o e hd => hk b o (fun q => by
        obtain ⟨_, oI, fs, eI, dI⟩ := vis b q
        rw [eI] at e; cases e; exact hd _ dI) e
      refine ⟨⟨fun b o e => hk b o (fun q => by rw [W.base b q] at e; cases e) (c₁.ok.base b o e), hkI⟩, ⟨?_, c₁.fs.wl, c₁.fs.hl, fun x n kk => ?_⟩, fun x d e => ?_, ⟨vs, n, ne _ _ e (fun _ q => by cases q), r⟩, c₁.wa, c₁.ha⟩
      · obtain ⟨m, o, es, ep, g, d, r⟩ := c₁.fs.ns
        exact ⟨m, o, es, ep, ne _ _ g (fun _ q => by rw [d] at q; cases q), d, r⟩
      · obtain ⟨c', l, ⟨v, oc, g, d⟩, wc, h0⟩ := c₁.fs.cell x n kk
        exact ⟨c', l, ⟨v, oc, ne _ _ g (fun _ q => by rw [d] at q; cases q), d⟩, wc, h0⟩
      · obtain ⟨u, L, r⟩ := c₁.view x d e
        refine ⟨u, ?_, r⟩
        rcases L with ⟨a, m, ⟨o₂, es, ep, g, d₂, r₂⟩, c₂⟩ | ⟨a, c₂, b₁, oc, hc, dc⟩
        · exact .inl ⟨a, m, ⟨o₂, es, ep, ne _ _ g (fun _ q => by rw [d₂] at q; cases q), d₂, r₂⟩, c₂⟩
        · exact .inr ⟨a, c₂, b₁, oc, ne _ _ hc (fun _ q => by rw [dc] at q; cases q), dc⟩

theorem fp_free {N : Str → Prop} {w₀ w : Vw} {s₀ s : Shared} {acc : Addr} {os : List D} (c₀ : CSt prog wd H0 env N acc w₀ loc os s₀) (S : Stp w₀ s₀ w s) {b : Addr} (h : w b ≠ none ∨ s₀.heap.get? b = none) : ¬ MuC env N acc b := by
  intro hm
  have c := c₀.stp S
  rcases h with h | h
  · rcases hm with (rfl | ⟨x, n, kk, l⟩) | rfl
    · exact h c.fs.wl
    · obtain ⟨c', l', _, wc, _⟩ := c.fs.cell x n kk
      rw [l] at l'; cases l'; exact h wc
    · exact h c.wa
  · rcases hm with (rfl | ⟨x, n, kk, l⟩) | rfl
    · obtain ⟨m, o, es, ep, g, _⟩ := c₀.fs.ns; rw [h] at g; cases g
    · obtain ⟨c', l', ⟨v, oc, g, _⟩, _, _⟩ := c₀.fs.cell x n kk
      rw [l] at l'; cases l'; rw [h] at g; cases g
    · obtain ⟨vs, n, e, _⟩ := c₀.lst; rw [h] at e; cases e
end
end Mine
namespace Mine
open PySem PySem.Calls PyProof.Rows PySem.W
section
variable {prog : Program} {wd : World} {H0 : Heap} {A : Around} {env : Env} {loc : Loc}

theorem comp_start {elt : Expr} {gens : List Comprehension} {scope : Scope} {pos : Pos} {k : Nat} {it acc : Value} {R : Result → Shared → Prop} {s : Shared} (ha : ∀ g, gens[k]? = some g → g.is_async = 0)
    (h0 : codeAny (model prog wd) A (.compLoop (.ListComp elt gens scope pos) k it acc env) R s)
    (h : wpAny (model prog wd) A (pyIter it) (fun it' s' => codeAny (model prog wd) A (.compLoop (.ListComp elt gens scope pos) k it' acc env) R s') NoE s) :
    codeAny (model prog wd) A (.compStart (.ListComp elt gens scope pos) k it acc env) R s := by
  refine codeAny_of_tree ?_
  have up : A.under (.compStart (.ListComp elt gens scope pos) k it acc env) = A := Around.under_of_weight rfl
  rw [up]
  show wpAny _ _ ((compStart (.ListComp elt gens scope pos) k it acc env).onRaise (fun x => do noteFrame x env; standAt theWindowsPlace)) _ _ s
  refine wpAny_notedAt (wpAny_mono (E := NoE) ?_ (fun _ _ q => q) fun _ _ f => f.elim)
  unfold compStart
  have e1 : (((clausesOf (.ListComp elt gens scope pos))[k]?).elim false (·.is_async != 0)) = false := by
    show ((gens[k]?).elim false (·.is_async != 0)) = false
    cases hk : gens[k]? with
    | none => rfl
    | some g => simp [ha g hk]
  rw [e1]
  simp only [Bool.false_eq_true, if_false]
  show wpAny _ _ (ask >>= _) _ _ s
  refine wpAny_bind (wpAny_askSetting (wpAny_ite ?_))
  have fin : wpAny (model prog wd) A (pyIter it >>= fun it' => again (.compLoop (.ListComp elt gens scope pos) k it' acc env)) (fun fin s' => match fin with | .done f => R (.ok f) s' | .again c' => c'.quiet = true ∧ codeAny (model prog wd) A c' R s') NoE s :=
    wpAny_bind (wpAny_mono h (fun it' s' h' => wpAny_pure (And.intro rfl h')) fun _ _ x => x)
  split
  · first
      | exact wpAny_bind (wpAny_pure (wpAny_pure (And.intro rfl h0)))
      | exact wpAny_pure (And.intro rfl h0)
  · refine wpAny_bind (wpAny_rule ?_)
    cases (clausesOf (.ListComp elt gens scope pos))[k]? with
    | none => exact fin
    | some g => exact wpAny_bind (wpAny_standAt fin)

/-- where own cells are laid -/
theorem cells_mem : ∀ (names : List (Str × NameKind)) (h : Heap) (acc : List (Str × Addr)) (n : Str) (c : Addr), (n, c) ∈ cellsFrom h.objs.size names acc → (n, c) ∈ acc ∨ (h.objs.size ≤ c ∧ (pushCells h names).IsCell c none)
  | [], _, _, _, _, hm => .inl hm
  | (name, kind) :: r, h, acc, n, c, hm => by
    unfold cellsFrom at hm
    unfold pushCells
    split
    · rename_i hk
      rw [if_pos hk] at hm
      have e : (h.push { cls := .type "cell", data := .cell none }).objs.size = h.objs.size + 1 := Heap.size_push ..
      rw [← e] at hm
      rcases cells_mem r _ _ n c hm with q | ⟨q, q'⟩
      · rcases List.mem_cons.mp q with q | q
        · cases q
          exact .inr ⟨Nat.le_refl _, Heap.IsCell.keeps ⟨_, Heap.get?_push_size _ rfl, rfl⟩ fun b o e => pushCells_keeps _ _ b o e⟩
        · exact .inl q
      · exact .inr ⟨by omega, q'⟩
    · rename_i hk
      rw [if_neg hk] at hm
      exact cells_mem r h acc n c hm
theorem cells_old {n₀ : Nat} {x : Str} : ∀ (names : List (Str × NameKind)) (n : Nat) (acc : List (Str × Addr)), n₀ ≤ n → (∃ c, acc.lookup x = some c ∧ n₀ ≤ c) → ∃ c, (cellsFrom n names acc).lookup x = some c ∧ n₀ ≤ c
  | [], _, _, _, h => h
  | (name, kind) :: r, n, acc, hn, h => by
    unfold cellsFrom
    split
    · refine cells_old r (n + 1) _ (by omega) ?_
      obtain ⟨c, e, q⟩ := h
      by_cases hx : x == name
      · exact ⟨n, by rw [List.lookup_cons, hx], hn⟩
      · exact ⟨c, by rw [List.lookup_cons]; simp only [hx]; exact e, q⟩
    · exact cells_old r n acc hn h
theorem cells_own {x : Str} : ∀ (names : List (Str × NameKind)) (n : Nat) (acc : List (Str × Addr)), names.lookup x = some .cell → ∃ c, (cellsFrom n names acc).lookup x = some c ∧ n ≤ c
  | [], _, _, h => by cases h
  | (name, kind) :: r, n, acc, h => by
    unfold cellsFrom
    rw [List.lookup_cons] at h
    by_cases hx : x == name
    · rw [hx] at h
      have hk : kind = .cell := Option.some.inj h
      subst hk
      simp only [beq_self_eq_true, if_true]
      exact cells_old r (n + 1) _ (Nat.le_succ n) ⟨n, by rw [List.lookup_cons, hx], Nat.le_refl _⟩
    · have h' : r.lookup x = some .cell := by simpa only [hx] using h
      split
      · obtain ⟨c, e, q⟩ := cells_own r (n + 1) ((name, n) :: acc) h'
        exact ⟨c, e, by omega⟩
      · exact cells_own r n acc h'
theorem cells_uniq {n₀ : Nat} : ∀ (names : List (Str × NameKind)) (n : Nat) (acc : List (Str × Addr)), n₀ ≤ n → (∀ p ∈ acc, p.2 < n) → (∀ p ∈ acc, ∀ q ∈ acc, n₀ ≤ p.2 → p.2 = q.2 → q.1 = p.1) →
    ∀ p ∈ cellsFrom n names acc, ∀ q ∈ cellsFrom n names acc, n₀ ≤ p.2 → p.2 = q.2 → q.1 = p.1
  | [], _, _, _, _, h => h
  | (name, kind) :: r, n, acc, hn, hlt, h => by
    unfold cellsFrom
    split
    · refine cells_uniq r (n + 1) _ (by omega) (fun p hp => ?_) fun p hp q hq h0 e => ?_
      · rcases List.mem_cons.mp hp with rfl | hp
        · exact Nat.lt_succ_self _
        · exact Nat.lt_succ_of_lt (hlt p hp)
      · rcases List.mem_cons.mp hp with rfl | hp <;> rcases List.mem_cons.mp hq with rfl | hq
        · rfl
        · exact absurd (hlt q hq) (by rw [← e]; exact Nat.lt_irrefl _)
        · exact absurd (hlt p hp) (by rw [e]; exact Nat.lt_irrefl _)
        · exact h p hp q hq h0 e
    · exact cells_uniq r n acc hn hlt h
theorem cells_acc {x : Str} : ∀ (names : List (Str × NameKind)) (n : Nat) (acc : List (Str × Addr)), (∀ p ∈ names, p.1 = x → p.2 ≠ .cell) → (cellsFrom n names acc).lookup x = acc.lookup x
  | [], _, _, _ => rfl
  | (name, kind) :: r, n, acc, h => by
    unfold cellsFrom
    split
    · rename_i hk
      rw [cells_acc r (n + 1) _ fun p hp => h p (.tail _ hp)]
      have : ¬ (name = x) := fun q => h (name, kind) (.head _) q (by simpa using hk)
      rw [List.lookup_cons]
      have e : (x == name) = false := by simp; exact fun q => this q.symm
      rw [e]
    · exact cells_acc r n acc fun p hp => h p (.tail _ hp)

/-- the environment within a comprehension -/
def cenvAt (scope : Scope) (cl : List (Str × Addr)) (env : Env) (C : Addr) : Env :=
  { scope := relabel scope env, locals := C, globals := env.globals, cells := cellsFrom (C + 1) scope.names cl, qual := env.qual, func := none, code := env.code, frame := env.frame, builtins := env.builtins }
theorem newEnv_comp {M : Model} {scope : Scope} {cl : List (Str × Addr)} {s : Shared} {Q : Env → Shared → Prop} {E : Value → Shared → Prop}
    (h : ∀ e : Env, { e with scope := relabel scope env } = cenvAt scope cl env s.heap.objs.size → e.locals = s.heap.objs.size → Q e { s with heap := pushCells (s.heap.push { cls := .type "dict", data := .dict #[] }) scope.names }) :
    wpAny M A (newFunctionEnv scope env.globals cl [] env.qual none .none (some env)) Q E s := by
  simp only [newFunctionEnv, Option.isSome_some, if_true]
  refine wpAny_bind (wpAny_alloc ?_)
  refine wpAny_bind (wpAny_layCells _ (fun name kind cells => by cases hkc : kind == NameKind.cell <;> simp [hkc]) _ _ _ _ ?_)
  rw [show ({ s with heap := s.heap.push { cls := .type "dict", data := .dict #[] } } : Shared).heap.objs.size = s.heap.objs.size + 1 from Heap.size_push ..]
  refine wpAny_bind ?_
  rw [List.forIn_nil]
  exact wpAny_pure (wpAny_pure (h _ rfl rfl))

theorem relabel_lookup {x : Str} {scope : Scope} {k : NameKind} (h : scope.names.lookup x = some k) (hk : k ≠ .free) : (relabel scope env).names.lookup x = some k := by
  unfold relabel
  show (scope.names.map fun y => if (y.2 == NameKind.free && env.scope.kind == .function && env.kindOf y.1 == some .cell) then (y.1, NameKind.cell) else (y.1, y.2)).lookup x = some k
  generalize scope.names = names at h
  induction names with
  | nil => cases h
  | cons y r ih =>
    obtain ⟨n, kd⟩ := y
    rw [List.lookup_cons] at h
    rw [List.map_cons]
    by_cases hx : x == n
    · rw [hx] at h
      have e : kd = k := Option.some.inj h
      subst e
      have : (kd == NameKind.free) = false := by simpa using hk
      simp [this, List.lookup_cons, hx]
    · have h' : r.lookup x = some k := by simpa only [hx] using h
      split <;> (rw [List.lookup_cons]; simp only [hx]; exact ih h')

structure CompOk (scope : Scope) (N : Str → Prop) : Prop where
  kind : scope.kind = .function
  names : ∀ x ∈ scope.names, x.2 = .local → scope.names.lookup x.1 = some .local
  own : ∀ x, N x → scope.names.lookup x = some .local ∨ scope.names.lookup x = some .cell
theorem CompOk.kindOf {scope : Scope} {N : Str → Prop} {cl : List (Str × Addr)} {C : Addr} (h : CompOk scope N) {x : Str} (hx : N x) : (cenvAt scope cl env C).kindOf x = some .local ∨ (cenvAt scope cl env C).kindOf x = some .cell := by
  rcases h.own x hx with q | q
  · exact .inl (relabel_lookup q (by decide))
  · exact .inr (relabel_lookup q (by decide))
theorem CompOk.ownCell {scope : Scope} {N : Str → Prop} {cl : List (Str × Addr)} {C : Addr} (h : CompOk scope N) {x : Str} (hx : N x) (hk : (cenvAt scope cl env C).kindOf x = some .cell) : scope.names.lookup x = some .cell := by
  rcases h.own x hx with q | q
  · have := relabel_lookup (env := env) q (by decide)
    have e : (cenvAt scope cl env C).kindOf x = (relabel scope env).names.lookup x := rfl
    rw [e, this] at hk; cases hk
  · exact q
theorem CompOk.envOk {scope : Scope} {N : Str → Prop} {cl : List (Str × Addr)} {C : Addr} (h : CompOk scope N) (hc : ∀ p ∈ cl, p.2 < C) : EnvOk (cenvAt scope cl env C) N where
  kind := h.kind
  inj := fun x y c hx hk l l' => by
    obtain ⟨c', e, q⟩ := cells_own scope.names (C + 1) cl (h.ownCell hx hk)
    have e' : (cenvAt scope cl env C).cells.lookup x = some c' := e
    rw [l] at e'
    have ec := Option.some.inj e'
    subst ec
    exact cells_uniq (n₀ := C + 1) scope.names (C + 1) cl (Nat.le_refl _) (fun p hp => Nat.lt_succ_of_lt (hc p hp)) (fun p hp q' _ h0 _ => absurd (Nat.lt_of_lt_of_le (hc p hp) (Nat.le_trans (Nat.le_succ C) h0)) (Nat.lt_irrefl _)) (x, c) (mem_of_lookup l) (y, c) (mem_of_lookup l') q rfl
end
end Mine
namespace Mine
open PySem PySem.Calls PyProof.Rows PySem.W
section
variable {prog : Program} {wd : World} {H0 : Heap} {A : Around} {env : Env} {loc : Loc}

/-- the names that a comprehension draws from its surroundings -/
def Loc.only (loc : Loc) (cl : List (Str × Addr)) : Loc := fun x => if (cl.lookup x).isSome then loc x else none
structure ClOk (env : Env) (loc : Loc) (scope : Scope) (cl : List (Str × Addr)) : Prop where
  bound : ∀ p ∈ cl, ∃ d, loc p.1 = some d
  look : ∀ p ∈ cl, env.cells.lookup p.1 = some p.2
  kind : ∀ p ∈ cl, env.kindOf p.1 = some .cell ∨ env.kindOf p.1 = some .free
  free : ∀ p ∈ cl, scope.names.lookup p.1 = some .free
  notOwn : ∀ p ∈ cl, ∀ q ∈ scope.names, q.1 = p.1 → q.2 ≠ .cell
theorem relabel_free {x : Str} {scope : Scope} (h : scope.names.lookup x = some .free) : (relabel scope env).names.lookup x = some .free ∨ (relabel scope env).names.lookup x = some .cell := by
  unfold relabel
  show (scope.names.map fun y => if (y.2 == NameKind.free && env.scope.kind == .function && env.kindOf y.1 == some .cell) then (y.1, NameKind.cell) else (y.1, y.2)).lookup x = some .free ∨ (scope.names.map fun y => if (y.2 == NameKind.free && env.scope.kind == .function && env.kindOf y.1 == some .cell) then (y.1, NameKind.cell) else (y.1, y.2)).lookup x = some .cell
  generalize scope.names = names at h
  induction names with
  | nil => cases h
  | cons y r ih =>
    obtain ⟨n, kd⟩ := y
    rw [List.lookup_cons] at h
    rw [List.map_cons]
    by_cases hx : x == n
    · rw [hx] at h
      have e : kd = .free := Option.some.inj h
      subst e
      split
      · exact .inr (by rw [List.lookup_cons, hx])
      · exact .inl (by rw [List.lookup_cons, hx])
    · have h' : r.lookup x = some .free := by simpa only [hx] using h
      split <;> (rw [List.lookup_cons]; simp only [hx]; exact ih h')
theorem ClOk.below {scope : Scope} {cl : List (Str × Addr)} {w : Vw} {s : Shared} (h : ClOk env loc scope cl) (V : View prog wd env loc w s.heap) : ∀ p ∈ cl, p.2 < s.heap.objs.size := fun p hp => by
  obtain ⟨d, e⟩ := h.bound p hp
  obtain ⟨v, L, _⟩ := V _ _ e
  rcases L with ⟨a, _⟩ | ⟨_, c, l, ic⟩
  · rcases h.kind p hp with k | k <;> rw [a] at k <;> cases k
  · rw [h.look p hp] at l; cases l
    exact ic.lt
theorem ClOk.view {scope : Scope} {cl : List (Str × Addr)} {w : Vw} {h : Heap} {C : Addr} (k : ClOk env loc scope cl) (V : View prog wd env loc w h) : View prog wd (cenvAt scope cl env C) (loc.only cl) w h := fun x d e => by
  unfold Loc.only at e
  cases q : cl.lookup x with
  | none => rw [q] at e; cases e
  | some c =>
    rw [q] at e
    simp only [Option.isSome_some, if_true] at e
    have hm := mem_of_lookup q
    obtain ⟨v, L, r⟩ := V x d e
    refine ⟨v, .inr ⟨?_, c, ?_, ?_⟩, r⟩
    · exact (relabel_free (k.free _ hm)).symm
    · show (cellsFrom (C + 1) scope.names cl).lookup x = some c
      rw [cells_acc _ _ _ (k.notOwn _ hm)]; exact q
    · rcases L with ⟨a, _⟩ | ⟨_, c', l, ic⟩
      · rcases k.kind _ hm with kk | kk <;> rw [a] at kk <;> cases kk
      · rw [k.look _ hm] at l; cases l; exact ic

def TURN (prog : Program) (wd : World) (H0 : Heap) (A : Around) (env : Env) (N : Str → Prop) (loc : Loc) (g : Comprehension) (x : D) (t : Value → Sem Unit) (outs : List D) : Prop :=
  ∃ loc₁ b, BT prog wd H0 A env N loc g.target x loc₁ ∧ (∀ y d, loc y = some d → loc₁ y = some d) ∧ IFS prog wd H0 A env loc₁ g.ifs b ∧ (b = true → CB prog wd H0 A env N loc₁ t outs) ∧ (b = false → outs = [])

theorem comp_core {elt : Expr} {g : Comprehension} {gs : List Comprehension} {scope : Scope} {pos : Pos} {cl : List (Str × Addr)} {xs : List D} {N : Str → Prop} {RR : Value → Addr → Result → Shared → Prop} (outs : D → List D)
    (hco : CompOk scope N) (hcl : ClOk env loc scope cl) (ha : ∀ (k : Nat) (g' : Comprehension), (g :: gs)[k]? = some g' → g'.is_async = 0) (hit : ITE prog wd H0 A env loc g.target g.iter xs) (hz : (xs.flatMap outs).length ≤ 100000)
    (turn : ∀ C, EnvOk (cenvAt scope cl env C) N → ∀ x ∈ xs, TURN prog wd H0 A (cenvAt scope cl env C) N (loc.only cl) g x (bodyT elt (g :: gs) scope pos 0 (cenvAt scope cl env C)) (outs x))
    (w : Vw) (s : Shared) (o : Ok H0 w s) (V : View prog wd env loc w s.heap)
    (hR : ∀ D C w' s', D ≠ C → s.heap.get? D = none → s.heap.get? C = none → Stp w s w' s' → (∃ vs n, s'.heap.get? D = some ({ cls := .type "list", data := .seq vs n } : Obj) ∧ RVs prog wd w' vs.toList (xs.flatMap outs)) → w' D = none → w' C = none →
      (∃ m, s'.heap.Ns C m) → RR (.ref D) C (.ok .next) s') :
    wpAny (model prog wd) A (eval g.iter env) (fun x s₁ => wpAny (model prog wd) A (pyIter x) (fun it s₂ => wpAny (model prog wd) A (newList []) (fun acc s₃ =>
      wpAny (model prog wd) A (newFunctionEnv scope env.globals cl [] env.qual none .none (some env)) (fun cenv s₄ =>
        codeAny (model prog wd) A (.compStart (.ListComp elt (g :: gs) scope pos) 0 it acc { cenv with scope := relabel scope env }) (RR acc cenv.locals) s₄) NoE s₃) NoE s₂) NoE s₁) NoE s := by
  refine wpAny_mono (hit w s o V) (fun x s₁ h₁ => wpAny_mono h₁ (fun it s₂ ⟨w₂, I, wr, fp, St, Mid, eit, W, st, S₂, hfp, hI⟩ => ?_) fun _ _ f => f) fun _ _ f => f
  subst eit
  have o₂ := S₂.ok o
  refine wpAny_newObj_type (newEnv_comp fun e he hl => ?_)
  rw [he, hl]
  show codeAny _ _ (.compStart _ 0 _ _ (cenvAt scope cl env (s₂.heap.push { cls := .type "list", dict := Option.none, data := .seq ([] : List Value).toArray }).objs.size)) (RR _ (s₂.heap.push { cls := .type "list", dict := Option.none, data := .seq ([] : List Value).toArray }).objs.size) { s₂ with heap := pushCells ((s₂.heap.push { cls := .type "list", dict := Option.none, data := .seq ([] : List Value).toArray }).push { cls := .type "dict", data := .dict #[] }) scope.names }
  generalize hH3 : s₂.heap.push { cls := .type "list", dict := Option.none, data := .seq ([] : List Value).toArray } = H3
  have z3 : H3.objs.size = s₂.heap.objs.size + 1 := by rw [← hH3, Heap.size_push]
  have hDC : s₂.heap.objs.size ≠ H3.objs.size := by rw [z3]; exact Nat.ne_of_lt (Nat.lt_succ_self _)
  generalize hH4 : pushCells (H3.push { cls := .type "dict", data := .dict #[] }) scope.names = H4
  have z4 : (H3.push { cls := .type "dict", data := .dict #[] }).objs.size = H3.objs.size + 1 := Heap.size_push ..
  have up : ∀ b ob, s₂.heap.get? b = some ob → H4.get? b = some ob := fun b ob e => by
    rw [← hH4]; refine pushCells_keeps _ _ _ _ (Heap.get?_push_of_some _ ?_); rw [← hH3]; exact Heap.get?_push_of_some _ e
  have eD : H4.get? s₂.heap.objs.size = some { cls := .type "list", data := .seq #[] } := by
    rw [← hH4]; refine pushCells_keeps _ _ _ _ (Heap.get?_push_of_some _ ?_); rw [← hH3]; exact Heap.get?_push_size _ rfl
  have nC : H4.Ns H3.objs.size (fun _ => none) := by
    rw [← hH4]; exact (Heap.Ns.new H3 (.type "dict")).keeps (pushCells_keeps _ _)
  have above : ∀ a, s₂.heap.objs.size ≤ a → s₂.heap.get? a = none := fun a ha => by
    cases e : s₂.heap.get? a with
    | none => rfl
    | some o' => exact absurd (Heap.lt_size e) (Nat.not_lt.mpr ha)
  have above' : ∀ a, s₂.heap.objs.size ≤ a → s.heap.get? a = none := fun a ha => by
    cases e : s.heap.get? a with
    | none => rfl
    | some o' => have := S₂.keep _ _ e; rw [above a ha] at this; cases this
  have cb := hcl.below V
  have cb' : ∀ p ∈ cl, p.2 < H3.objs.size := fun p hp => by
    obtain ⟨d, e⟩ := hcl.bound p hp
    have := hcl.below (V.step S₂) p hp
    rw [z3]; exact Nat.lt_succ_of_lt this
  have EO : EnvOk (cenvAt scope cl env H3.objs.size) N := hco.envOk cb'
  have S₄ : Stp w₂ s₂ w₂ { s₂ with heap := H4 } := .quiet o₂ up rfl rfl
  have o₄ := S₄.ok o₂
  have F₄ : FS H0 (cenvAt scope cl env H3.objs.size) N w₂ H4 := by
    refine ⟨⟨_, nC⟩, w_fresh o₂ (above _ (by rw [z3]; exact Nat.le_succ _)), H0_fresh o₂ (above _ (by rw [z3]; exact Nat.le_succ _)), fun x hx hk => ?_⟩
    obtain ⟨c, e, q⟩ := cells_own scope.names (H3.objs.size + 1) cl (hco.ownCell hx hk)
    have hm := mem_of_lookup e
    rw [← z4] at hm
    rcases cells_mem _ _ _ _ _ hm with hm | ⟨_, ic⟩
    · exact absurd (cb' _ hm) (Nat.not_lt.mpr (Nat.le_of_succ_le q))
    · rw [hH4] at ic
      have hc : s₂.heap.objs.size ≤ c := by rw [z3] at q; omega
      exact ⟨c, e, ⟨_, ic⟩, w_fresh o₂ (above _ hc), H0_fresh o₂ (above _ hc)⟩
  have c₄ : CSt prog wd H0 (cenvAt scope cl env H3.objs.size) N s₂.heap.objs.size w₂ (loc.only cl) [] { s₂ with heap := H4 } :=
    ⟨o₄, F₄, hcl.view ((V.step S₂).step S₄), ⟨#[], 0, eD, .nil⟩, w_fresh o₂ (above _ (Nat.le_refl _)), H0_fresh o₂ (above _ (Nat.le_refl _))⟩
  have cellAbove : ∀ b, MuC (cenvAt scope cl env H3.objs.size) N s₂.heap.objs.size b → s₂.heap.objs.size ≤ b := by
    rintro b ((q | ⟨x, hx, hk, l⟩) | q)
    · rw [q]; show s₂.heap.objs.size ≤ H3.objs.size; rw [z3]; exact Nat.le_succ _
    · obtain ⟨c, e, q⟩ := cells_own scope.names (H3.objs.size + 1) cl (hco.ownCell hx hk)
      have e' : (cenvAt scope cl env H3.objs.size).cells.lookup x = some c := e
      rw [l] at e'
      have := Option.some.inj e'
      rw [this]; rw [z3] at q; omega
    · rw [q]; exact Nat.le_refl _
  have st₄ : St 0 w₂ H4 := W.frame _ _ _ _ _ st (.refl _) (fun a k => (W.vis _ _ _ st a k).1) fun b _ ob e => up b ob e
  have loop : ∀ it', it' = Value.ref I → codeAny (model prog wd) A (.compLoop (.ListComp elt (g :: gs) scope pos) 0 it' (.ref s₂.heap.objs.size) (cenvAt scope cl env H3.objs.size)) (RR (.ref s₂.heap.objs.size) H3.objs.size) { s₂ with heap := H4 } := by
    rintro _ rfl
    refine comp_loop (w₀ := w) (s₀ := s) outs (g := g) rfl (ha 0 g rfl) (fun g' e => ha 1 g' e) W (fun b hb hm => ?_) (fun x hx => turn _ EO x hx) st₄ c₄ (S₂.trans S₄).ms hI (by simpa using hz) fun w' s' M' c' => ?_
    · obtain ⟨ob, eb⟩ := (hfp b hb).2; exact absurd (Heap.lt_size eb) (Nat.not_lt.mpr (cellAbove b hm))
    · have S' : Stp w s w' s' := M'.stp fun b ob hm e => by rw [above' b (cellAbove b hm)] at e; cases e
      exact hR _ _ w' s' hDC (above' _ (Nat.le_refl _)) (above' _ (by rw [z3]; exact Nat.le_succ _)) S' (by simpa using c'.lst) c'.wa c'.fs.wl c'.fs.ns
  refine comp_start (fun g' e => ha 0 g' e) (loop _ rfl) (W.self 0 w₂ { s₂ with heap := H4 } _ st₄ (loop _ rfl))

theorem PE.comp {elt : Expr} {g : Comprehension} {gs : List Comprehension} {scope : Scope} {pos : Pos} {cl : List (Str × Addr)} {xs : List D} {N : Str → Prop} (outs : D → List D) (hclos : closureFor scope env = pure cl)
    (hco : CompOk scope N) (hcl : ClOk env loc scope cl) (hs : ∀ x, foldedSetIterable g.iter env x = pure x) (ha : ∀ (k : Nat) (g' : Comprehension), (g :: gs)[k]? = some g' → g'.is_async = 0) (hit : ITE prog wd H0 A env loc g.target g.iter xs) (hz : (xs.flatMap outs).length ≤ 100000)
    (turn : ∀ C, EnvOk (cenvAt scope cl env C) N → ∀ x ∈ xs, TURN prog wd H0 A (cenvAt scope cl env C) N (loc.only cl) g x (bodyT elt (g :: gs) scope pos 0 (cenvAt scope cl env C)) (outs x)) :
    PE prog wd H0 A env loc (.ListComp elt (g :: gs) scope pos) (.lst (xs.flatMap outs)) := fun w s o V => by
  rw [eval_ListComp]
  have ha0 : firstAsync (g :: gs) = false := by
    obtain ⟨t, i, fs, a⟩ := g
    show (a != 0) = false
    have := ha 0 ⟨t, i, fs, a⟩ rfl
    simp only at this
    rw [this]; rfl
  rw [ha0]
  refine wpAny_comprehension_free (use := Option.none) rfl hs hclos hco.kind hco.names ?_
  have hf : firstIter (g :: gs) env = eval g.iter env := by obtain ⟨t, i, fs, a⟩ := g; rfl
  rw [hf]
  refine comp_core (RR := fun acc C => compPost (model prog wd) A NoE Option.none (fun v s' => ∃ w', Stp w s w' s' ∧ RV prog wd w' v (.lst (xs.flatMap outs))) acc C) outs hco hcl ha hit hz turn w s o V ?_
  intro D C w' s' hDC hD hC S ⟨vs, n, e, r⟩ wD wC ⟨m, ns⟩
  refine ⟨m, ns, fun h' hs' => ?_⟩
  have kp : ∀ b ob, b ≠ C → s'.heap.get? b = some ob → h'.get? b = some ob := fun b ob hb e => hs'.extBut b ob hb e
  have S' : Stp w s w' { s' with heap := h' } := ⟨S.mono, fun b ob e => kp b ob (fun q => by rw [q, wC] at e; cases e) (S.part b ob e), S.fresh, fun b ob e => kp b ob (fun q => by rw [q, hC] at e; cases e) (S.keep b ob e), S.os, S.gens⟩
  have le : Vle w' (w'.put D { cls := .type "list", data := .seq vs n }) := Vw.le_put wD
  refine ⟨w'.put D { cls := .type "list", data := .seq vs n }, ⟨S'.mono.trans le, fun b ob q => ?_, fun b ob q => ?_, S'.keep, S'.os, S'.gens⟩, .lst (Vw.put_self ..) (r.mono le)⟩
  · unfold Vw.put at q
    by_cases hb : b = D
    · rw [if_pos hb] at q; cases q; rw [hb]; exact kp _ _ hDC e
    · rw [if_neg hb] at q; exact S'.part b ob q
  · unfold Vw.put at q
    by_cases hb : b = D
    · rw [hb]; exact .inr hD
    · rw [if_neg hb] at q; exact S'.fresh b ob q

theorem CB.next {elt : Expr} {gens : List Comprehension} {g' : Comprehension} {scope : Scope} {pos : Pos} {k : Nat} {xs : List D} {N : Str → Prop} (outs : D → List D) (hg : gens[k + 1]? = some g') (ha : ∀ (j : Nat) (g : Comprehension), gens[j]? = some g → g.is_async = 0)
    (hs : ∀ x, foldedSetIterable g'.iter env x = pure x) (hit : ITE prog wd H0 A env loc g'.target g'.iter xs)
    (turn : ∀ x ∈ xs, TURN prog wd H0 A env N loc g' x (bodyT elt gens scope pos (k + 1) env) (outs x)) : CB prog wd H0 A env N loc (bodyT elt gens scope pos k env) (xs.flatMap outs) := fun acc w os s hz c => by
  unfold bodyT
  rw [hg]
  refine wpAny_bind (wpAny_mono (hit w s c.ok c.view) (fun x s₁ h₁ => ?_) fun _ _ f => f)
  refine wpAny_bind (wpAny_standAt (wpAny_bind (wpAny_of_eq (hs x) (wpAny_bind (wpAny_holding (wpAny_mono h₁ (fun it s₂ ⟨w₂, I, wr, fp, St, Mid, eit, W, st, S₂, hfp, hI⟩ => ?_) fun _ _ f => f))))))
  subst eit
  have c₂ := c.stp S₂
  have loop : codeAny (model prog wd) A (.compLoop (.ListComp elt gens scope pos) (k + 1) (.ref I) (.ref acc) env) (fun r s' => match r with | .ok f => ∃ w', MS (MuC env N acc) w s w' s' ∧ CSt prog wd H0 env N acc w' loc (os ++ xs.flatMap outs) s' | .error e => False) s₂ := by
    refine comp_loop (w₀ := w) (s₀ := s) outs hg (ha _ _ hg) (fun g'' e => ha _ _ e) W (fun b hb => fp_free c S₂ (hfp b hb).1) turn st c₂ S₂.ms hI hz fun w' s' M' c' => ?_
    exact ⟨w', M', c'⟩
  have hA : A.mark Option.none = A := by cases A; rfl
  refine wpAny_bind (wpAny_runOwn (h := Option.none) ?_)
  rw [hA]
  refine codeAny_mono (comp_start (fun g'' e => ha _ _ e) loop (W.self 0 w₂ s₂ _ st loop)) fun r s' hr => ?_
  cases r with
  | ok f => exact wpAny_pure hr
  | error e => exact hr.elim
theorem bodyT_last {elt : Expr} {gens : List Comprehension} {scope : Scope} {pos : Pos} {k : Nat} (hg : gens[k + 1]? = Option.none) :
    bodyT elt gens scope pos k env = fun acc => (do let _ ← PySem.call (Value.builtin "list.append") [acc, ← eval elt env]) := by
  funext acc
  unfold bodyT
  rw [hg]
theorem CB.last {elt : Expr} {gens : List Comprehension} {scope : Scope} {pos : Pos} {k : Nat} {d : D} {N : Str → Prop} (hg : gens[k + 1]? = Option.none) (h : PE prog wd H0 A env loc elt d) : CB prog wd H0 A env N loc (bodyT elt gens scope pos k env) [d] := by
  rw [bodyT_last hg]
  exact CB.elt h
end
end Mine
namespace Mine
open PySem PySem.Calls PyProof.Rows PySem.W
section
variable {prog : Program} {wd : World} {H0 : Heap} {A : Around} {env : Env} {loc : Loc}

abbrev Own := List (Addr × D)
/-- what stands at an address of the def's own -/
inductive Owned (prog : Program) (wd : World) (w : Vw) (h : Heap) (a : Addr) : D → Prop
  | lst {vs n ds} : h.get? a = some ({ cls := .type "list", data := .seq vs n } : Obj) → RVs prog wd w vs.toList ds → Owned prog wd w h a (.lst ds)
  | dct {o kvs l} : h.get? a = some o → (a == sysModules) = false → o.IsDictOf (intKind prog wd) kvs → KV kvs l → Owned prog wd w h a (.dct l)
theorem Owned.get {w : Vw} {h : Heap} {a : Addr} {d : D} (x : Owned prog wd w h a d) : ∃ o, h.get? a = some o ∧ (∀ ds, o.data ≠ .cell ds) ∧ (∀ fs, o.data ≠ .fields fs) ∧ o.cls ≠ .type "tuple" := by
  cases x with
  | lst e r => exact ⟨_, e, (fun _ q => by cases q), (fun _ q => by cases q), by simp⟩
  | dct e lo hd k =>
    obtain ⟨es, ep, hx, hd, _⟩ := hd
    exact ⟨_, e, (fun _ q => by rw [hd] at q; cases q), (fun _ q => by rw [hd] at q; cases q), by rw [hx.1]; simp⟩
theorem Owned.keeps {w w' : Vw} {h h' : Heap} {a : Addr} {d : D} (x : Owned prog wd w h a d) (hw : Vle w w') (k : ∀ o, h.get? a = some o → h'.get? a = some o) : Owned prog wd w' h' a d := by
  cases x with
  | lst e r => exact .lst (k _ e) (r.mono hw)
  | dct e lo hd kk => exact .dct (k _ e) lo hd kk

structure Sim (prog : Program) (wd : World) (H0 : Heap) (env : Env) (N : Str → Prop) (s₀ : Shared) (hb w₀ : Vw) (w : Vw) (loc : Loc) (own : Own) (s : Shared) : Prop where
  ok : Ok H0 w s
  fs : FS H0 env N w s.heap
  view : View prog wd env loc w s.heap
  keep : ∀ b o, hb b = some o → s.heap.get? b = some o
  w0 : Vle w₀ w
  fresh : ∀ b o, w b = some o → w₀ b = some o ∨ hb b = none
  fr0 : ∀ b, FrA env N b → hb b = none
  owns : ∀ p ∈ own, Owned prog wd w s.heap p.1 p.2 ∧ w p.1 = none ∧ hb p.1 = none ∧ H0.get? p.1 = none ∧ ¬ FrA env N p.1
  nd : (own.map (·.1)).Nodup
  os : s.os = s₀.os
  gens : s.gens = s₀.gens
/-- what a return hands out -/
def Ret (prog : Program) (wd : World) (s₀ : Shared) (hb w₀ : Vw) (s : Shared) (v : Value) (d : D) : Prop :=
  ∃ w, Vle w₀ w ∧ (∀ b o, w b = some o → s.heap.get? b = some o) ∧ (∀ b o, w b = some o → w₀ b = some o ∨ hb b = none) ∧ (∀ b o, hb b = some o → s.heap.get? b = some o) ∧ s.os = s₀.os ∧ s.gens = s₀.gens ∧ RV prog wd w v d
def SPost (prog : Program) (wd : World) (H0 : Heap) (env : Env) (N : Str → Prop) (s₀ : Shared) (hb w₀ : Vw) (Qn : Loc → Own → Prop) (Qr : D → Prop) (fl : Flow) (s' : Shared) : Prop := match fl with
  | .next => ∃ w' loc' own', Sim prog wd H0 env N s₀ hb w₀ w' loc' own' s' ∧ Qn loc' own'
  | .ret v => ∃ d, Ret prog wd s₀ hb w₀ s' v d ∧ Qr d
  | _ => False
def SX (prog : Program) (wd : World) (H0 : Heap) (A : Around) (env : Env) (N : Str → Prop) (loc : Loc) (own : Own) (st : Stmt) (Qn : Loc → Own → Prop) (Qr : D → Prop) : Prop :=
  ∀ s₀ hb w₀ w s, Sim prog wd H0 env N s₀ hb w₀ w loc own s → wpAny (model prog wd) A (exec st env) (SPost prog wd H0 env N s₀ hb w₀ Qn Qr) NoE s
def SW (prog : Program) (wd : World) (H0 : Heap) (A : Around) (env : Env) (N : Str → Prop) (loc : Loc) (own : Own) (sts : List Stmt) (Qn : Loc → Own → Prop) (Qr : D → Prop) : Prop :=
  ∀ s₀ hb w₀ w s, Sim prog wd H0 env N s₀ hb w₀ w loc own s → wpAny (model prog wd) A (execs sts env) (SPost prog wd H0 env N s₀ hb w₀ Qn Qr) NoE s

theorem SW.nil {N : Str → Prop} {own : Own} {Qn : Loc → Own → Prop} {Qr : D → Prop} (h : Qn loc own) : SW prog wd H0 A env N loc own [] Qn Qr := fun s₀ hb w₀ w s S =>
  wpAny_execs_nil ⟨w, loc, own, S, h⟩
theorem SW.cons {N : Str → Prop} {own : Own} {st : Stmt} {sts : List Stmt} {Qn : Loc → Own → Prop} {Qr : D → Prop} (h : SX prog wd H0 A env N loc own st (fun loc₁ own₁ => SW prog wd H0 A env N loc₁ own₁ sts Qn Qr) Qr) : SW prog wd H0 A env N loc own (st :: sts) Qn Qr := fun s₀ hb w₀ w s S => by
  refine wpAny_execs_cons (wpAny_mono (h s₀ hb w₀ w s S) (fun fl s₁ h₁ => ?_) fun _ _ f => f)
  cases fl with
  | next => obtain ⟨w₁, loc₁, own₁, S₁, q⟩ := h₁; exact q s₀ hb w₀ w₁ s₁ S₁
  | ret v => exact h₁
  | brk => exact h₁.elim
  | cont => exact h₁.elim
theorem SX.mono {N : Str → Prop} {own : Own} {st : Stmt} {Qn Qn' : Loc → Own → Prop} {Qr Qr' : D → Prop} (h : SX prog wd H0 A env N loc own st Qn Qr) (hn : ∀ l o, Qn l o → Qn' l o) (hr : ∀ d, Qr d → Qr' d) : SX prog wd H0 A env N loc own st Qn' Qr' := fun s₀ hb w₀ w s S => by
  refine wpAny_mono (h s₀ hb w₀ w s S) (fun fl s₁ h₁ => ?_) fun _ _ f => f
  cases fl with
  | next => obtain ⟨w₁, loc₁, own₁, S₁, q⟩ := h₁; exact ⟨w₁, loc₁, own₁, S₁, hn _ _ q⟩
  | ret v => obtain ⟨d, r, q⟩ := h₁; exact ⟨d, r, hr _ q⟩
  | brk => exact h₁.elim
  | cont => exact h₁.elim
theorem SW.mono {N : Str → Prop} {own : Own} {st : List Stmt} {Qn Qn' : Loc → Own → Prop} {Qr Qr' : D → Prop} (h : SW prog wd H0 A env N loc own st Qn Qr) (hn : ∀ l o, Qn l o → Qn' l o) (hr : ∀ d, Qr d → Qr' d) : SW prog wd H0 A env N loc own st Qn' Qr' := fun s₀ hb w₀ w s S => by
  refine wpAny_mono (h s₀ hb w₀ w s S) (fun fl s₁ h₁ => ?_) fun _ _ f => f
  cases fl with
  | next => obtain ⟨w₁, loc₁, own₁, S₁, q⟩ := h₁; exact ⟨w₁, loc₁, own₁, S₁, hn _ _ q⟩
  | ret v => obtain ⟨d, r, q⟩ := h₁; exact ⟨d, r, hr _ q⟩
  | brk => exact h₁.elim
  | cont => exact h₁.elim
/-- forgetting names -/
theorem Sim.weak {N : Str → Prop} {s₀ : Shared} {hb w₀ w : Vw} {own : Own} {s : Shared} {loc' : Loc} (S : Sim prog wd H0 env N s₀ hb w₀ w loc own s) (h : ∀ x d, loc' x = some d → loc x = some d) : Sim prog wd H0 env N s₀ hb w₀ w loc' own s :=
  ⟨S.ok, S.fs, fun x d e => S.view x d (h x d e), S.keep, S.w0, S.fresh, S.fr0, S.owns, S.nd, S.os, S.gens⟩
theorem SW.weak {N : Str → Prop} {own : Own} {sts : List Stmt} {Qn : Loc → Own → Prop} {Qr : D → Prop} {loc' : Loc} (h : SW prog wd H0 A env N loc' own sts Qn Qr) (hl : ∀ x d, loc' x = some d → loc x = some d) : SW prog wd H0 A env N loc own sts Qn Qr := fun s₀ hb w₀ w s S => h s₀ hb w₀ w s (S.weak hl)
theorem Sim.stp {N : Str → Prop} {s₀ : Shared} {hb w₀ w w' : Vw} {own : Own} {s s' : Shared} (S : Sim prog wd H0 env N s₀ hb w₀ w loc own s) (x : Stp w s w' s') : Sim prog wd H0 env N s₀ hb w₀ w' loc own s' where
  ok := x.ok S.ok
  fs := S.fs.stp x
  view := S.view.step x
  keep := fun b o e => x.keep b o (S.keep b o e)
  w0 := S.w0.trans x.mono
  fresh := fun b o e => by
    rcases x.fresh b o e with h | h
    · exact S.fresh b o h
    · refine .inr ?_
      cases q : hb b with
      | none => rfl
      | some o' => rw [S.keep b o' q] at h; cases h
  fr0 := S.fr0
  owns := fun p hp => by
    obtain ⟨a, b, c, d, e⟩ := S.owns p hp
    obtain ⟨o, ho, _⟩ := a.get
    exact ⟨a.keeps x.mono fun o e => x.keep _ _ e, (x.ms (Mu := fun _ => False)).hidden b ho, c, d, e⟩
  nd := S.nd
  os := x.os.trans S.os
  gens := x.gens.trans S.gens
theorem Sim.fra {N : Str → Prop} {s₀ : Shared} {hb w₀ w w' : Vw} {own : Own} {s s' : Shared} {loc' : Loc} (S : Sim prog wd H0 env N s₀ hb w₀ w loc own s) (x : MS (FrA env N) w s w' s') (F : FS H0 env N w' s'.heap) (V : View prog wd env loc' w' s'.heap) : Sim prog wd H0 env N s₀ hb w₀ w' loc' own s' where
  ok := x.ok S.ok S.fs.base
  fs := F
  view := V
  keep := fun b o e => x.keep b o (fun q => by rw [S.fr0 b q] at e; cases e) (S.keep b o e)
  w0 := S.w0.trans x.mono
  fresh := fun b o e => by
    rcases x.fresh b o e with h | h
    · exact S.fresh b o h
    · refine .inr ?_
      cases q : hb b with
      | none => rfl
      | some o' => rw [S.keep b o' q] at h; cases h
  fr0 := S.fr0
  owns := fun p hp => by
    obtain ⟨a, b, c, d, e⟩ := S.owns p hp
    obtain ⟨o, ho, _⟩ := a.get
    exact ⟨a.keeps x.mono fun o q => x.keep _ _ e q, x.hidden b ho, c, d, e⟩
  nd := S.nd
  os := x.os.trans S.os
  gens := x.gens.trans S.gens

/-- the def's own lists and dicts, to be read -/
def Loc.res (loc : Loc) (own : Own) : Loc := fun x => match loc x with
  | some (.ptr a) => own.lookup a
  | o => o
open Classical in
noncomputable def Vw.full (w : Vw) (own : Own) (h : Heap) : Vw := fun b => if b ∈ own.map (·.1) then h.get? b else w b
open Classical in
noncomputable def Vw.back (w : Vw) (own : Own) : Vw := fun b => if b ∈ own.map (·.1) then none else w b
theorem lookup_mem_own {own : Own} {a : Addr} {d : D} (h : own.lookup a = some d) : (a, d) ∈ own := by
  induction own with
  | nil => cases h
  | cons p r ih =>
    obtain ⟨b, e⟩ := p
    rw [List.lookup_cons] at h
    cases hb : a == b with
    | true => rw [hb] at h; cases h; rw [beq_iff_eq.mp hb]; exact .head _
    | false => rw [hb] at h; exact .tail _ (ih h)
theorem Sim.full {N : Str → Prop} {s₀ : Shared} {hb w₀ w : Vw} {own : Own} {s : Shared} (S : Sim prog wd H0 env N s₀ hb w₀ w loc own s) :
    Ok H0 (w.full own s.heap) s ∧ View prog wd env (loc.res own) (w.full own s.heap) s.heap ∧ Vle w (w.full own s.heap) := by
  have le : Vle w (w.full own s.heap) := fun b o e => by
    unfold Vw.full
    split
    · exact S.ok.part b o e
    · exact e
  refine ⟨⟨S.ok.base, fun b o e => ?_⟩, fun x d e => ?_, le⟩
  · unfold Vw.full at e
    split at e
    · exact e
    · exact S.ok.part b o e
  · unfold Loc.res at e
    split at e
    · rename_i a q
      obtain ⟨v, L, r⟩ := S.view x _ q
      cases r with
      | ptr a =>
        have hm := lookup_mem_own e
        obtain ⟨ow, _, _, _, _⟩ := S.owns _ hm
        have hin : a ∈ own.map (·.1) := List.mem_map.mpr ⟨_, hm, rfl⟩
        have fa : ∀ o, s.heap.get? a = some o → (w.full own s.heap) a = some o := fun o q => by unfold Vw.full; rw [if_pos hin]; exact q
        refine ⟨_, L, ?_⟩
        cases ow with
        | lst e r => exact .lst (fa _ e) (r.mono le)
        | dct e lo hd kk => exact .dct (fa _ e) lo hd kk
    · rename_i q
      obtain ⟨v, L, r⟩ := S.view x d e
      exact ⟨v, L, r.mono le⟩
theorem Sim.back {N : Str → Prop} {s₀ : Shared} {hb w₀ w w₁ : Vw} {own : Own} {s s' : Shared} (S : Sim prog wd H0 env N s₀ hb w₀ w loc own s) (x : Stp (w.full own s.heap) s w₁ s') : Sim prog wd H0 env N s₀ hb w₀ (w₁.back own) loc own s' := by
  refine S.stp ⟨fun b o e => ?_, fun b o e => ?_, fun b o e => ?_, x.keep, x.os, x.gens⟩
  · unfold Vw.back
    split
    · rename_i hin
      obtain ⟨p, hp, rfl⟩ := List.mem_map.mp hin
      rw [(S.owns p hp).2.1] at e; cases e
    · exact x.mono _ _ (S.full.2.2 _ _ e)
  · unfold Vw.back at e
    split at e
    · cases e
    · exact x.part _ _ e
  · unfold Vw.back at e
    split at e
    · cases e
    · rename_i hin
      rcases x.fresh _ _ e with h | h
      · unfold Vw.full at h
        rw [if_neg hin] at h; exact .inl h
      · exact .inr h
/-- without lists and dicts -/
def D.flat : Nat → D → Bool
  | _, .none => true
  | _, .bool _ => true
  | _, .int _ => true
  | n + 1, .tup l => l.all (D.flat n)
  | _, _ => false
mutual
theorem RV.back {w : Vw} {own : Own} (hn : ∀ a o, a ∈ own.map (·.1) → w a = some o → o.cls ≠ .type "tuple") : ∀ {v : Value} {d : D} (n : Nat), RV prog wd w v d → d.flat n = true → RV prog wd (w.back own) v d
  | _, _, _, .none, _ => .none
  | _, _, _, .bool b, _ => .bool b
  | _, _, _, .int i t, _ => .int i t
  | _, _, 0, .tup _ _, h => by simp [D.flat] at h
  | _, _, n + 1, .tup a r, h => .tup (by
      unfold Vw.back
      rw [if_neg (fun q => hn _ _ q a rfl)]; exact a) (RVs.back hn n r (by simpa [D.flat] using h))
  | _, _, n, .lst _ _, h => by cases n <;> simp [D.flat] at h
  | _, _, n, .dct _ _ _ _, h => by cases n <;> simp [D.flat] at h
  | _, _, n, .tc _ _ _, h => by cases n <;> simp [D.flat] at h
  | _, _, n, .ptr _, h => by cases n <;> simp [D.flat] at h
theorem RVs.back {w : Vw} {own : Own} (hn : ∀ a o, a ∈ own.map (·.1) → w a = some o → o.cls ≠ .type "tuple") : ∀ {vs : List Value} {ds : List D} (n : Nat), RVs prog wd w vs ds → (∀ d ∈ ds, d.flat n = true) → RVs prog wd (w.back own) vs ds
  | _, _, _, .nil, _ => .nil
  | _, _, n, .cons a r, h => .cons (RV.back hn n a (h _ (.head _))) (RVs.back hn n r fun d m => h d (.tail _ m))
end
theorem Sim.noTup {N : Str → Prop} {s₀ : Shared} {hb w₀ w w₁ : Vw} {own : Own} {s s' : Shared} (S : Sim prog wd H0 env N s₀ hb w₀ w loc own s) (x : Stp (w.full own s.heap) s w₁ s') : ∀ a o, a ∈ own.map (·.1) → w₁ a = some o → o.cls ≠ .type "tuple" := fun a o hin e => by
  obtain ⟨p, hp, rfl⟩ := List.mem_map.mp hin
  obtain ⟨ob, ho, _, _, hc⟩ := (S.owns p hp).1.get
  have := x.part _ _ e
  rw [x.keep _ _ ho] at this
  cases this
  exact hc
/-- a value read anywhere -/
theorem Sim.evl {N : Str → Prop} {s₀ : Shared} {hb w₀ w : Vw} {own : Own} {s : Shared} {e : Expr} {d : D} (S : Sim prog wd H0 env N s₀ hb w₀ w loc own s) (n : Nat) (h : PE prog wd H0 A env (loc.res own) e d) (hf : d.flat n = true) :
    wpAny (model prog wd) A (eval e env) (fun v s' => ∃ w', Sim prog wd H0 env N s₀ hb w₀ w' loc own s' ∧ RV prog wd w' v d) NoE s := by
  obtain ⟨o, V, _⟩ := S.full
  refine wpAny_mono (h _ s o V) (fun v s' ⟨w₁, x, r⟩ => ?_) fun _ _ f => f
  exact ⟨_, S.back x, r.back (S.noTup x) n hf⟩
theorem Sim.tst {N : Str → Prop} {s₀ : Shared} {hb w₀ w : Vw} {own : Own} {s : Shared} {e : Expr} {b : Bool} (S : Sim prog wd H0 env N s₀ hb w₀ w loc own s) (h : PT prog wd H0 A env (loc.res own) e b) :
    wpAny (model prog wd) A (PySem.isTrue e env (eval e env)) (fun r s' => ∃ w', Sim prog wd H0 env N s₀ hb w₀ w' loc own s' ∧ r = b) NoE s := by
  obtain ⟨o, V, _⟩ := S.full
  exact wpAny_mono (h _ s o V) (fun v s' ⟨w₁, x, r⟩ => ⟨_, S.back x, r⟩) fun _ _ f => f
end
end Mine
namespace Mine
open PySem PySem.Calls PyProof.Rows PySem.W
section
variable {prog : Program} {wd : World} {H0 : Heap} {A : Around} {env : Env} {loc : Loc} {N : Str → Prop} {own : Own} {Qn : Loc → Own → Prop} {Qr : D → Prop}

theorem SX.assign {x : Str} {px pos : Pos} {value : Expr} {d : D} (EO : EnvOk env N) (hx : N x) (hkx : env.kindOf x = some .local ∨ env.kindOf x = some .cell) (h : PE prog wd H0 A env loc value d)
    (hs : swapsWith value (some (.Name x px)) pos.line env = pure false) (hq : Qn (loc.set x d) own) : SX prog wd H0 A env N loc own (.Assign [.Name x px] value pos) Qn Qr := fun s₀ hb w₀ w s S => by
  refine wpAny_Assign_Name (wpAny_mono (h w s S.ok S.view) (fun v s₁ ⟨w₁, x₁, r⟩ => ?_) fun _ _ f => f) hs
  have S₁ := S.stp x₁
  exact wpAny_mono (store_ok hx hkx EO S₁.ok S₁.fs S₁.view r) (fun _ s₂ ⟨M, F, V⟩ => ⟨w₁, _, own, S₁.fra M F V, hq⟩) fun _ _ f => f
theorem SX.assignF {x : Str} {px pos : Pos} {value : Expr} {d : D} (n : Nat) (EO : EnvOk env N) (hx : N x) (hkx : env.kindOf x = some .local ∨ env.kindOf x = some .cell) (h : PE prog wd H0 A env (loc.res own) value d) (hf : d.flat n = true)
    (hs : swapsWith value (some (.Name x px)) pos.line env = pure false) (hq : Qn (loc.set x d) own) : SX prog wd H0 A env N loc own (.Assign [.Name x px] value pos) Qn Qr := fun s₀ hb w₀ w s S => by
  refine wpAny_Assign_Name (wpAny_mono (S.evl n h hf) (fun v s₁ ⟨w₁, S₁, r⟩ => ?_) fun _ _ f => f) hs
  exact wpAny_mono (store_ok hx hkx EO S₁.ok S₁.fs S₁.view r) (fun _ s₂ ⟨M, F, V⟩ => ⟨w₁, _, own, S₁.fra M F V, hq⟩) fun _ _ f => f
theorem SX.assignT {ts : List Expr} {k : Nat} {tpos pos : Pos} {value : Expr} {d : D} {loc' : Loc} (n : Nat) (h : PE prog wd H0 A env (loc.res own) value d) (hf : d.flat n = true) (ht : BT prog wd H0 A env N loc (.Tuple ts k tpos) d loc')
    (hs : swapsWithSole [.Tuple ts k tpos] value pos.line env = pure false) (hw : swappedStores [.Tuple ts k tpos] value env = pure none) (hq : Qn loc' own) : SX prog wd H0 A env N loc own (.Assign [.Tuple ts k tpos] value pos) Qn Qr := fun s₀ hb w₀ w s S => by
  refine Assign_Tuple (wpAny_mono (S.evl n h hf) (fun v s₁ ⟨w₁, S₁, r⟩ => ?_) fun _ _ f => f) hs hw
  exact wpAny_mono (ht w₁ s₁ v S₁.ok S₁.fs S₁.view r) (fun _ s₂ ⟨w₂, M, F, V⟩ => ⟨w₂, _, own, S₁.fra M F V, hq⟩) fun _ _ f => f
/-- a tuple of any data, its parts seen -/
theorem SX.assignTF {ts : List Expr} {k : Nat} {tpos pos : Pos} {value : Expr} {d : D} {loc' : Loc} (h : PE prog wd H0 A env loc value d) (ht : BT prog wd H0 A env N loc (.Tuple ts k tpos) d loc')
    (hs : swapsWithSole [.Tuple ts k tpos] value pos.line env = pure false) (hw : swappedStores [.Tuple ts k tpos] value env = pure none) (hq : Qn loc' own) : SX prog wd H0 A env N loc own (.Assign [.Tuple ts k tpos] value pos) Qn Qr := fun s₀ hb w₀ w s S => by
  refine Assign_Tuple (wpAny_mono (h w s S.ok S.view) (fun v s₁ ⟨w₁, x₁, r⟩ => ?_) fun _ _ f => f) hs hw
  have S₁ := S.stp x₁
  exact wpAny_mono (ht w₁ s₁ v S₁.ok S₁.fs S₁.view r) (fun _ s₂ ⟨w₂, M, F, V⟩ => ⟨w₂, _, own, S₁.fra M F V, hq⟩) fun _ _ f => f
theorem SX.ifs {c : Expr} {body orelse : List Stmt} {pos : Pos} {b : Bool} (h : PT prog wd H0 A env (loc.res own) c b) (ht : b = true → SW prog wd H0 A env N loc own body Qn Qr) (hf : b = false → SW prog wd H0 A env N loc own orelse Qn Qr) :
    SX prog wd H0 A env N loc own (.If c body orelse pos) Qn Qr := fun s₀ hb w₀ w s S => by
  refine wpAny_If (wpAny_mono (S.tst h) (fun r s₁ ⟨w₁, S₁, e⟩ => ?_) fun _ _ f => f)
  subst e
  cases r
  · exact hf rfl s₀ hb w₀ w₁ s₁ S₁
  · exact ht rfl s₀ hb w₀ w₁ s₁ S₁
theorem Vw.full_fresh {N : Str → Prop} {s₀ : Shared} {hb w₀ w : Vw} {s : Shared} (S : Sim prog wd H0 env N s₀ hb w₀ w loc own s) : ∀ b o, w.full own s.heap b = some o → w₀ b = some o ∨ hb b = Option.none := fun b o e => by
  unfold Vw.full at e
  split at e
  · rename_i hin
    obtain ⟨p, hp, rfl⟩ := List.mem_map.mp hin
    exact .inr (S.owns p hp).2.2.1
  · exact S.fresh b o e
theorem SX.ret {e : Expr} {pos : Pos} {d : D} (h : PE prog wd H0 A env (loc.res own) e d) (hq : Qr d) : SX prog wd H0 A env N loc own (.Return (some e) pos) Qn Qr := fun s₀ hb w₀ w s S => by
  obtain ⟨o, V, le⟩ := S.full
  refine wpAny_Return_some (wpAny_mono (h _ s o V) (fun v s₁ ⟨w₁, x, r⟩ => ?_) fun _ _ f => f)
  refine ⟨d, ⟨w₁, (S.w0.trans le).trans x.mono, x.part, fun b ob e => ?_, fun b ob e => x.keep b ob (S.keep b ob e), x.os.trans S.os, x.gens.trans S.gens, r⟩, hq⟩
  rcases x.fresh b ob e with q | q
  · exact Vw.full_fresh S b ob q
  · refine .inr ?_
    cases q' : hb b with
    | none => rfl
    | some o' => rw [S.keep b o' q'] at q; cases q

/-- an own list or dict, let be from now on -/
def own_del (own : Own) (a : Addr) : Own := own.filter fun p => p.1 != a
theorem SW.freeze {sts : List Stmt} {x : Str} {a : Addr} {d : D} (hx : loc x = some (.ptr a)) (ha : own.lookup a = some d) (h : SW prog wd H0 A env N (loc.set x d) (own_del own a) sts Qn Qr) : SW prog wd H0 A env N loc own sts Qn Qr := fun s₀ hb w₀ w s S => by
  have hm := lookup_mem_own ha
  obtain ⟨ow, wa, hba, h0, hf⟩ := S.owns _ hm
  obtain ⟨o, ho, _⟩ := ow.get
  have hle : Vle w (w.put a o) := Vw.le_put wa
  have sub : ∀ p ∈ own_del own a, p ∈ own ∧ p.1 ≠ a := fun p hp => by
    have := List.mem_filter.mp hp
    exact ⟨this.1, by simpa using this.2⟩
  have rv : RV prog wd (w.put a o) (.ref a) d := by
    cases ow with
    | lst e r => rw [ho] at e; cases e; exact .lst (Vw.put_self ..) (r.mono hle)
    | dct e lo hd kk => rw [ho] at e; cases e; exact .dct (Vw.put_self ..) lo hd kk
  have par : ∀ b ob, (w.put a o) b = some ob → s.heap.get? b = some ob := fun b ob e => by
    unfold Vw.put at e
    split at e
    · rename_i q; cases e; rw [q]; exact ho
    · exact S.ok.part b ob e
  have oth : ∀ b, b ≠ a → (w.put a o) b = w b := fun b hb => by unfold Vw.put; rw [if_neg hb]
  refine h s₀ hb w₀ (w.put a o) s ⟨⟨S.ok.base, par⟩, ⟨S.fs.ns, ?_, S.fs.hl, fun y n k => ?_⟩, fun y dy e => ?_, S.keep, S.w0.trans hle, fun b ob e => ?_, S.fr0, fun p hp => ?_, ?_, S.os, S.gens⟩
  · rw [oth _ (fun q => hf (.inl q.symm))]; exact S.fs.wl
  · obtain ⟨c, l, ic, wc, hc⟩ := S.fs.cell y n k
    exact ⟨c, l, ic, by rw [oth _ (fun q => hf (.inr ⟨y, n, k, q ▸ l⟩))]; exact wc, hc⟩
  · unfold Loc.set at e
    split at e
    · rename_i q
      cases e
      obtain ⟨v, L, r⟩ := S.view x _ hx
      cases r
      subst q
      exact ⟨_, L, rv⟩
    · obtain ⟨v, L, r⟩ := S.view y dy e
      exact ⟨v, L, r.mono hle⟩
  · unfold Vw.put at e
    split at e
    · rename_i q; rw [q]; exact .inr hba
    · exact S.fresh b ob e
  · obtain ⟨hp, hne⟩ := sub p hp
    obtain ⟨b1, b2, b3, b4, b5⟩ := S.owns p hp
    exact ⟨b1.keeps hle fun _ q => q, by rw [oth _ hne]; exact b2, b3, b4, b5⟩
  · have : (own_del own a).map (·.1) = (own.map (·.1)).filter (· != a) := by
      simp [own_del, List.filter_map, Function.comp_def]
    rw [this]
    exact S.nd.filter _

/-- a new list of one's own -/
def FLE (prog : Program) (wd : World) (H0 : Heap) (A : Around) (env : Env) (loc : Loc) (e : Expr) (d : D) : Prop :=
  ∀ (w : Vw) (s : Shared), Ok H0 w s → View prog wd env loc w s.heap →
    wpAny (model prog wd) A (eval e env) (fun v s' => ∃ w' a, v = .ref a ∧ Stp w s w' s' ∧ w' a = Option.none ∧ s.heap.get? a = Option.none ∧ Owned prog wd w' s'.heap a d) NoE s
theorem FLE.lst {es : List Expr} {ds : List D} {pos : Pos} (h : PEs prog wd H0 A env loc es ds) (hz : ds.length ≤ 1000) : FLE prog wd H0 A env loc (.List es pos) (.lst ds) := fun w s o V => by
  refine List_ (wpAny_mono (h pos w s o V) (fun vs s₁ ⟨w₁, S₁, R₁⟩ => ?_) fun _ _ f => f)
  refine wpAny_newObj_type (data := .seq vs.toArray) ?_ (by show vs.toArray.size ≤ sizeLine; rw [List.size_toArray, R₁.length]; exact Nat.le_trans hz (by decide))
  have o₁ := S₁.ok o
  have fr := fresh_size s₁.heap
  refine ⟨w₁, s₁.heap.objs.size, rfl, S₁.trans (.quiet o₁ (fun _ _ e => Heap.get?_push_of_some _ e) rfl rfl), w_fresh o₁ fr, ?_, .lst (Heap.get?_push_size _ rfl) (by simpa using R₁)⟩
  cases q : s.heap.get? s₁.heap.objs.size with
  | none => rfl
  | some ob => rw [S₁.keep _ _ q] at fr; cases fr
theorem FLE.sliceFrom {value : Expr} {pos p p' : Pos} {ds : List D} {k : Nat} {kd : Nat} (hv : PE prog wd H0 A env loc value (.lst ds)) (hz : ds.length ≤ 1000) (ht : ∀ o r, letTemporaryGo value o r = pure ()) :
    FLE prog wd H0 A env loc (.Subscript value (.Slice (some (.Constant (.int k) kd p)) Option.none Option.none p') pos) (.lst (ds.drop k)) := fun w s o V => by
  refine wpAny_Subscript_list_slice (wpAny_mono (hv w s o V) (fun v s₁ ⟨w₁, S₁, R₁⟩ => ?_) fun _ _ f => f) ht
  rw [evalPart_some]
  refine wpAny_Constant_int ?_
  rw [evalPart_none]
  refine wpAny_pure ?_
  obtain ⟨a, rfl⟩ := R₁.lstRef
  obtain ⟨vs, n, _, hl, r⟩ := R₁.isList (S₁.ok o).part
  have e : vs.size = ds.length := by rw [← r.length, Array.length_toList]
  refine ⟨a, vs, some k, Option.none, rfl, hl, by rw [e]; exact Nat.le_trans hz (by decide), .int _ _, .none, ?_⟩
  have q : Stp w₁ s₁ w₁ { s₁ with heap := s₁.heap.push { cls := .type "slice", data := .fields #[.int k s₁.toks, .none, .none] }, toks := s₁.toks + 1 } := .quiet (S₁.ok o) (fun _ _ e => Heap.get?_push_of_some _ e) rfl rfl
  have hz : (s₁.heap.push { cls := .type "slice", data := .fields #[.int k s₁.toks, .none, .none] }).objs.size = s₁.heap.objs.size + 1 := Heap.size_push ..
  have o₂ := q.ok (S₁.ok o)
  have fr := fresh_size (s₁.heap.push { cls := .type "slice", data := .fields #[.int k s₁.toks, .none, .none] })
  have S₂ := S₁.trans q
  rw [← hz]
  refine ⟨w₁, _, rfl, S₂.trans (.quiet o₂ (fun _ _ e => Heap.get?_push_of_some _ e) rfl rfl), w_fresh o₂ fr, ?_, .lst (vs := slicePick vs (some (k : Int)) Option.none Option.none) (n := 0) (Heap.get?_push_size _ rfl) ?_⟩
  · cases q' : s.heap.get? (s₁.heap.push { cls := .type "slice", data := .fields #[.int k s₁.toks, .none, .none] }).objs.size with
    | none => rfl
    | some ob => have := S₂.keep _ _ q'; exact absurd this (by rw [show ({ s₁ with heap := s₁.heap.push { cls := .type "slice", data := .fields #[.int k s₁.toks, .none, .none] }, toks := s₁.toks + 1 } : Shared).heap.get? _ = _ from fr]; simp)
  · rw [show (slicePick vs (some (k : Int)) Option.none Option.none).toList = vs.toList.drop k from by rw [slicePick_from']]
    exact r.drop k
/-- what may be said of an own datum whose parts are seen without it -/
theorem Sim.fle {s₀ : Shared} {hb w₀ w : Vw} {s : Shared} {e : Expr} {ds : List D} (n : Nat) (S : Sim prog wd H0 env N s₀ hb w₀ w loc own s) (h : FLE prog wd H0 A env (loc.res own) e (.lst ds)) (hf : ∀ d ∈ ds, d.flat n = true) :
    wpAny (model prog wd) A (eval e env) (fun v s' => ∃ w' a, v = .ref a ∧ Sim prog wd H0 env N s₀ hb w₀ w' loc ((a, .lst ds) :: own) s') NoE s := by
  obtain ⟨o, V, _⟩ := S.full
  refine wpAny_mono (h _ s o V) (fun v s' ⟨w₁, a, ev, x, wa, fa, ow⟩ => ?_) fun _ _ f => f
  have S' := S.back x
  have nin : a ∉ own.map (·.1) := fun q => by
    obtain ⟨p, hp, rfl⟩ := List.mem_map.mp q
    obtain ⟨ob, ho, _⟩ := (S.owns p hp).1.get
    rw [fa] at ho; cases ho
  have ow' : Owned prog wd (w₁.back own) s'.heap a (.lst ds) := by
    cases ow with
    | lst e r => exact .lst e (r.back (S.noTup x) n hf)
  refine ⟨w₁.back own, a, ev, ⟨S'.ok, S'.fs, S'.view, S'.keep, S'.w0, S'.fresh, S'.fr0, fun p hp => ?_, List.nodup_cons.mpr ⟨nin, S'.nd⟩, S'.os, S'.gens⟩⟩
  rcases List.mem_cons.mp hp with rfl | hp
  · refine ⟨ow', by unfold Vw.back; rw [if_neg nin]; exact wa, ?_, H0_fresh S.ok fa, ?_⟩
    · cases q : hb a with
      | none => rfl
      | some ob => rw [S.keep _ _ q] at fa; cases fa
    · rintro (q | ⟨y, ny, k, l⟩)
      · obtain ⟨m, oL, es, ep, g, _⟩ := S.fs.ns
        have q' : a = env.locals := q
        rw [q', g] at fa; cases fa
      · obtain ⟨c, l', ⟨u, oc, g, _⟩, _⟩ := S.fs.cell y ny k
        rw [l] at l'; cases l'
        rw [g] at fa; cases fa
  · exact S'.owns p hp
theorem SX.assignNew {x : Str} {px pos : Pos} {value : Expr} {ds : List D} (n : Nat) (EO : EnvOk env N) (hx : N x) (hkx : env.kindOf x = some .local ∨ env.kindOf x = some .cell) (h : FLE prog wd H0 A env (loc.res own) value (.lst ds)) (hf : ∀ d ∈ ds, d.flat n = true)
    (hs : swapsWith value (some (.Name x px)) pos.line env = pure false) (hq : ∀ a, (a ∉ own.map (·.1)) → Qn (loc.set x (.ptr a)) ((a, .lst ds) :: own)) : SX prog wd H0 A env N loc own (.Assign [.Name x px] value pos) Qn Qr := fun s₀ hb w₀ w s S => by
  refine wpAny_Assign_Name (wpAny_mono (S.fle n h hf) (fun v s₁ ⟨w₁, a, ev, S₁⟩ => ?_) fun _ _ f => f) hs
  subst ev
  exact wpAny_mono (store_ok hx hkx EO S₁.ok S₁.fs S₁.view (.ptr a)) (fun _ s₂ ⟨M, F, V⟩ => ⟨w₁, _, _, S₁.fra M F V, hq a (List.nodup_cons.mp S₁.nd).1⟩) fun _ _ f => f
end
end Mine
namespace Mine
open PySem PySem.Calls PyProof.Rows PySem.W
section
variable {prog : Program} {wd : World} {H0 : Heap} {A : Around}

def locOf (names : List Str) (ds : List D) : Loc := fun x => (names.zip ds).lookup x
abbrev All : Str → Prop := fun _ => True

theorem bindL_skip {kd : Str → Option NameKind} {x : Str} : ∀ (binds : List (Str × Value)) (m : Str → Option Value), x ∉ binds.map (·.1) → bindL kd binds m x = m x
  | [], _, _ => rfl
  | (n, v) :: r, m, h => by
    have hn : x ≠ n := fun q => h (q ▸ .head _)
    show bindL kd r (if kd n = some .local then fun y => if y = n then some v else m y else m) x = m x
    rw [bindL_skip r _ fun q => h (.tail _ q)]
    split
    · simp [hn]
    · rfl
theorem bindC_skip {kd : Str → Option NameKind} {x : Str} : ∀ (binds : List (Str × Value)) (m : Str → Option Value), x ∉ binds.map (·.1) → bindC kd binds m x = m x
  | [], _, _ => rfl
  | (n, v) :: r, m, h => by
    have hn : x ≠ n := fun q => h (q ▸ .head _)
    show bindC kd r (if kd n = some .local then m else fun y => if y = n then some v else m y) x = m x
    rw [bindC_skip r _ fun q => h (.tail _ q)]
    split
    · rfl
    · simp [hn]
theorem bindL_get {kd : Str → Option NameKind} {x : Str} {v : Value} (hk : kd x = some .local) : ∀ (binds : List (Str × Value)) (m : Str → Option Value), (binds.map (·.1)).Nodup → (x, v) ∈ binds → bindL kd binds m x = some v
  | (n, u) :: r, m, hd, hm => by
    obtain ⟨h1, h2⟩ := List.nodup_cons.mp hd
    show bindL kd r (if kd n = some .local then fun y => if y = n then some u else m y else m) x = some v
    rcases List.mem_cons.mp hm with q | q
    · cases q
      rw [bindL_skip r _ h1, if_pos hk]; simp
    · exact bindL_get hk r _ h2 q
theorem bindC_get {kd : Str → Option NameKind} {x : Str} {v : Value} (hk : kd x ≠ some .local) : ∀ (binds : List (Str × Value)) (m : Str → Option Value), (binds.map (·.1)).Nodup → (x, v) ∈ binds → bindC kd binds m x = some v
  | (n, u) :: r, m, hd, hm => by
    obtain ⟨h1, h2⟩ := List.nodup_cons.mp hd
    show bindC kd r (if kd n = some .local then m else fun y => if y = n then some u else m y) x = some v
    rcases List.mem_cons.mp hm with q | q
    · cases q
      rw [bindC_skip r _ h1, if_neg hk]; simp
    · exact bindC_get hk r _ h2 q
theorem locOf_get {w : Vw} {x : Str} {d : D} : ∀ {names : List Str} {vs : List Value} {ds : List D}, RVs prog wd w vs ds → locOf names ds x = some d → ∃ v, (x, v) ∈ names.zip vs ∧ RV prog wd w v d
  | [], _, _, _, h => by cases h
  | _ :: _, _, _, .nil, h => by cases h
  | n :: r, v :: vs, e :: ds, .cons a rs, h => by
    unfold locOf at h
    rw [List.zip_cons_cons, List.lookup_cons] at h
    cases hx : x == n with
    | true => rw [hx] at h; cases h; rw [beq_iff_eq.mp hx]; exact ⟨v, .head _, a⟩
    | false =>
      rw [hx] at h
      obtain ⟨u, hu, ru⟩ := locOf_get (names := r) rs h
      exact ⟨u, .tail _ hu, ru⟩

/-- the facts of a def of the top's -/
structure FnOk (H0 : Heap) (f : Addr) (fd : FuncData) (body : List Stmt) : Prop where
  obj : ∃ o, H0.get? f = some o ∧ o.data = .func fd
  body : fd.body = .stmts body
  clo : fd.closure = []
  lim : H0.NoLimit
  code : H0.CodeRec fd.code fd.qualname
  co : fd.scope.isCoroutine = false
  gen : fd.scope.isGenerator = false
  kind : fd.scope.kind = .function

theorem fn_enter {f : Addr} {fd : FuncData} {body : List Stmt} {names : List Str} {vals all : List Value} {ds : List D} {w : Vw} {s : Shared} {Q : Value → Shared → Prop} (K : FnOk H0 f fd body) (hroom : A.depth < recursionLimit)
    (hbind : BindsTo s fd ⟨vals, []⟩ (names.zip all)) (hlen : names.length = all.length) (hkind : names.all (fun y => fd.scope.names.lookup y == some .local || fd.scope.names.lookup y == some .cell) = true) (hnd : names.Nodup)
    (o : Ok H0 w s) (r : RVs prog wd w all ds)
    (h : ∀ L s₁, s₁.os = s.os → s₁.gens = s.gens → (∀ b o, s.heap.get? b = some o → s₁.heap.get? b = some o) → EnvOk (callEnvC fd L f) All → FS H0 (callEnvC fd L f) All w s₁.heap → View prog wd (callEnvC fd L f) (locOf names ds) w s₁.heap →
      (∀ b, FrA (callEnvC fd L f) All b → s.heap.get? b = none) →
      wpAny (model prog wd) (A.deeper (callEnvC fd L f)) (execs body (callEnvC fd L f)) (fun fl s' => Q (match fl with | .ret v => v | _ => .none) s') NoE s₁) :
    wpAny (model prog wd) A (call (.ref f) vals) Q NoE s := by
  obtain ⟨ob, ho, hd⟩ := K.obj
  have hfst : (names.zip all).map (·.1) = names := by rw [List.map_fst_zip]; omega
  have hk2 : ∀ x ∈ names.zip all, fd.scope.names.lookup x.1 = some .local ∨ fd.scope.names.lookup x.1 = some .cell := fun x hx => by
    have := List.all_eq_true.mp hkind x.1 (by rw [← hfst]; exact List.mem_map.mpr ⟨x, hx, rfl⟩)
    rcases Bool.or_eq_true_iff.mp this with q | q
    · exact .inl (by simpa using q)
    · exact .inr (by simpa using q)
  refine wpAny_call (codeAny_call_function hroom (o.base _ _ ho) hd K.co K.gen K.body (K.code.keeps o.base) (hbind _ _ _ _ ?_))
  rw [K.clo]
  refine wpAny_newFunctionEnv_cells K.kind (fun x hx => (hk2 x hx).imp id fun q => ⟨q, ?_⟩) fun env he s' x => ?_
  · obtain ⟨c, e, _⟩ := cells_own fd.scope.names (s.heap.objs.size + 1) [] q
    rw [e]; rfl
  have he' : env = callEnvC fd s.heap.objs.size f := he
  subst he'
  refine ⟨(K.lim.keeps o.base).keeps x.toInCall.keep, codeAny_func ?_⟩
  obtain ⟨h₁, tk, rfl, _⟩ := x.done
  have kp := x.toInCall.keep
  have above : ∀ a, s.heap.objs.size ≤ a → s.heap.get? a = none := fun a ha => by
    cases e : s.heap.get? a with
    | none => rfl
    | some o' => exact absurd (Heap.lt_size e) (Nat.not_lt.mpr ha)
  have hL : (callEnvC fd s.heap.objs.size f).locals = s.heap.objs.size := rfl
  have cellA : ∀ y c, (callEnvC fd s.heap.objs.size f).cells.lookup y = some c → s.heap.get? c = none := fun y c e => above _ (Nat.le_of_lt (x.above y c (mem_of_lookup e)))
  have EO : EnvOk (callEnvC fd s.heap.objs.size f) All := ⟨K.kind, fun y z c _ _ l l' => name_of_addr x.apart (mem_of_lookup l') (mem_of_lookup l)⟩
  have F : FS H0 (callEnvC fd s.heap.objs.size f) All w h₁ := by
    refine ⟨⟨_, x.toInCall.ns⟩, w_fresh o (above _ (Nat.le_refl _)), H0_fresh o (above _ (Nat.le_refl _)), fun y _ k => ?_⟩
    obtain ⟨c, e, _⟩ := cells_own fd.scope.names (s.heap.objs.size + 1) [] (x := y) k
    have e' : (callEnvC fd s.heap.objs.size f).cells.lookup y = some c := e
    exact ⟨c, e', ⟨_, x.cell y c e'⟩, w_fresh o (cellA y c e'), H0_fresh o (cellA y c e')⟩
  have V : View prog wd (callEnvC fd s.heap.objs.size f) (locOf names ds) w h₁ := fun y d e => by
    obtain ⟨v, hm, rv⟩ := locOf_get r e
    refine ⟨v, ?_, rv⟩
    rcases hk2 _ hm with q | q
    · exact .inl ⟨q, _, x.toInCall.ns, bindL_get q _ _ (by rw [hfst]; exact hnd) hm⟩
    · obtain ⟨c, e, _⟩ := cells_own fd.scope.names (s.heap.objs.size + 1) [] (x := y) q
      have e' : (callEnvC fd s.heap.objs.size f).cells.lookup y = some c := e
      refine .inr ⟨.inl q, c, e', ?_⟩
      have ic := x.cell y c e'
      rw [bindC_get (by show fd.scope.names.lookup y ≠ _; rw [q]; simp) _ _ (by rw [hfst]; exact hnd) hm] at ic
      exact ic
  exact wpAny_mono (h s.heap.objs.size { s with heap := h₁, toks := tk } rfl rfl kp EO F V fun b q => by
    rcases q with q | ⟨y, _, k, l⟩
    · rw [q, hL]; exact above _ (Nat.le_refl _)
    · exact cellA y b l) (fun _ _ q => q) fun _ _ f => f.elim

/-- a def that only makes -/
theorem CF.ofSW {f : Addr} {fd : FuncData} {body : List Stmt} {names : List Str} {extra : List Value} {ds exD : List D} {r : D} (K : FnOk H0 f fd body) (hroom : A.depth < recursionLimit)
    (hbind : ∀ s vals, (∀ b o, H0.get? b = some o → s.heap.get? b = some o) → vals.length = ds.length → BindsTo s fd ⟨vals, []⟩ (names.zip (vals ++ extra))) (hlen : names.length = ds.length + exD.length)
    (hkind : names.all (fun y => fd.scope.names.lookup y == some .local || fd.scope.names.lookup y == some .cell) = true) (hnd : names.Nodup) (hex : ∀ w, RVs prog wd w extra exD)
    (h : ∀ L, EnvOk (callEnvC fd L f) All → SW prog wd H0 (A.deeper (callEnvC fd L f)) (callEnvC fd L f) All (locOf names (ds ++ exD)) [] body (fun _ _ => r = .none) (fun d => d = r)) : CF prog wd H0 A (.ref f) ds r := fun w s vs o rv => by
  have hl := rv.length
  have hl2 := (hex w).length
  refine fn_enter K hroom (hbind s vs o.base hl) (by rw [List.length_append, hl, hl2]; exact hlen) hkind hnd o (rv.append (hex w)) fun L s₁ hos hgs kp EO F V fra => ?_
  refine wpAny_mono (h L EO s s.heap.get? w w s₁ ⟨⟨fun b o' e => kp b o' (o.base b o' e), fun b o' e => kp b o' (o.part b o' e)⟩, F, V, kp, .refl w, fun b o' e => .inl e, fra, fun p hp => (nomatch hp), List.nodup_nil, hos, hgs⟩) (fun fl s' h' => ?_) fun _ _ f => f
  cases fl with
  | next =>
    obtain ⟨w', loc', own', S, e⟩ := h'
    subst e
    exact ⟨w', ⟨S.w0, S.ok.part, S.fresh, S.keep, S.os, S.gens⟩, .none⟩
  | ret v =>
    obtain ⟨d, ⟨w', a, b, c, e, g, i, rv⟩, q⟩ := h'
    subst q
    exact ⟨w', ⟨a, b, c, e, g, i⟩, rv⟩
  | brk => exact h'.elim
  | cont => exact h'.elim
end
end Mine
namespace Mine
open PySem PySem.Calls PyProof.Rows PySem.W
section
variable {prog : Program} {wd : World} {H0 : Heap} {A : Around} {env : Env} {loc : Loc} {N : Str → Prop} {own : Own} {Qn : Loc → Own → Prop} {Qr : D → Prop}

def own_set (own : Own) (a : Addr) (d : D) : Own := own.map fun p => if p.1 = a then (a, d) else p
theorem own_set_map (own : Own) (a : Addr) (d : D) : (own_set own a d).map (·.1) = own.map (·.1) := by
  unfold own_set
  rw [List.map_map]
  refine List.map_congr_left fun p _ => ?_
  show (if p.1 = a then (a, d) else p).1 = p.1
  split
  · rename_i q; exact q.symm
  · rfl
theorem Sim.upd {s₀ : Shared} {hb w₀ w w' : Vw} {s s' : Shared} {a : Addr} {d d' : D} (S : Sim prog wd H0 env N s₀ hb w₀ w loc own s) (hm : (a, d) ∈ own) (M : MS (· = a) w s w' s') (ow : Owned prog wd w' s'.heap a d') :
    Sim prog wd H0 env N s₀ hb w₀ w' loc (own_set own a d') s' := by
  obtain ⟨ow₀, wa, hba, h0, hf⟩ := S.owns _ hm
  obtain ⟨o, ho, nc, nf, nt⟩ := ow₀.get
  refine ⟨M.ok S.ok (fun b ob e q => by rw [q, h0] at e; cases e), S.fs.keeps M (fun b fb q => hf (q ▸ fb)), fun x dx e => ?_, fun b ob e => M.keep b ob (fun q => by rw [q, hba] at e; cases e) (S.keep b ob e), S.w0.trans M.mono, fun b ob e => ?_, S.fr0, fun p hp => ?_, by rw [own_set_map]; exact S.nd, M.os.trans S.os, M.gens.trans S.gens⟩
  · obtain ⟨u, L, r⟩ := S.view x dx e
    refine ⟨u, ?_, r.mono M.mono⟩
    rcases L with ⟨k, m, ⟨o₂, es, ep, g, d₂, r₂⟩, c₁⟩ | ⟨k, c₁, b₁, oc, hc, dc⟩
    · exact .inl ⟨k, m, ⟨o₂, es, ep, M.keep _ _ (fun q => hf (.inl q.symm)) g, d₂, r₂⟩, c₁⟩
    · exact .inr ⟨k, c₁, b₁, oc, M.keep _ _ (fun q => by rw [q, ho] at hc; cases hc; exact nc _ dc) hc, dc⟩
  · rcases M.fresh b ob e with q | q
    · exact S.fresh b ob q
    · refine .inr ?_
      cases q' : hb b with
      | none => rfl
      | some o' => rw [S.keep b o' q'] at q; cases q
  · obtain ⟨p₀, hp₀, rfl⟩ := List.mem_map.mp hp
    by_cases e : p₀.1 = a
    · rw [if_pos e]
      exact ⟨ow, M.hidden wa ho, hba, h0, hf⟩
    · rw [if_neg e]
      obtain ⟨b1, b2, b3, b4, b5⟩ := S.owns p₀ hp₀
      obtain ⟨o₁, ho₁, _⟩ := b1.get
      exact ⟨b1.keeps M.mono fun ob q => M.keep _ _ e q, M.hidden b2 ho₁, b3, b4, b5⟩

/-- x.append(e) -/
theorem SX.append {x : Str} {e : Expr} {px apos cpos pos : Pos} {a : Addr} {ds : List D} {d : D} (n : Nat) (hk : env.scope.kind = .function) (hx : loc x = some (.ptr a)) (ha : own.lookup a = some (.lst ds)) (h : PE prog wd H0 A env (loc.res own) e d) (hf : d.flat n = true) (hz : ds.length ≤ 10000)
    (hxd : (x == ("__debug__" : Str)) = false) (hxc : (x == ("__classdict__" : Str)) = false) (hse : starEach [e] env = [(false, eval e env)]) (hline : (apos.endLine == cpos.line) = true)
    (hbase : attributeBase (.Name x px) "append" env (eval (.Name x px) env) = eval (.Name x px) env) (hi : interactive env = false) (hs : swapsWith (.Call (.Attribute (.Name x px) "append" apos) [e] [] cpos) none pos.line env = pure false)
    (hq : Qn loc (own_set own a (.lst (ds ++ [d])))) : SX prog wd H0 A env N loc own (.Expr (.Call (.Attribute (.Name x px) "append" apos) [e] [] cpos) pos) Qn Qr := fun s₀ hb w₀ w s S => by
  refine wpAny_Expr ?_ hi hs
  refine wpAny_Call_method hbase (by rw [hse]; rfl) hline PySem.F.plainAttrs_list slot_list_append PySem.F.type_list_append ?_
  obtain ⟨v, L, r⟩ := S.view x _ hx
  cases r
  refine wpAny_Name (wpAny_look L hk hxc ?_) hxd
  have hm := lookup_mem_own ha
  obtain ⟨ow, wa, hba, h0, hfr⟩ := S.owns _ hm
  cases ow with
  | lst ea ra =>
    refine ⟨⟨_, ea, rfl⟩, fun b q => by cases q; exact ⟨_, ea, rfl⟩, ?_⟩
    rw [hse]
    refine callWith_of (P := fun _ => True) rfl (fun _ _ => ⟨.machine, .inr (.inl rfl), Looks.of_pure rfl⟩) (evalArgs_plain ?_)
    refine spliced_cons (wpAny_mono (S.evl n h hf) (fun u s₁ ⟨w₁, S₁, ru⟩ => ?_) fun _ _ f => f)
    refine spliced_nil ⟨trivial, ?_⟩
    obtain ⟨ow, wa, hba, h0, hfr⟩ := S₁.owns _ hm
    cases ow with
    | lst ea ra =>
      rename_i vs₁ n₁
      have e1 : vs₁.size = ds.length := by rw [← ra.length, Array.length_toList]
      show wpAny _ _ (call (.builtin "list.append") [.ref a, u]) _ _ _
      refine wpAny_list_append_plain (items := vs₁) ⟨_, ea⟩ (fun h' hp hsb => ?_) (by rw [e1, sizeLine_eq]; omega)
      obtain ⟨n', e'⟩ := hp
      have M : MS (· = a) w₁ s₁ w₁ { s₁ with heap := h' } := by
        refine ⟨.refl _, fun b ob q => hsb.extBut b ob (fun q' => by rw [q', wa] at q; cases q) (S₁.ok.part b ob q), fun _ _ q => .inl q, fun b ob nq q => hsb.extBut b ob nq q, fun b ob q => ?_, rfl, rfl⟩
        by_cases hb' : b = a
        · subst hb'; exact ⟨_, e'⟩
        · exact ⟨ob, hsb.extBut b ob hb' q⟩
      exact ⟨w₁, loc, _, S₁.upd hm M (.lst e' (by simpa using ra.append (.cons ru .nil))), hq⟩
end
end Mine
namespace Mine
open PySem PySem.Calls PyProof.Rows PySem.W
section
variable {prog : Program} {wd : World} {H0 : Heap} {A : Around} {env : Env} {loc : Loc} {N : Str → Prop} {own : Own} {Qn : Loc → Own → Prop} {Qr : D → Prop}

open Classical in
/-- the same state, seen from a later start -/
noncomputable def hbAt (env : Env) (N : Str → Prop) (own : Own) (h : Heap) : Vw := fun b => if FrA env N b ∨ b ∈ own.map (·.1) then none else h.get? b
theorem Sim.later {s₀ : Shared} {hb w₀ w : Vw} {s : Shared} (S : Sim prog wd H0 env N s₀ hb w₀ w loc own s) : Sim prog wd H0 env N s (hbAt env N own s.heap) w w loc own s where
  ok := S.ok
  fs := S.fs
  view := S.view
  keep := fun b o e => by
    unfold hbAt at e
    split at e
    · cases e
    · exact e
  w0 := .refl w
  fresh := fun _ _ e => .inl e
  fr0 := fun b q => by unfold hbAt; rw [if_pos (.inl q)]
  owns := fun p hp => by
    obtain ⟨a, b, c, d, e⟩ := S.owns p hp
    exact ⟨a, b, by unfold hbAt; rw [if_pos (.inr (List.mem_map.mpr ⟨p, hp, rfl⟩))], d, e⟩
  nd := S.nd
  os := rfl
  gens := rfl
theorem Sim.hbAt_of {s₀ : Shared} {hb w₀ w : Vw} {s : Shared} (S : Sim prog wd H0 env N s₀ hb w₀ w loc own s) {b : Addr} {o : Obj} (e : hb b = some o) : hbAt env N own s.heap b = some o := by
  unfold hbAt
  rw [if_neg]
  · exact S.keep b o e
  · rintro (q | q)
    · rw [S.fr0 b q] at e; cases e
    · obtain ⟨p, hp, rfl⟩ := List.mem_map.mp q
      rw [(S.owns p hp).2.2.1] at e; cases e
theorem Sim.earlier {s₀ : Shared} {hb w₀ w w' : Vw} {s s' : Shared} {loc' : Loc} {own' : Own} (S : Sim prog wd H0 env N s₀ hb w₀ w loc own s) (T : Sim prog wd H0 env N s (hbAt env N own s.heap) w w' loc' own' s') : Sim prog wd H0 env N s₀ hb w₀ w' loc' own' s' where
  ok := T.ok
  fs := T.fs
  view := T.view
  keep := fun b o e => T.keep b o (S.hbAt_of e)
  w0 := S.w0.trans T.w0
  fresh := fun b o e => by
    rcases T.fresh b o e with q | q
    · exact S.fresh b o q
    · refine .inr ?_
      cases q' : hb b with
      | none => rfl
      | some o' => rw [S.hbAt_of q'] at q; cases q
  fr0 := S.fr0
  owns := fun p hp => by
    obtain ⟨a, b, c, d, e⟩ := T.owns p hp
    refine ⟨a, b, ?_, d, e⟩
    cases q' : hb p.1 with
    | none => rfl
    | some o' => rw [S.hbAt_of q'] at c; cases c
  nd := T.nd
  os := T.os.trans S.os
  gens := T.gens.trans S.gens
theorem Ret.earlier {s₀ : Shared} {hb w₀ w : Vw} {s s' : Shared} {v : Value} {d : D} (S : Sim prog wd H0 env N s₀ hb w₀ w loc own s) (R : Ret prog wd s (hbAt env N own s.heap) w s' v d) : Ret prog wd s₀ hb w₀ s' v d := by
  obtain ⟨w', a, b, c, e, f, g, r⟩ := R
  refine ⟨w', S.w0.trans a, b, fun x o q => ?_, fun x o q => e x o (S.hbAt_of q), f.trans S.os, g.trans S.gens, r⟩
  rcases c x o q with q | q
  · exact S.fresh x o q
  · refine .inr ?_
    cases q' : hb x with
    | none => rfl
    | some o' => rw [S.hbAt_of q'] at q; cases q

theorem Sim.quiet {s₀ : Shared} {hb w₀ w w' : Vw} {s s' : Shared} {wr : Addr → Prop} (S : Sim prog wd H0 env N s₀ hb w₀ w loc own s) (q : ∀ a, wr a → Quiet s.heap a) (h0 : ∀ a, wr a → H0.get? a = none) (hI : ∀ a, wr a → hb a = none) (M : MS wr w s w' s') : Sim prog wd H0 env N s₀ hb w₀ w' loc own s' := by
  have ne : ∀ p ∈ own, ¬ wr p.1 := fun p hp e => by
    obtain ⟨o, fs, ho, hd⟩ := q _ e
    obtain ⟨o', ho', _, nf, _⟩ := (S.owns p hp).1.get
    rw [ho] at ho'; cases ho'; exact nf _ hd
  refine ⟨M.ok S.ok fun b o e q => ?_, S.fs.keeps M fun b f e => (q b e).locals S.fs f, S.view.quiet q M, fun b o e => M.keep b o (fun q => ?_) (S.keep b o e), S.w0.trans M.mono, fun b o e => ?_, S.fr0, fun p hp => ?_, S.nd, M.os.trans S.os, M.gens.trans S.gens⟩
  · rw [h0 b q] at e; cases e
  · rw [hI b q] at e; cases e
  · rcases M.fresh b o e with q | q
    · exact S.fresh b o q
    · refine .inr ?_
      cases q' : hb b with
      | none => rfl
      | some o' => rw [S.keep b o' q'] at q; cases q
  · obtain ⟨a, b, c, d, e⟩ := S.owns p hp
    obtain ⟨o, ho, _⟩ := a.get
    exact ⟨a.keeps M.mono fun o q => M.keep _ _ (ne p hp) q, M.hidden b ho, c, d, e⟩

theorem Sim.done {s₀ : Shared} {hb w₀ w : Vw} {s s' : Shared} {wr : Addr → Prop} (S : Sim prog wd H0 env N s₀ hb w₀ w loc own s) (q : ∀ a, wr a → w a = none ∧ Quiet s.heap a) (h0 : ∀ a, wr a → H0.get? a = none) (hI : ∀ a, wr a → hb a = none)
    (hk : ∀ b o, ¬ wr b → s.heap.get? b = some o → s'.heap.get? b = some o) (hos : s'.os = s.os) (hgs : s'.gens = s.gens) : Sim prog wd H0 env N s₀ hb w₀ w loc own s' := by
  have ne : ∀ b o, s.heap.get? b = some o → (∀ fs, o.data ≠ .fields fs) → s'.heap.get? b = some o := fun b o e hd => hk b o (fun k => by
    obtain ⟨_, oI, fs, eI, dI⟩ := q b k
    rw [eI] at e; cases e; exact hd _ dI) e
  refine ⟨⟨fun b o e => hk b o (fun q => by rw [h0 b q] at e; cases e) (S.ok.base b o e), fun b o e => hk b o (fun k => by rw [(q b k).1] at e; cases e) (S.ok.part b o e)⟩, ⟨?_, S.fs.wl, S.fs.hl, fun x n kk => ?_⟩, fun x d e => ?_,
    fun b o e => hk b o (fun q => by rw [hI b q] at e; cases e) (S.keep b o e), S.w0, S.fresh, S.fr0, fun p hp => ?_, S.nd, hos.trans S.os, hgs.trans S.gens⟩
  · obtain ⟨m, o, es, ep, g, d, r⟩ := S.fs.ns
    exact ⟨m, o, es, ep, ne _ _ g (fun _ q => by rw [d] at q; cases q), d, r⟩
  · obtain ⟨c', l, ⟨v, oc, g, d⟩, wc, h0⟩ := S.fs.cell x n kk
    exact ⟨c', l, ⟨v, oc, ne _ _ g (fun _ q => by rw [d] at q; cases q), d⟩, wc, h0⟩
  · obtain ⟨u, L, r⟩ := S.view x d e
    refine ⟨u, ?_, r⟩
    rcases L with ⟨a, m, ⟨o₂, es, ep, g, d₂, r₂⟩, c₂⟩ | ⟨a, c₂, b₁, oc, hc, dc⟩
    · exact .inl ⟨a, m, ⟨o₂, es, ep, ne _ _ g (fun _ q => by rw [d₂] at q; cases q), d₂, r₂⟩, c₂⟩
    · exact .inr ⟨a, c₂, b₁, oc, ne _ _ hc (fun _ q => by rw [dc] at q; cases q), dc⟩
  · obtain ⟨a, b, c, d, e⟩ := S.owns p hp
    obtain ⟨o, ho, _, nf, _⟩ := a.get
    exact ⟨a.keeps (.refl w) fun o' q => by rw [ho] at q; cases q; exact ne _ _ ho nf, b, c, d, e⟩
/-- a for over data -/
theorem SX.for {target iter : Expr} {body : List Stmt} {pos : Pos} {xs : List D} (Inv : Nat → Loc → Own → Prop) (hs : ∀ x, foldedSetIterable iter env x = pure x) (hit : ITE prog wd H0 A env loc target iter xs)
    (h0 : Inv 0 loc own)
    (turn : ∀ i x loc₁ own₁, xs[i]? = some x → Inv i loc₁ own₁ → ∃ loc₂, BT prog wd H0 A env N loc₁ target x loc₂ ∧ SW prog wd H0 A env N loc₂ own₁ body (Inv (i + 1)) Qr)
    (hq : ∀ loc₁ own₁, Inv xs.length loc₁ own₁ → Qn loc₁ own₁) : SX prog wd H0 A env N loc own (.For target iter body [] pos) Qn Qr := fun s₀ hb w₀ w s S => by
  refine wpAny_For (wpAny_mono (hit w s S.ok S.view) (fun x s₁ h₁ => wpAny_mono h₁ (fun it s₂ ⟨w₂, I, wr, fp, St, Mid, eit, W, st, S₂, hfp, hI⟩ => ?_) fun _ _ f => f) fun _ _ f => f) hs
  subst eit
  have T₂ := S.stp S₂
  have hbI : ∀ a, wr a → hb a = none := fun a k => by
    cases q : hb a with
    | none => rfl
    | some o => have := hI a k; rw [S.keep _ _ q] at this; cases this
  have fpF : ∀ b ∈ fp, ¬ FrA env N b := fun b hb' hm => by
    rcases (hfp b hb').1 with h | h
    · rcases hm with (rfl | ⟨x, n, kk, l⟩)
      · exact h T₂.fs.wl
      · obtain ⟨c', l', _, wc, _⟩ := T₂.fs.cell x n kk
        rw [l] at l'; cases l'; exact h wc
    · rcases hm with (rfl | ⟨x, n, kk, l⟩)
      · obtain ⟨m, o, es, ep, g, _⟩ := S.fs.ns; rw [h] at g; cases g
      · obtain ⟨c', l', ⟨v, oc, g, _⟩, _, _⟩ := S.fs.cell x n kk
        rw [l] at l'; cases l'; rw [h] at g; cases g
  have fpO : ∀ b ∈ fp, b ∉ own.map (·.1) := fun b hb' hm => by
    obtain ⟨p, hp, rfl⟩ := List.mem_map.mp hm
    rcases (hfp _ hb').1 with h | h
    · exact h (T₂.owns p hp).2.1
    · obtain ⟨o, ho, _⟩ := (S.owns p hp).1.get
      rw [h] at ho; cases ho
  refine codeAny_mono (R := fun r s' => match r with | .ok f => SPost prog wd H0 env N s₀ hb w₀ Qn Qr f s' | .error e => False) ?_ fun r s' hr => ?_
  · refine codeAny_loop' rfl (fun n s' => ∃ i w' loc' own', i ≤ xs.length ∧ n = xs.length + 1 - i ∧ St i w' s'.heap ∧ Sim prog wd H0 env N s₀ hb w₀ w' loc' own' s' ∧ Inv i loc' own' ∧ (∀ b ∈ fp, b ∉ own'.map (·.1)) ∧ ∀ b ∈ fp, ∃ o, s'.heap.get? b = some o) ?_ (xs.length + 1)
      ⟨0, w₂, loc, own, Nat.zero_le _, rfl, st, T₂, h0, fpO, fun b hb' => (hfp b hb').2⟩
    rintro n s₃ ⟨i, w₃, loc₃, own₃, hi, rfl, st₃, T₃, inv, fpO₃, fpL₃⟩
    have up : A.under (.forLoop target (.ref I) body [] env) = A := Around.under_of_weight rfl
    rw [up]
    show wpAny _ _ ((forTurn target (.ref I) body [] env).onRaise (fun x => do noteFrame x env; theTreesLotGoes x)) _ _ _
    refine wpAny_noted (wpAny_mono (E := NoE) ?_ (fun _ _ q => q) fun _ _ f => f.elim)
    simp only [forTurn]
    by_cases hlt : i < xs.length
    · refine wpAny_bind (wpAny_standAt (wpAny_bind (wpAny_onRaise (wpAny_mono (W.item i w₃ s₃ hlt T₃.ok st₃) (fun r s₄ ⟨v, d, w₄, er, hd, rv, M₄, st₄⟩ => ?_) fun _ _ f => f.elim))))
      subst er
      have T₄ := T₃.quiet (fun a k => (W.vis _ _ _ st₃ a k).2) W.base hbI M₄
      refine wpAny_bind (wpAny_mono (W.own i w₄ s₄ v d T₄.ok st₄ rv) (fun _ s₅ ⟨w₅, M₅, st₅⟩ => ?_) fun _ _ f => f)
      have T₅ := T₄.quiet (fun a k => (W.visM _ _ _ _ st₄ a k).2) W.base hbI M₅
      obtain ⟨loc₆, hbt, hsw⟩ := turn i d loc₃ own₃ hd inv
      refine wpAny_bind (wpAny_mono (hbt w₅ s₅ v T₅.ok T₅.fs T₅.view (rv.mono M₅.mono)) (fun _ s₆ ⟨w₆, M₆, F₆, V₆⟩ => ?_) fun _ _ f => f)
      have T₆ := T₅.fra M₆ F₆ V₆
      have st₆ : St (i + 1) w₆ s₆.heap := W.frame _ _ _ _ _ st₅ M₆.mono (fun a k => by obtain ⟨e, o, fs, ho, _⟩ := W.vis _ _ _ st₅ a k; exact M₆.hidden e ho) fun b hb' o e => M₆.keep b o (fpF b hb') e
      have hbf : ∀ b ∈ fp, ∀ o, s₆.heap.get? b = some o → hbAt env N own₃ s₆.heap b = some o := fun b hb' o e => by
        unfold hbAt
        rw [if_neg (fun q => q.elim (fpF b hb') (fpO₃ b hb'))]; exact e
      have fpL₆ : ∀ b ∈ fp, ∃ o, s₆.heap.get? b = some o := fun b hb' => by
        obtain ⟨o, e⟩ := fpL₃ b hb'
        obtain ⟨o, e⟩ := M₄.live b o e
        obtain ⟨o, e⟩ := M₅.live b o e
        exact M₆.live b o e
      refine wpAny_bind (wpAny_mono (hsw s₆ _ w₆ w₆ s₆ T₆.later) (fun fl s₇ h₇ => ?_) fun _ _ f => f)
      cases fl with
      | next =>
        obtain ⟨w₇, loc₇, own₇, T₇, inv₇⟩ := h₇
        refine wpAny_pure (.inl ⟨rfl, xs.length + 1 - (i + 1), by omega, i + 1, w₇, loc₇, own₇, hlt, rfl, ?_, T₆.earlier T₇, inv₇, fun b hb' hm => ?_, fun b hb' => ?_⟩)
        · refine W.frame _ _ _ _ _ st₆ T₇.w0 (fun a k => ?_) fun b hb' o e => T₇.keep b o (hbf b hb' o e)
          obtain ⟨ea, oI, fsI, eI, dI⟩ := W.vis _ _ _ st₆ a k
          cases q : w₇ a with
          | none => rfl
          | some o =>
            rcases T₇.fresh _ _ q with q | q
            · rw [ea] at q; cases q
            · rw [hbf a (W.wrfp a k) oI eI] at q; cases q
        · obtain ⟨p, hp, rfl⟩ := List.mem_map.mp hm
          have := (T₇.owns p hp).2.2.1
          obtain ⟨o, q⟩ := fpL₆ _ hb'
          rw [hbf _ hb' o q] at this; cases this
        · obtain ⟨o, q⟩ := fpL₆ _ hb'
          exact ⟨o, T₇.keep _ _ (hbf _ hb' o q)⟩
      | ret v => exact wpAny_pure (by obtain ⟨d, R, q⟩ := h₇; exact ⟨d, R.earlier T₆, q⟩)
      | brk => exact h₇.elim
      | cont => exact h₇.elim
    · have ei : i = xs.length := by omega
      subst ei
      refine wpAny_bind (wpAny_standAt (wpAny_bind (wpAny_onRaise (wpAny_mono (W.done w₃ s₃ T₃.ok st₃) (fun r s₄ ⟨er, hk, hos, hgs⟩ => ?_) fun _ _ f => f.elim))))
      subst er
      refine wpAny_pure (.inr ⟨rfl, codeAny_block (wpAny_execs_nil ?_)⟩)
      exact ⟨w₃, loc₃, own₃, T₃.done (W.vis _ _ _ st₃) W.base hbI hk hos hgs, hq _ _ inv⟩
  · cases r with
    | ok f => exact hr
    | error e => exact hr.elim
end
end Mine
namespace Mine
open PySem PySem.Calls PyProof.Rows PySem.W
section
variable {prog : Program} {wd : World} {H0 : Heap} {A : Around} {env : Env} {loc : Loc} {N : Str → Prop} {own : Own} {Qn : Loc → Own → Prop} {Qr : D → Prop}

/-- a while by an invariant and a measure -/
theorem SX.while {test : Expr} {body : List Stmt} {pos : Pos} (Inv : Nat → Loc → Own → Prop) (n : Nat) (h0 : Inv n loc own)
    (turn : ∀ n loc₁ own₁, Inv n loc₁ own₁ → ∃ b, PT prog wd H0 A env (loc₁.res own₁) test b ∧ (b = true → SW prog wd H0 A env N loc₁ own₁ body (fun l o => ∃ m, m < n ∧ Inv m l o) Qr) ∧ (b = false → Qn loc₁ own₁)) :
    SX prog wd H0 A env N loc own (.While test body [] pos) Qn Qr := fun s₀ hb w₀ w s S => by
  refine wpAny_While (codeAny_mono (R := fun r s' => match r with | .ok f => SPost prog wd H0 env N s₀ hb w₀ Qn Qr f s' | .error e => False) ?_ fun r s' hr => ?_)
  · refine codeAny_whileLoop (fun n s' => ∃ w' loc' own', Sim prog wd H0 env N s₀ hb w₀ w' loc' own' s' ∧ Inv n loc' own') (fun n s₁ ⟨w₁, loc₁, own₁, S₁, inv⟩ => ?_) n ⟨w, loc, own, S, h0⟩
    obtain ⟨b, ht, h1, h2⟩ := turn n loc₁ own₁ inv
    refine wpAny_mono (S₁.tst ht) (fun r s₂ ⟨w₂, S₂, e⟩ => ?_) fun _ _ f => f.elim
    subst e
    cases r with
    | false => exact wpAny_execs_nil ⟨w₂, loc₁, own₁, S₂, h2 rfl⟩
    | true =>
      refine wpAny_mono (h1 rfl s₀ hb w₀ w₂ s₂ S₂) (fun fl s₃ h₃ => ?_) fun _ _ f => f.elim
      cases fl with
      | next => obtain ⟨w₃, loc₃, own₃, S₃, m, hm, inv₃⟩ := h₃; exact ⟨m, hm, w₃, loc₃, own₃, S₃, inv₃⟩
      | ret v => exact h₃
      | brk => exact h₃.elim
      | cont => exact h₃.elim
  · cases r with
    | ok f => exact hr
    | error e => exact hr.elim

theorem notModules {w : Vw} {s : Shared} (o : Ok H0 w s) (hlim : H0.NoLimit) : (s.heap.objs.size == sysModules) = false :=
  beq_eq_false_iff_ne.mpr (Nat.ne_of_gt (modules_low (hlim.keeps o.base)))

/-- a dict display of one pair -/
theorem FLE.dct1 {k v : Expr} {pos : Pos} {i j : Int} (hlim : H0.NoLimit) (hk : PE prog wd H0 A env loc k (.int i)) (hv : PE prog wd H0 A env loc v (.int j)) : FLE prog wd H0 A env loc (.Dict [some k] [v] pos) (.dct [(i, j)]) := fun w s o V => by
  refine wpAny_Dict_walk (knd := intKind prog wd) rfl rfl (by simp) (by simp) ?_
  have S₀ : Stp w s w { s with heap := s.heap.push { cls := .type "dict", data := .dict #[] } } := .quiet o (fun _ _ e => Heap.get?_push_of_some _ e) rfl rfl
  have o₀ := S₀.ok o
  refine pairTrees_cons_walk (wpAny_mono (hk w _ o₀ (V.step S₀)) (fun kv s₁ ⟨w₁, S₁, r₁⟩ => ?_) fun _ _ f => f)
  refine wpAny_mono (hv w₁ s₁ (S₁.ok o₀) ((V.step S₀).step S₁)) (fun vv s₂ ⟨w₂, S₂, r₂⟩ => ?_) fun _ _ f => f
  refine pairTrees_nil_walk ?_
  cases r₁ with
  | int i t =>
    cases r₂ with
    | int j u =>
      have fr := fresh_size s.heap
      have D0 : (s.heap.push { cls := .type "dict", data := .dict #[] }).DictOf (intKind prog wd) s.heap.objs.size [] := Heap.DictOf.new s.heap
      have D2 : s₂.heap.DictOf (intKind prog wd) s.heap.objs.size [] := (D0.keep S₁.keep).keep S₂.keep
      refine ⟨[(i, .int j u)], ⟨intKind_is prog wd i t, rfl, trivial⟩, D2, fun h' hd' hs' => ?_⟩
      obtain ⟨ob, ho, hdo⟩ := Heap.dictOf_iff.mp hd'
      have kp : ∀ b o', s.heap.get? b = some o' → h'.get? b = some o' := fun b o' e => by
        have hne : b ≠ s.heap.objs.size := Nat.ne_of_lt (Heap.lt_size e)
        exact hs'.extBut b o' hne (S₂.keep _ _ (S₁.keep _ _ (S₀.keep _ _ e)))
      have SS := S₀.trans (S₁.trans S₂)
      have wn : w₂ s.heap.objs.size = none := by
        have e0 : (s.heap.push { cls := .type "dict", data := .dict #[] }).get? s.heap.objs.size = some { cls := .type "dict", data := .dict #[] } := Heap.get?_push_size _ rfl
        have w0 : w s.heap.objs.size = none := w_fresh o fr
        have e1 : w₁ s.heap.objs.size = none := (S₁.ms (Mu := fun _ => False)).hidden w0 e0
        exact (S₂.ms (Mu := fun _ => False)).hidden e1 (S₁.keep _ _ e0)
      refine ⟨w₂, s.heap.objs.size, rfl, ⟨SS.mono, fun b o' e => ?_, SS.fresh, kp, SS.os, SS.gens⟩, wn, fr, .dct ho (notModules o hlim) hdo ?_⟩
      · have hne : b ≠ s.heap.objs.size := fun q => by rw [q, wn] at e; cases e
        exact hs'.extBut b o' hne (SS.part b o' e)
      · exact .cons .nil

/-- storing into a dict, as data -/
def dput (l : List (Int × Int)) (k v : Int) : List (Int × Int) := if l.any (fun p => p.1 = k) then l.map (fun p => if p.1 = k then (p.1, v) else p) else l ++ [(k, v)]
theorem KV.stored {kvs : List (Int × Value)} {l : List (Int × Int)} (h : KV kvs l) (k v : Int) (t : Tok) : KV (PySem.stored kvs k (.int v t)) (dput l k v) := by
  have e : kvs.any (fun kv => kv.1 = k) = l.any (fun p => p.1 = k) := by
    induction h with
    | nil => rfl
    | cons _ ih => simp only [List.any_cons, ih]
  unfold PySem.stored dput
  rw [e]
  split
  · rename_i hq; clear e hq
    induction h with
    | nil => exact .nil
    | @cons c u t' r r' _ ih =>
      simp only [List.map_cons]
      by_cases q : c = k
      · simp only [q, if_true]; exact .cons ih
      · simp only [q, if_false]; exact .cons ih
  · rename_i hq; clear e hq
    induction h with
    | nil => exact .cons .nil
    | cons _ ih => exact .cons ih
/-- d[k] = v -/
theorem SX.store {x : Str} {px spos pos : Pos} {ke value : Expr} {a : Addr} {l : List (Int × Int)} {k v : Int} (hk : env.scope.kind = .function) (hx : loc x = some (.ptr a)) (ha : own.lookup a = some (.dct l)) (hv : PE prog wd H0 A env (loc.res own) value (.int v)) (hke : PE prog wd H0 A env (loc.res own) ke (.int k))
    (hz : l.length ≤ 10000) (hxd : (x == ("__debug__" : Str)) = false) (hxc : (x == ("__classdict__" : Str)) = false) (hs : swapsWith value (some (.Subscript (.Name x px) ke spos)) pos.line env = pure false)
    (hq : Qn loc (own_set own a (.dct (dput l k v)))) : SX prog wd H0 A env N loc own (.Assign [.Subscript (.Name x px) ke spos] value pos) Qn Qr := fun s₀ hb w₀ w s S => by
  refine wpAny_Assign_Subscript (wpAny_mono (S.evl 0 hv rfl) (fun vv s₁ ⟨w₁, S₁, r₁⟩ => ?_) fun _ _ f => f) hs
  obtain ⟨u, L, r⟩ := S₁.view x _ hx
  cases r
  refine wpAny_Name (wpAny_look L hk hxc ?_) hxd
  refine wpAny_mono (S₁.evl 0 hke rfl) (fun kv s₂ ⟨w₂, S₂, r₂⟩ => ?_) fun _ _ f => f
  have hm := lookup_mem_own ha
  obtain ⟨ow, wa, hba, h0, hfr⟩ := S₂.owns _ hm
  cases r₁ with
  | int j t =>
    cases r₂ with
    | int i t' =>
      cases ow with
      | dct e lo hd kk =>
        refine wpAny_setItem_pairs (intKind_is prog wd k t') (Heap.dictOf_iff.mpr ⟨_, e, hd⟩) (fun h' hd' hs' => ?_) (by rw [kk.length, sizeLine_eq]; omega)
        obtain ⟨ob, ho, hdo⟩ := Heap.dictOf_iff.mp hd'
        have M : MS (· = a) w₂ s₂ w₂ { s₂ with heap := h', toks := s₂.toks + 1 } := by
          refine ⟨.refl _, fun b ob q => hs'.extBut b ob (fun q' => by rw [q', wa] at q; cases q) (S₂.ok.part b ob q), fun _ _ q => .inl q, fun b ob nq q => hs'.extBut b ob nq q, fun b ob q => ?_, rfl, rfl⟩
          by_cases hb' : b = a
          · subst hb'; exact ⟨_, ho⟩
          · exact ⟨ob, hs'.extBut b ob hb' q⟩
        exact ⟨w₂, loc, _, S₂.upd hm M (.dct ho lo hdo (kk.stored k v t)), hq⟩

/-- a new dict or list of plain parts under a name -/
theorem Sim.fleD {s₀ : Shared} {hb w₀ w : Vw} {s : Shared} {e : Expr} {l : List (Int × Int)} (S : Sim prog wd H0 env N s₀ hb w₀ w loc own s) (h : FLE prog wd H0 A env (loc.res own) e (.dct l)) :
    wpAny (model prog wd) A (eval e env) (fun v s' => ∃ w' a, v = .ref a ∧ Sim prog wd H0 env N s₀ hb w₀ w' loc ((a, .dct l) :: own) s') NoE s := by
  obtain ⟨o, V, _⟩ := S.full
  refine wpAny_mono (h _ s o V) (fun v s' ⟨w₁, a, ev, x, wa, fa, ow⟩ => ?_) fun _ _ f => f
  have S' := S.back x
  have nin : a ∉ own.map (·.1) := fun q => by
    obtain ⟨p, hp, rfl⟩ := List.mem_map.mp q
    obtain ⟨ob, ho, _⟩ := (S.owns p hp).1.get
    rw [fa] at ho; cases ho
  have ow' : Owned prog wd (w₁.back own) s'.heap a (.dct l) := by
    cases ow with
    | dct e lo hd kk => exact .dct e lo hd kk
  refine ⟨w₁.back own, a, ev, ⟨S'.ok, S'.fs, S'.view, S'.keep, S'.w0, S'.fresh, S'.fr0, fun p hp => ?_, List.nodup_cons.mpr ⟨nin, S'.nd⟩, S'.os, S'.gens⟩⟩
  rcases List.mem_cons.mp hp with rfl | hp
  · refine ⟨ow', by unfold Vw.back; rw [if_neg nin]; exact wa, ?_, H0_fresh S.ok fa, ?_⟩
    · cases q : hb a with
      | none => rfl
      | some ob => rw [S.keep _ _ q] at fa; cases fa
    · rintro (q | ⟨y, ny, k, l⟩)
      · obtain ⟨m, oL, es, ep, g, _⟩ := S.fs.ns
        have q' : a = env.locals := q
        rw [q', g] at fa; cases fa
      · obtain ⟨c, l', ⟨u, oc, g, _⟩, _⟩ := S.fs.cell y ny k
        rw [l] at l'; cases l'
        rw [g] at fa; cases fa
  · exact S'.owns p hp
theorem SX.assignNewD {x : Str} {px pos : Pos} {value : Expr} {l : List (Int × Int)} (EO : EnvOk env N) (hx : N x) (hkx : env.kindOf x = some .local ∨ env.kindOf x = some .cell) (h : FLE prog wd H0 A env (loc.res own) value (.dct l))
    (hs : swapsWith value (some (.Name x px)) pos.line env = pure false) (hq : ∀ a, (a ∉ own.map (·.1)) → Qn (loc.set x (.ptr a)) ((a, .dct l) :: own)) : SX prog wd H0 A env N loc own (.Assign [.Name x px] value pos) Qn Qr := fun s₀ hb w₀ w s S => by
  refine wpAny_Assign_Name (wpAny_mono (S.fleD h) (fun v s₁ ⟨w₁, a, ev, S₁⟩ => ?_) fun _ _ f => f) hs
  subst ev
  exact wpAny_mono (store_ok hx hkx EO S₁.ok S₁.fs S₁.view (.ptr a)) (fun _ s₂ ⟨M, F, V⟩ => ⟨w₁, _, _, S₁.fra M F V, hq a (List.nodup_cons.mp S₁.nd).1⟩) fun _ _ f => f

/-- several new lists, told in one tuple display -/
inductive FLs (prog : Program) (wd : World) (H0 : Heap) (A : Around) (env : Env) : Loc → Own → List Expr → List (List D) → Prop
  | nil {loc : Loc} {own : Own} : FLs prog wd H0 A env loc own [] []
  | cons {loc : Loc} {own : Own} {e : Expr} {es : List Expr} {ds : List D} {dss : List (List D)} (n : Nat) : FLE prog wd H0 A env (loc.res own) e (.lst ds) → (∀ d ∈ ds, d.flat n = true) → starEach (e :: es) env = (false, eval e env) :: starEach es env →
      (∀ a, FLs prog wd H0 A env loc ((a, .lst ds) :: own) es dss) → FLs prog wd H0 A env loc own (e :: es) (ds :: dss)
/-- the own lists behind: the last made first -/
def ownMore : List Addr → List (List D) → Own → Own
  | a :: as, ds :: dss, own => ownMore as dss ((a, .lst ds) :: own)
  | _, _, own => own
theorem Sim.fls {s₀ : Shared} {hb w₀ : Vw} {pos : Pos} : ∀ {own : Own} {es : List Expr} {dss : List (List D)} {w : Vw} {s : Shared}, FLs prog wd H0 A env loc own es dss → Sim prog wd H0 env N s₀ hb w₀ w loc own s →
    wpAny (model prog wd) A (spliced (backTo pos (starEach es env))) (fun vs s' => ∃ w' as, vs = as.map Value.ref ∧ as.length = dss.length ∧ Sim prog wd H0 env N s₀ hb w₀ w' loc (ownMore as dss own) s') NoE s
  | _, _, _, w, s, .nil, S => wpAny_items_nil ⟨w, [], rfl, rfl, S⟩
  | own, _, _, w, s, .cons (e := e) (es := es) (ds := ds) (dss := dss) n h hf hs t, S => by
    refine wpAny_items_cons ?_ hs
    refine wpAny_mono (S.fle n h hf) (fun v s₁ ⟨w₁, a, ev, S₁⟩ => ?_) fun _ _ f => f
    refine wpAny_mono (Sim.fls (t a) S₁) (fun vs s₂ ⟨w₂, as, evs, hl, S₂⟩ => ?_) fun _ _ f => f
    subst ev; subst evs
    exact ⟨w₂, a :: as, rfl, by simp [hl], S₂⟩
theorem ptrs_rv {w : Vw} : ∀ as : List Addr, RVs prog wd w (as.map Value.ref) (as.map D.ptr)
  | [] => .nil
  | a :: r => .cons (.ptr a) (ptrs_rv r)
theorem SX.assignNews {ts es : List Expr} {k k' : Nat} {tpos vpos pos : Pos} {dss : List (List D)} (hh : A.handled = none) (h : FLs prog wd H0 A env loc own es dss) (hz : dss.length ≤ 1000)
    (ht : ∀ as : List Addr, as.length = dss.length → ((ownMore as dss own).map (·.1)).Nodup → ∃ loc', BTs prog wd H0 A env N loc ts (as.map D.ptr) loc' ∧ Qn loc' (ownMore as dss own)) (hn : (assignEach ts env).length = dss.length) (hstar : (assignEach ts env).findIdx? (·.1) = none)
    (hs : swapsWithSole [.Tuple ts k tpos] (.Tuple es k' vpos) pos.line env = pure false) (hw : swappedStores [.Tuple ts k tpos] (.Tuple es k' vpos) env = pure none) :
    SX prog wd H0 A env N loc own (.Assign [.Tuple ts k tpos] (.Tuple es k' vpos) pos) Qn Qr := fun s₀ hb w₀ w s S => by
  refine Assign_Tuple (Tuple_ (wpAny_mono (Sim.fls h S) (fun vs s₁ ⟨w₁, as, ev, hl, S₁⟩ => ?_) fun _ _ f => f)) hs hw
  subst ev
  refine wpAny_newObj_type (data := .seq (as.map Value.ref).toArray) ?_ (by show (as.map Value.ref).toArray.size ≤ sizeLine; rw [List.size_toArray, List.length_map, hl]; exact Nat.le_trans hz (by decide))
  have S₂ := S₁.stp (.quiet S₁.ok (fun _ _ e => Heap.get?_push_of_some _ e) rfl rfl : Stp w₁ s₁ w₁ { s₁ with heap := s₁.heap.push { cls := .type "tuple", data := .seq (as.map Value.ref).toArray } })
  have ht' : IsTup (s₁.heap.push { cls := .type "tuple", data := .seq (as.map Value.ref).toArray }) s₁.heap.objs.size (as.map Value.ref).toArray := ⟨_, Heap.get?_push_size _ rfl, rfl, _, rfl⟩
  obtain ⟨loc', hbt, hq⟩ := ht as hl S₂.nd
  refine assign_Tuple_tuple hh ht' (by rw [List.size_toArray, List.length_map, hl]; exact hn) hstar fun h' he => ?_
  have S₃ := S₂.stp (.quiet S₂.ok (fun b ob q => he b ob (Nat.ne_of_lt (Heap.lt_size q)) q) rfl rfl : Stp w₁ { s₁ with heap := s₁.heap.push { cls := .type "tuple", data := .seq (as.map Value.ref).toArray } } w₁ { s₁ with heap := h' })
  exact wpAny_mono (hbt w₁ _ _ S₃.ok S₃.fs S₃.view (by simpa using ptrs_rv as)) (fun _ s₄ ⟨w₄, M, F, V⟩ => ⟨w₄, loc', _, S₃.fra M F V, hq⟩) fun _ _ f => f
end
end Mine
namespace Mine
open PySem PySem.Calls PyProof.Rows PySem.W

/-- the order of tuples of ints -/
def lexlt : List Int → List Int → Bool
  | x :: xs, y :: ys => if x = y then lexlt xs ys else decide (x < y)
  | [], _ :: _ => true
  | _, [] => false

section
open PySem.SeqAt PySem.MeetsSeq PySem.MeetsSeq2 PySem.MeetsSeq3 PySem.SeqRoads2
open PySem.AutoSeq1 (wpAny_loadPart')
set_option maxHeartbeats 4000000 in
theorem tuple_ltAt (l b : Addr) (items items2 : Array Value) (n n2 : Nat) (dd dd2 : Option Addr) (sl sl2 : Array (Option Value)) (xs ys : List Int) (hi : IntsAre items.toList xs) (hj : IntsAre items2.toList ys) (hsz : xs.length = ys.length) :
    Meets (Builtin.«tuple.__lt__» ⟨[.ref l, .ref b], []⟩)
      (fun A R s => s.heap.get? l = some { cls := .type "tuple", dict := dd, data := .seq items n, slots := sl } ∧ s.heap.get? b = some { cls := .type "tuple", dict := dd2, data := .seq items2 n2, slots := sl2 } ∧
        R (.ok (.ret (.bool (lexlt xs ys)))) s) :=
  .of_wp fun prog w A R s h => by
    obtain ⟨hp, g, d, tk, os⟩ := s; obtain ⟨hl, hb, h⟩ := h
    have f2 := AutoSeq1.sub_tuple_tuple
    have e1 : items.size = xs.length := by rw [← hi.length, Array.length_toList]
    have e2 : items2.size = ys.length := by rw [← hj.length, Array.length_toList]
    wp_walk using wpAny_loadPart' hl, wpAny_loadPart' hb, wpAny_forIn_list _ (fun rest b s' => b.1 = none ∧ s' = ⟨hp, g, d, tk, os⟩ ∧ ∃ us vs ps qs, rest = us.zip vs ∧ IntsAre us ps ∧ IntsAre vs qs ∧ ps.length = qs.length ∧
      R (.ok (.ret (.bool (lexlt ps qs)))) ⟨hp, g, d, tk, os⟩) _
    case turn =>
      rintro ⟨y, x⟩ rest b s' ⟨hb', rfl, us, vs, ps, qs, hz, hu, hv, hlen, hR⟩
      cases hu with
      | nil => cases hz
      | cons p t hu =>
        cases hv with
        | nil => cases hz
        | cons q u hv =>
          rw [List.zip_cons_cons] at hz
          injection hz with hyx hrest
          injection hyx with hy hx
          subst hy hx
          refine wpAny_bind (wpAny_eqBool_int ?_)
          by_cases e : p = q
          · subst e
            simp only [lexlt, if_true] at hR
            simp only [beq_self_eq_true]
            wp_walk
            exact ⟨rfl, rfl, _, _, _, _, hrest, hu, hv, by simpa using hlen, hR⟩
          · simp only [lexlt, if_neg e] at hR
            have eb : (p == q) = false := by simpa using e
            rw [eb]
            refine wpAny_bind (wpAny_rule (wpAny_bind ?_))
            have h9 : ∀ {Q : Value → Shared → Prop} {E : Value → Shared → Prop}, Q (.bool (decide (p < q))) ⟨hp, g, d, tk, os⟩ → wpAny (model prog w) A.in1 (compareOp .Lt (.int p t) (.int q u)) Q E ⟨hp, g, d, tk, os⟩ := fun h => PyProof.Rows.lt_int h
            exact h9 (wpAny_bind (wpAny_pure (wpAny_pure (wpAny_pure ⟨_, rfl, hR⟩))))
    case fin =>
      rintro ⟨b1, b2⟩ s' ⟨hb', rfl, us, vs, ps, qs, hz, hu, hv, hlen, hR⟩
      simp only at hb'
      subst hb'
      refine wpAny_pure ⟨_, rfl, ?_⟩
      have e3 : lexlt ps qs = false := by
        cases hu with
        | nil => cases qs with
          | nil => rfl
          | cons _ _ => simp at hlen
        | cons p t hu => cases hv with
          | nil => simp at hlen
          | cons q u hv => cases hz
      rw [e3] at hR
      have e4 : Builtin.Tuple.tupleCompareSizes .Lt items.size items2.size = .bool false := by
        rw [e1, e2, hsz]
        simp [Builtin.Tuple.tupleCompareSizes]
      rw [e4]
      exact hR
    case h =>
      exact ⟨rfl, rfl, _, _, _, _, rfl, hi, hj, hsz, h⟩
end
section
variable {prog : Program} {wd : World} {H0 : Heap} {A : Around} {env : Env} {loc : Loc}
/-- a tuple of ints -/
abbrev D.ints (l : List Int) : D := .tup (l.map D.int)
theorem CO.ltT {xs ys : List Int} (hlen : xs.length = ys.length) (hu : A.units < cLine) : CO prog wd H0 A .Lt (.ints xs) (.ints ys) (lexlt xs ys) := fun w s v₁ v₂ o r₁ r₂ => by
  obtain ⟨a, rfl⟩ := r₁.tupRef
  obtain ⟨b, rfl⟩ := r₂.tupRef
  obtain ⟨us, n, ha, _, q⟩ := r₁.isTup o.part
  obtain ⟨vs, m, hb, _, q'⟩ := r₂.isTup o.part
  exact richCompare_meets_room (op := .Lt) ⟨_, ha, rfl⟩ ⟨_, hb, rfl⟩ PySem.F.slot_tuple_lt PySem.F.entry_tuple_lt (PySem.F.args_tuple_lt_2 _ _) (tuple_ltAt a b us vs n m none none #[] #[] xs ys q.ints q'.ints hlen)
    ⟨ha, hb, show Value.bool (lexlt xs ys) ≠ Value.notImplemented ∧ _ from ⟨(fun x => nomatch x), ⟨w, .refl o, rfl⟩⟩⟩ hu
end
end Mine
namespace Mine
open PySem PySem.Calls PyProof.Rows PySem.W
section
variable {prog : Program} {wd : World} {H0 : Heap} {A : Around} {env : Env} {loc : Loc}

theorem PT.and3 {x y z : Expr} {pos : Pos} {a b c : Bool} (hx : PT prog wd H0 A env loc x a) (hy : a = true → PT prog wd H0 A env loc y b) (hz : a = true → b = true → PT prog wd H0 A env loc z c) : PT prog wd H0 A env loc (.BoolOp .And [x, y, z] pos) (a && b && c) := fun w s o V => by
  refine wpAny_isTrue_BoolOp (wpAny_allTrue_And_cons (wpAny_mono (hx w s o V) (fun v s₁ ⟨w₁, S₁, e⟩ => ?_) fun _ _ f => f))
  subst e
  cases v
  · exact ⟨w₁, S₁, rfl⟩
  · refine wpAny_allTrue_And_cons (wpAny_mono (hy rfl w₁ s₁ (S₁.ok o) (V.step S₁)) (fun u s₂ ⟨w₂, S₂, e⟩ => ?_) fun _ _ f => f)
    subst e
    have S₁₂ := S₁.trans S₂
    cases u
    · exact ⟨w₂, S₁₂, rfl⟩
    · refine wpAny_allTrue_And_cons (wpAny_mono (hz rfl rfl w₂ s₂ (S₁₂.ok o) (V.step S₁₂)) (fun u s₃ ⟨w₃, S₃, e⟩ => ?_) fun _ _ f => f)
      subst e
      cases u
      · exact ⟨w₃, S₁₂.trans S₃, rfl⟩
      · exact wpAny_allTrue_And_nil ⟨w₃, S₁₂.trans S₃, rfl⟩
theorem PT.or3 {x y z : Expr} {pos : Pos} {a b c : Bool} (hx : PT prog wd H0 A env loc x a) (hy : a = false → PT prog wd H0 A env loc y b) (hz : a = false → b = false → PT prog wd H0 A env loc z c) : PT prog wd H0 A env loc (.BoolOp .Or [x, y, z] pos) (a || b || c) := fun w s o V => by
  refine wpAny_isTrue_BoolOp (wpAny_allTrue_Or_cons (wpAny_mono (hx w s o V) (fun v s₁ ⟨w₁, S₁, e⟩ => ?_) fun _ _ f => f))
  subst e
  cases v
  · refine wpAny_allTrue_Or_cons (wpAny_mono (hy rfl w₁ s₁ (S₁.ok o) (V.step S₁)) (fun u s₂ ⟨w₂, S₂, e⟩ => ?_) fun _ _ f => f)
    subst e
    have S₁₂ := S₁.trans S₂
    cases u
    · refine wpAny_allTrue_Or_cons (wpAny_mono (hz rfl rfl w₂ s₂ (S₁₂.ok o) (V.step S₁₂)) (fun u s₃ ⟨w₃, S₃, e⟩ => ?_) fun _ _ f => f)
      subst e
      cases u
      · exact wpAny_allTrue_Or_nil ⟨w₃, S₁₂.trans S₃, rfl⟩
      · exact ⟨w₃, S₁₂.trans S₃, rfl⟩
    · exact ⟨w₂, S₁₂, rfl⟩
  · exact ⟨w₁, S₁, rfl⟩
theorem PT.eq {e : Expr} {b c : Bool} (h : PT prog wd H0 A env loc e b) (q : b = c) : PT prog wd H0 A env loc e c := q ▸ h
theorem PE.eq {e : Expr} {b c : D} (h : PE prog wd H0 A env loc e b) (q : b = c) : PE prog wd H0 A env loc e c := q ▸ h
theorem CO.neB {a b : Bool} : CO prog wd H0 A .NotEq (.bool a) (.bool b) (a != b) := fun w s v₁ v₂ o r₁ r₂ => by
  cases r₁; cases r₂
  exact PyProof.Rows.ne_bool ⟨w, .refl o, rfl⟩

/-- a call by name, its value seen by a rule of its own -/
theorem call_gen {x : Str} {f : Value} {e : Expr} {rest : List Expr} {ds : List D} {p pos : Pos} {Q : Value → Shared → Prop} (hn : GN prog wd H0 A env x f) (hk : KP prog wd H0 f) (ha : PEs prog wd H0 A env loc (e :: rest) ds)
    (he : starEach (e :: rest) env = (false, eval e env) :: starEach rest env) (hplain : (backTo pos (starEach rest env)).any (·.1) = false)
    (hc : eval (.Call (.Name x p) (e :: rest) [] pos) env = (do callWith pos (← eval (.Name x p) env) [] (backTo pos (starEach (e :: rest) env)) (backToKw pos (keywordEach [] env)))) (w : Vw) (s : Shared) (o : Ok H0 w s) (V : View prog wd env loc w s.heap)
    (hf : ∀ w₁ s₁ vs, Stp w s w₁ s₁ → RVs prog wd w₁ vs ds → wpAny (model prog wd) A (call f vs) Q NoE s₁) :
    wpAny (model prog wd) A (eval (.Call (.Name x p) (e :: rest) [] pos) env) Q NoE s := by
  refine Call_ (hn p s _ _ o.base ?_) hc
  have hp := ha pos w s o V
  rw [he] at hp ⊢
  refine callWith_of (P := fun h => ∀ b o, H0.get? b = some o → h.get? b = some o) (by show ((false || (backTo pos (starEach rest env)).any (·.1)) || false) = false; rw [hplain]; rfl) hk (evalArgs_plain ?_)
  refine wpAny_mono hp (fun vs s₁ ⟨w₁, S₁, R₁⟩ => ⟨(S₁.ok o).base, ?_⟩) fun _ _ f => f
  exact hf w₁ s₁ vs S₁ R₁

/-- the ints of a range -/
def rng (a : Int) (n : Nat) : List D := (List.range n).map fun (i : Nat) => D.int (a + (i : Int))
theorem rng_get {a : Int} {n i : Nat} (h : i < n) : (rng a n)[i]? = some (.int (a + (i : Int))) := by
  simp [rng, h]
theorem rng_len {a : Int} {n : Nat} : (rng a n).length = n := by simp [rng]
theorem ITE.ofRange {t iter : Expr} {a b : Int} {n : Nat} (hh : A.handled = none) (hn : n = (b - a).toNat) (ha : -(2 ^ 30) ≤ a) (ha' : a < 2 ^ 30) (hb : -(2 ^ 30) ≤ b) (hb' : b < 2 ^ 30)
    (h : ∀ (w : Vw) (s : Shared), Ok H0 w s → View prog wd env loc w s.heap → wpAny (model prog wd) A (eval iter env) (fun v s₁ => ∃ w₁ r t u v', v = .ref r ∧ IsRange s₁.heap r a b 1 t u v' ∧ Stp w s w₁ s₁) NoE s) :
    ITE prog wd H0 A env loc t iter (rng a n) := fun w s o V => by
  refine wpAny_mono (h w s o V) (fun v s₁ ⟨w₁, r, t, u, v', e, hr, S₁⟩ => ?_) fun _ _ f => f
  subst e
  refine wpAny_pyIter_range hr (small_one (by omega) (by omega) (by omega) (by omega)) ?_
  have o₁ := S₁.ok o
  have fr := fresh_size s₁.heap
  have S₂ : Stp w₁ s₁ w₁ { s₁ with heap := s₁.heap.push { cls := .type "range_iterator", data := .fields #[rawInt a, rawInt (Builtin.Range.rangeSize a b 1), rawInt 1] } } := .quiet o₁ (fun _ _ e => Heap.get?_push_of_some _ e) rfl rfl
  have fr0 : s.heap.get? s₁.heap.objs.size = none := by
    cases q : s.heap.get? s₁.heap.objs.size with
    | none => rfl
    | some x => rw [S₁.keep _ _ q] at fr; cases fr
  have W := PyProof.Rows.LCg.range_walks (prog := prog) (w := wd) (I := s₁.heap.objs.size) hh a n
  rw [← rng_len (a := a) (n := n)] at W
  have hsz : Builtin.Range.rangeSize a b 1 = ((rng a n).length : Int) - ((0 : Nat) : Int) := by
    rw [rangeSize_one, rng_len, hn]; split <;> omega
  refine ⟨w₁, s₁.heap.objs.size, _, [s₁.heap.objs.size], _, _, rfl, Iter.ofWalks W (by simp) (H0_fresh o₁ fr) w₁ (fun i h st => ⟨_, st, by simp, _, rfl⟩) (fun i v hp hi => ?_), ⟨?_, w_fresh o₁ fr, .refl _⟩, S₁.trans S₂, fun b hb => ?_, fun a e => e ▸ fr0⟩
  · obtain ⟨t, rfl⟩ := hp
    rw [rng_len] at hi
    exact ⟨_, rng_get hi, .int _ _⟩
  · have := Heap.get?_push_size (h := s₁.heap) (o := { cls := .type "range_iterator", data := .fields #[rawInt a, rawInt (Builtin.Range.rangeSize a b 1), rawInt 1] }) rfl
    show IsRangeIter _ _ _ _ _
    unfold IsRangeIter
    rw [hsz] at this ⊢
    simpa using this
  · rw [List.mem_singleton.mp hb]
    exact ⟨.inr fr0, _, Heap.get?_push_size _ rfl⟩
theorem ITE.range1 {t e : Expr} {x : Str} {p pos : Pos} {b : Int} (hh : A.handled = none) (hn : GN prog wd H0 A env x (.type "range")) (hb : -(2 ^ 30) ≤ b) (hb' : b < 2 ^ 30) (ha : PE prog wd H0 A env loc e (.int b))
    (he : starEach [e] env = (false, eval e env) :: starEach [] env)
    (hc : eval (.Call (.Name x p) [e] [] pos) env = (do callWith pos (← eval (.Name x p) env) [] (backTo pos (starEach [e] env)) (backToKw pos (keywordEach [] env)))) :
    ITE prog wd H0 A env loc t (.Call (.Name x p) [e] [] pos) (rng 0 b.toNat) :=
  ITE.ofRange (b := b) hh (by simp) (by omega) (by omega) hb hb' fun w s o V => call_gen hn (KP.type _) (.cons ha .nil he) he rfl hc w s o V fun w₁ s₁ vs S₁ R₁ => by
    cases R₁ with
    | cons r t =>
      cases t
      cases r with
      | int i t =>
        refine call_range_1 ⟨w₁, _, _, _, _, rfl, IsRange.new _ _ _ _ _ _ _, S₁.trans (.quiet (S₁.ok o) (fun _ _ e => Heap.get?_push_of_some _ e) rfl rfl)⟩
theorem ITE.range2 {t e e' : Expr} {x : Str} {p pos : Pos} {a b : Int} (hh : A.handled = none) (hn : GN prog wd H0 A env x (.type "range")) (ha : -(2 ^ 30) ≤ a) (ha' : a < 2 ^ 30) (hb : -(2 ^ 30) ≤ b) (hb' : b < 2 ^ 30) (h1 : PE prog wd H0 A env loc e (.int a)) (h2 : PE prog wd H0 A env loc e' (.int b))
    (he : starEach [e, e'] env = (false, eval e env) :: starEach [e'] env) (he' : starEach [e'] env = (false, eval e' env) :: starEach [] env) (hplain : (backTo pos (starEach [e'] env)).any (·.1) = false)
    (hc : eval (.Call (.Name x p) [e, e'] [] pos) env = (do callWith pos (← eval (.Name x p) env) [] (backTo pos (starEach [e, e'] env)) (backToKw pos (keywordEach [] env)))) :
    ITE prog wd H0 A env loc t (.Call (.Name x p) [e, e'] [] pos) (rng a (b - a).toNat) :=
  ITE.ofRange (b := b) hh rfl ha ha' hb hb' fun w s o V => call_gen hn (KP.type _) (.cons h1 (.cons h2 .nil he') he) he hplain hc w s o V fun w₁ s₁ vs S₁ R₁ => by
    cases R₁ with
    | cons r t =>
      cases t with
      | cons r' t =>
        cases t
        cases r
        cases r'
        refine call_range_2 ⟨w₁, _, _, _, _, rfl, IsRange.new _ _ _ _ _ _ _, S₁.trans (.quiet (S₁.ok o) (fun _ _ e => Heap.get?_push_of_some _ e) rfl rfl)⟩

theorem intKind_int {k : Int} {v : Value} (h : (intKind prog wd).is k v = true) : ∃ t, v = .int k t := by
  cases v with
  | int i t => exact ⟨t, by have : decide (i = k) = true := h; rw [of_decide_eq_true this]⟩
  | _ => exact absurd (show false = true from h) (by simp)
theorem KV.keys {kvs : List (Int × Value)} {l : List (Int × Int)} (h : KV kvs l) : kvs.map (·.1) = l.map (·.1) := by
  induction h with
  | nil => rfl
  | cons _ ih => simp [ih]
theorem ITE.dict {t iter : Expr} {l : List (Int × Int)} (hh : A.handled = none) (h : PE prog wd H0 A env loc iter (.dct l)) : ITE prog wd H0 A env loc t iter (l.map fun p => D.int p.1) := fun w s o V => by
  refine wpAny_mono (h w s o V) (fun v s₁ ⟨w₁, S₁, R₁⟩ => ?_) fun _ _ f => f
  obtain ⟨a, rfl⟩ := R₁.dctRef
  have o₁ := S₁.ok o
  obtain ⟨kvs, lo, hD, r⟩ := R₁.dictOf o₁.part
  obtain ⟨ep, hA⟩ := hD.dictAt
  refine wpAny_pyIter_dict lo hA ?_
  have hne : a ≠ s₁.heap.objs.size := Nat.ne_of_lt hA.lt_size
  have e : kvs.length = (l.map fun p => D.int p.1).length := by rw [List.length_map, r.length]
  have W := Walks.dictKeys (prog := prog) (w := wd) (knd := intKind prog wd) hh s₁.heap.objs.size a hne kvs ep
  have hst0 : (s₁.heap.push { cls := .type "dict_keyiterator", data := .fields #[.ref a, .int (0 : Nat) 0, .int kvs.length 0, .int ep 0] }).IsKeyIter s₁.heap.objs.size a 0 kvs.length ep := ⟨_, Heap.get?_push_size _ rfl, rfl, rfl⟩
  have hst1 : (s₁.heap.push { cls := .type "dict_keyiterator", data := .fields #[.ref a, .int (0 : Nat) 0, .int kvs.length 0, .int ep 0] }).DictAt (intKind prog wd) a kvs ep := hA.push _
  revert W hst0
  generalize hnn : kvs.length = nn
  intro W hst0
  have e' : nn = (l.map fun p => D.int p.1).length := by rw [← hnn]; exact e
  subst e'
  have fr := fresh_size s₁.heap
  have S₂ : Stp w₁ s₁ w₁ { s₁ with heap := s₁.heap.push { cls := .type "dict_keyiterator", data := .fields #[.ref a, .int 0 0, .int ((l.map fun p => D.int p.1).length : Nat) 0, .int ep 0] } } := .quiet o₁ (fun _ _ e => Heap.get?_push_of_some _ e) rfl rfl
  have fr0 : s.heap.get? s₁.heap.objs.size = none := by
    cases q : s.heap.get? s₁.heap.objs.size with
    | none => rfl
    | some x => rw [S₁.keep _ _ q] at fr; cases fr
  have wa : w₁ a ≠ none := by
    cases R₁ with
    | dct h _ _ _ => rw [h]; simp
  obtain ⟨oa, ha⟩ : ∃ o, s₁.heap.get? a = some o := by obtain ⟨o, _, q, _⟩ := hA; exact ⟨o, q⟩
  refine ⟨w₁, s₁.heap.objs.size, _, [s₁.heap.objs.size, a], _, _, rfl, Iter.ofWalks W (by simp) (H0_fresh o₁ fr) w₁ (fun i h st => ?_) (fun i v hp hi => ?_), ⟨⟨hst0, by rw [hnn] at hst1; exact hst1⟩, w_fresh o₁ fr, .refl _⟩, S₁.trans S₂, fun b hb => ?_, fun a e => e ▸ fr0⟩
  · obtain ⟨⟨ob, ho, hc, hd⟩, _⟩ := st
    exact ⟨ob, ho, by rw [hc]; decide, _, hd⟩
  · obtain ⟨k, x, hk, hv⟩ := hp
    obtain ⟨t, rfl⟩ := intKind_int hv
    refine ⟨.int k, ?_, .int _ _⟩
    have : (kvs.map (·.1))[i]? = some k := by rw [List.getElem?_map, hk]; rfl
    rw [r.keys, List.getElem?_map] at this
    rw [List.getElem?_map]
    cases q : l[i]? with
    | none => rw [q] at this; cases this
    | some p => rw [q] at this; simp at this; simp [this]
  · rcases List.mem_cons.mp hb with rfl | hb
    · exact ⟨.inr fr0, _, Heap.get?_push_size _ rfl⟩
    · rw [List.mem_singleton.mp hb]; exact ⟨.inl wa, _, Heap.get?_push_of_some _ ha⟩

theorem ints_arr {vs : Array Value} {is : List Int} (hi : IntsAre vs.toList is) : ∃ xs : Array (Int × Tok), vs = intItems xs ∧ is = xs.toList.map (·.1) := by
  obtain ⟨xs, hx⟩ := hi.allInts.items
  have hx' : vs = intItems xs := by rw [← hx]
  refine ⟨xs, hx', ?_⟩
  rw [← nums_intItems, ← hx]
  exact (show numsOf vs.toList.toArray.toList = is from hi.numsOf).symm
theorem CF.minL {is : List Int} {M : Int} (hh : A.handled = none) (hM : M ∈ is) (hm : ∀ a ∈ is, M ≤ a) : CF prog wd H0 A (.builtin "min") [.lst (is.map D.int)] (.int M) := fun w s vs o r => by
  cases r with
  | cons r t =>
    cases t
    obtain ⟨a, rfl⟩ := r.lstRef
    obtain ⟨us, n, ha, hl, q⟩ := r.isList o.part
    obtain ⟨xs, rfl, rfl⟩ := ints_arr q.ints
    have hsz : 0 < xs.size := by
      have := List.length_pos_of_mem hM
      rwa [List.length_map, Array.length_toList] at this
    refine min_intList hh hl hsz fun v h' tk hv hk => ⟨w, .quiet o hk rfl rfl, ?_⟩
    obtain ⟨t, rfl⟩ := intItems_at hv
    obtain ⟨h1, h2⟩ := argBest_lt (numAt xs) (xs.size - 1)
    have e1 : numAt xs (argBest (fun i j => decide (numAt xs i < numAt xs j)) (xs.size - 1)) ∈ xs.toList.map (·.1) := by
      rw [numAt_eq]; exact getD_mem (by rw [List.length_map, Array.length_toList]; omega)
    obtain ⟨j, hj, ej⟩ := mem_getD hM
    rw [List.length_map, Array.length_toList] at hj
    have e2 := h2 j (by omega)
    rw [numAt_eq xs j, ej] at e2
    have e3 := hm _ e1
    rw [show numAt xs (argBest (fun i j => decide (numAt xs i < numAt xs j)) (xs.size - 1)) = M by omega]
    exact .int _ _
theorem CF.maxL {is : List Int} {M : Int} (hh : A.handled = none) (hM : M ∈ is) (hm : ∀ a ∈ is, a ≤ M) : CF prog wd H0 A (.builtin "max") [.lst (is.map D.int)] (.int M) := fun w s vs o r => by
  cases r with
  | cons r t =>
    cases t
    obtain ⟨a, rfl⟩ := r.lstRef
    obtain ⟨us, n, ha, hl, q⟩ := r.isList o.part
    obtain ⟨xs, rfl, rfl⟩ := ints_arr q.ints
    have hsz : 0 < xs.size := by
      have := List.length_pos_of_mem hM
      rwa [List.length_map, Array.length_toList] at this
    refine max_intList hh hl hsz fun v h' tk hv hk => ⟨w, .quiet o hk rfl rfl, ?_⟩
    obtain ⟨t, rfl⟩ := intItems_at hv
    obtain ⟨h1, h2⟩ := argBest_gt (numAt xs) (xs.size - 1)
    have e1 : numAt xs (argBest (fun i j => decide (numAt xs i > numAt xs j)) (xs.size - 1)) ∈ xs.toList.map (·.1) := by
      rw [numAt_eq]; exact getD_mem (by rw [List.length_map, Array.length_toList]; omega)
    obtain ⟨j, hj, ej⟩ := mem_getD hM
    rw [List.length_map, Array.length_toList] at hj
    have e2 := h2 j (by omega)
    rw [numAt_eq xs j, ej] at e2
    have e3 := hm _ e1
    rw [show numAt xs (argBest (fun i j => decide (numAt xs i > numAt xs j)) (xs.size - 1)) = M by omega]
    exact .int _ _

/-- dicts of ints, compared -/
def dsame (l l' : List (Int × Int)) : Bool := l.length == l'.length && l.all fun p => dget l' p.1 == some p.2
theorem hits_of {s : Shared} {kb : List (Int × Value)} {lb : List (Int × Int)} (hb : KV kb lb) : ∀ {ka : List (Int × Value)} {la : List (Int × Int)}, KV ka la → KeqHits A s kb ka (la.all fun p => dget lb p.1 == some p.2)
  | _, _, .nil => .nil
  | _, _, .cons (k := k) (v := v) (t := t) (r := r) (r' := r') h => by
    rw [List.all_cons]
    rcases hb.valueAt k with ⟨e, e'⟩ | ⟨x, u, e, e'⟩
    · have : (dget lb k == some v) = false := by rw [e]; rfl
      rw [this, Bool.false_and]
      exact .miss e'
    · have h2 := KeqHits.hit (A := A) (s := s) (v := .int v t) e' (SeqAt.EqAt.int_int v t x u) (hits_of hb h)
      have : (dget lb k == some v) = (v == x) := by
        rw [e]
        show (x == v) = (v == x)
        exact BEq.comm
      rw [this]
      exact h2
theorem CO.neDct {l l' : List (Int × Int)} {b : Bool} (hu : A.units < cLine) (hb : (!dsame l l') = b) : CO prog wd H0 A .NotEq (.dct l) (.dct l') b := fun w s v₁ v₂ o r₁ r₂ => by
  obtain ⟨a, rfl⟩ := r₁.dctRef
  obtain ⟨a', rfl⟩ := r₂.dctRef
  obtain ⟨kvs, lo, hD, r⟩ := r₁.dictOf o.part
  obtain ⟨kvs', lo', hD', r'⟩ := r₂.dictOf o.part
  refine keq_ne lo lo' hD hD' hu (fun _ => hits_of r' r) ⟨w, .refl o, ?_⟩
  rw [← hb, r.length, r'.length]
  rfl
end
end Mine
namespace Mine
open PySem PySem.Calls PyProof.Rows PySem.W
section
variable {prog : Program} {wd : World} {H0 : Heap} {A : Around} {env : Env} {loc : Loc}

theorem plain_dloop : plainId "dict.update.loop" = true := by decide +kernel
theorem entry_dloop : entryFor table "dict.update.loop" = some Builtin.«dict.update.loop» := entryFor_of_tree (by kernel_rfl)

theorem miss_list {E : Value → Shared → Prop} {s : Shared} {a : Addr} {o : Obj} {xs : Array Value} {k : Nat} {name : Str} {Q : Option Value → Shared → Prop}
    (hx : s.heap.get? a = some o) (hc : o.cls = .type "list") (hdat : o.data = .seq xs k) (hd : o.dict = none) (hmiss : typeLookup (.type "list") name = pure none) (hname : (["__module__", "__name__", "__qualname__", "__doc__", "__annotations__"] : List Str).contains name = false) (hA : A.handled = none)
    (h : ∀ h' tk, (∀ b ob, s.heap.get? b = some ob → h'.get? b = some ob) → Q none { s with heap := h', toks := tk }) (hsz : name.length + 100 ≤ sizeLine := by size_fits) :
    wpAny (model prog wd) A (getAttr? (.ref a) name) Q E s := by
  obtain ⟨c, dct, dat, sl⟩ := o
  simp only at hc hdat hd
  subst hc hdat hd
  obtain ⟨hp, g, d, tk, os⟩ := s
  have hT : ∀ tk', (⟨hp, g, d, tk', os⟩ : Shared).TypeIs (.ref a) "list" := fun _ => ⟨_, hx, rfl⟩
  have f1 := sub_AttributeError
  have f3 := PySem.F.slot_list_getattribute.lookup
  have f4 := PySem.F.slot_list_getattribute.bind (.ref a)
  have f5 := am_list_getattr_none
  unfold getAttr? getAttrBy? getAttrBy
  repeat (any_goals (first | assumption | exact hT _ | ((with_reducible show wpAny _ _ (call (Value.builtin "list.__getattribute__") _ _) _ _ _); refine call_meets PySem.F.slot_list_getattribute (hT _) am_entry_list_getattribute (PySem.F.args_list_getattribute_2 _ _) (meets_getattribute_miss_list a xs k sl name _ hmiss hname hsz) ⟨hx, hA, fun h' tk' e hx' => ?_⟩) | wp_step))
  obtain ⟨t', u', he⟩ := hx'.there
  show wpAny _ _ (getattributeRaised _ _ _ _ _ _ _) _ _ _
  unfold getattributeRaised
  repeat (any_goals (first | assumption | wp_step))
  exact h _ _ hx'.keeps

/-- the pairs that a list of tuples bears -/
def PairAt (h : Heap) (v : Value) (p : Int × Int) : Prop := ∃ a t u n, v = .ref a ∧ h.get? a = some ({ cls := .type "tuple", data := .seq #[.int p.1 t, .int p.2 u] n } : Obj)
def dputs (l : List (Int × Int)) (ps : List (Int × Int)) : List (Int × Int) := ps.foldl (fun acc p => dput acc p.1 p.2) l
theorem dput_len (l : List (Int × Int)) (k v : Int) : (dput l k v).length ≤ l.length + 1 := by
  unfold dput; split <;> simp
theorem dloop {I l Dd : Addr} {vs : Array Value} {ps : List (Int × Int)} {res : Value} {R : Result → Shared → Prop} (hh : A.handled = none) (hIl : l ≠ I) (hDI : Dd ≠ I) (hDl : Dd ≠ l) (hps : vs.size = ps.length) (hz : ps.length ≤ 1000) :
    ∀ (k i : Nat) (s : Shared) (kvs : List (Int × Value)) (lk : List (Int × Int)), ps.length - i = k → i ≤ ps.length → s.heap.IsListIter I l i → s.heap.IsList l vs → s.heap.DictOf (intKind prog wd) Dd kvs → KV kvs lk → lk.length ≤ i →
    (∀ (j : Nat) (v : Value) (p : Int × Int), vs[j]? = some v → ps[j]? = some p → PairAt s.heap v p) →
    (∀ h' tk kvs', h'.DictOf (intKind prog wd) Dd kvs' → KV kvs' (dputs lk (ps.drop i)) → (∀ b o, b ≠ I → b ≠ Dd → s.heap.get? b = some o → h'.get? b = some o) → R (.ok (.ret res)) { s with heap := h', toks := tk }) →
    codeAny (model prog wd) A (.builtin "dict.update.loop" ⟨[.ref Dd, .ref I, .int i 0, res], []⟩) R s := by
  have W := Walks.list (prog := prog) (w := wd) (A := A.in1) hh I l hIl vs
  intro k
  induction k with
  | zero =>
    intro i s kvs lk hk hi hit hl hD hkv hlen hp hR
    have ei : i = vs.size := by omega
    refine codeAny_builtin entry_dloop ?_
    rw [Around.under_plainId plain_dloop _]
    show wpAny _ A.in1 (pyNext (.ref I) >>= _) _ _ s
    subst ei
    refine wpAny_bind (W.done s _ _ ⟨hit, hl⟩ fun h' tk hk' => ?_)
    refine wpAny_bind (wpAny_pure (wpAny_pure ?_))
    have kp : ∀ b o, b ≠ I → s.heap.get? b = some o → h'.get? b = some o := fun b o n e => hk' b o (by simpa using n) e
    refine hR h' tk kvs (let ⟨o, es, ep, ho, r⟩ := hD; ⟨o, es, ep, kp _ _ hDI ho, r⟩) ?_ fun b o n _ e => kp b o n e
    rw [List.drop_of_length_le (by omega)]; exact hkv
  | succ k ih =>
    intro i s kvs lk hk hi hit hl hD hkv hlen hp hR
    have hlt : i < vs.size := by omega
    refine codeAny_builtin entry_dloop ?_
    rw [Around.under_plainId plain_dloop _]
    show wpAny _ A.in1 (pyNext (.ref I) >>= _) _ _ s
    refine wpAny_bind (W.item i s _ _ hlt ⟨hit, hl⟩ fun v h' tk hP st' hk' => ?_)
    obtain ⟨p, hpi⟩ : ∃ p, ps[i]? = some p := ⟨ps[i]'(by omega), List.getElem?_eq_getElem _⟩
    have kp : ∀ b o, b ≠ I → s.heap.get? b = some o → h'.get? b = some o := fun b o n e => hk' b o (by simpa using n) e
    obtain ⟨a, t, u, n, rfl, ha⟩ := hp i v p hP hpi
    have haI : a ≠ I := by
      rintro rfl
      obtain ⟨o, e, hc, _⟩ := hit
      rw [ha] at e; cases e; simp at hc
    have ha' := kp a _ haI ha
    have hT : ({ s with heap := h', toks := tk } : Shared).TypeIs (.ref a) "tuple" := ⟨_, ha', rfl⟩
    have hD' : h'.DictOf (intKind prog wd) Dd kvs := let ⟨o, es, ep, ho, r⟩ := hD; ⟨o, es, ep, kp _ _ hDI ho, r⟩
    refine wpAny_bind (wpAny_holding (wpAny_bind (wpAny_tryCatch ?_)))
    unfold Builtin.Dict.pairItems
    refine wpAny_bind (wpAny_typeOf hT ?_)
    rw [if_pos (by decide)]
    refine wpAny_bind (wpAny_seqItems ha' rfl (wpAny_pure ?_))
    refine wpAny_holding (wpAny_dictSet_pairs (intKind_is prog wd p.1 t) hD' (fun h'' hD'' hs'' => ?_) (by rw [hkv.length, sizeLine_eq]; omega))
    have kp2 : ∀ b o, b ≠ I → b ≠ Dd → s.heap.get? b = some o → h''.get? b = some o := fun b o n m e => hs''.extBut b o m (kp b o n e)
    refine wpAny_pure ⟨plainId_quiet plain_dloop _, ?_⟩
    have hID : I ≠ Dd := fun e => hDI e.symm
    have step := ih (i + 1) { s with heap := h'', toks := tk + 1 } _ _ (by omega) (by omega) (let ⟨o, ho, r⟩ := st'.1; ⟨o, hs''.extBut _ _ hID ho, r⟩) (let ⟨o, ho, r⟩ := st'.2; ⟨o, hs''.extBut _ _ (fun e => hDl e.symm) ho, r⟩) hD'' (hkv.stored p.1 p.2 u)
      (by have := dput_len lk p.1 p.2; omega) (fun j v q hv hq => by
        obtain ⟨b, t', u', m, rfl, hb⟩ := hp j v q hv hq
        refine ⟨b, t', u', m, rfl, kp2 b _ ?_ ?_ hb⟩
        · rintro rfl
          obtain ⟨o, e, hc, _⟩ := hit
          rw [hb] at e; cases e; simp at hc
        · rintro rfl
          obtain ⟨o, es, ep, ho, hc, _⟩ := hD
          rw [hb] at ho; cases ho; simp [Obj.ExactDict] at hc)
      (fun h₃ tk₃ kvs₃ hD₃ hkv₃ kp₃ => hR h₃ tk₃ kvs₃ hD₃ (by
          have : ps.drop i = p :: ps.drop (i + 1) := by
            rw [List.drop_eq_getElem_cons (by omega)]
            congr 1
            rw [List.getElem?_eq_getElem (by omega)] at hpi
            exact Option.some.inj hpi
          rw [this]; exact hkv₃) fun b o n m e => kp₃ b o n m (kp2 b o n m e))
    exact step

theorem CF.dict {ps : List (Int × Int)} (hh : A.handled = none) (hlim : H0.NoLimit) (hz : ps.length ≤ 1000) : CF prog wd H0 A (.type "dict") [.lst (ps.map fun p => .tup [.int p.1, .int p.2])] (.dct (dputs [] ps)) := fun w s vs o r => by
  cases r with
  | cons r t =>
    cases t
    obtain ⟨l, rfl⟩ := r.lstRef
    obtain ⟨us, n, ha, hl, q⟩ := r.isList o.part
    have fr := fresh_size s.heap
    refine callType_codes (Q₁ := fun obj s₁ => obj = .ref s.heap.objs.size ∧ s₁ = { s with heap := s.heap.push { cls := .type "dict", data := .dict #[] } }) PySem.F.kt_called_dict (PySem.F.kt_typeCall_dict_1 _) PySem.F.entry_dict_init (kt_code_dict_new _ ⟨rfl, rfl⟩) ?_
    rintro obj s₁ ⟨rfl, rfl⟩
    have hnew : (s.heap.push { cls := .type "dict", data := .dict #[] }).DictOf (intKind prog wd) s.heap.objs.size [] := Heap.DictOf.new s.heap
    have hl' := ha
    replace hl' : (s.heap.push { cls := .type "dict", data := .dict #[] }).get? l = some { cls := .type "list", data := .seq us n } := Heap.get?_push_of_some _ ha
    refine ⟨hnew.typeIs, PySem.F.args_dict_init_2 _ _, ?_⟩
    unfold Builtin.«dict.__init__»
    refine wpAny_bind ?_
    unfold Builtin.Dict.selfAndRest
    refine wpAny_bind (wpAny_notOrdered_dict hnew.typeIs ?_)
    show wpAny _ _ (pure (s.heap.objs.size, [Value.ref l])) _ _ _
    refine wpAny_pure ?_
    show wpAny _ _ (Builtin.Dict.updateFrom "dict.__init__" s.heap.objs.size (.ref l) [] .none) _ _ _
    unfold Builtin.Dict.updateFrom
    refine wpAny_bind (wpAny_typeOf ⟨_, hl', rfl⟩ ?_)
    rw [if_pos (by decide)]
    refine wpAny_bind (miss_list hl' rfl rfl rfl (am_miss_of_fast (by decide +kernel)) (by decide) hh (fun h₁ tk₁ kp₁ => ?_))
    rw [if_pos (by rfl)]
    refine wpAny_bind (wpAny_rule (wpAny_bind ?_))
    have hl₁ : h₁.get? l = some { cls := .type "list", data := .seq us n } := kp₁ _ _ hl'
    have hl₂ : h₁.IsList l us := ⟨_, hl₁, rfl, _, rfl⟩
    refine wpAny_pyIter_list hl₂ ?_
    refine wpAny_pure ⟨plainId_quiet plain_dloop _, ?_⟩
    have hls : l < s.heap.objs.size := Heap.lt_size ha
    have hD₁ : h₁.get? s.heap.objs.size ≠ none := by
      obtain ⟨o', es, ep, ho', _⟩ := hnew
      rw [kp₁ _ _ ho']; simp
    have hsz : s.heap.objs.size < h₁.objs.size := by
      cases e : h₁.get? s.heap.objs.size with
      | none => exact absurd e hD₁
      | some _ => exact Heap.lt_size e
    have kp2 : ∀ b ob, s.heap.get? b = some ob → (h₁.push { cls := .type "list_iterator", data := .fields #[.ref l, .int 0 0] }).get? b = some ob := fun b ob e => Heap.get?_push_of_some _ (kp₁ _ _ (Heap.get?_push_of_some _ e))
    have step := dloop (prog := prog) (wd := wd) (A := A.in1) (res := .none) (I := h₁.objs.size) (l := l) (Dd := s.heap.objs.size) (vs := us) (ps := ps) (R := wants (fun r s₂ => r = Value.none ∧ ∃ w', Stp w s w' s₂ ∧ RV prog wd w' (.ref s.heap.objs.size) (.dct (dputs [] ps))) NoE) hh (Nat.ne_of_lt (Nat.lt_trans hls hsz)) (Nat.ne_of_lt hsz) (Nat.ne_of_gt hls)
      (by have := q.length; simpa using this) hz _ 0 { s with heap := h₁.push { cls := .type "list_iterator", data := .fields #[.ref l, .int 0 0] }, toks := tk₁ } [] [] rfl (Nat.zero_le _) ⟨_, Heap.get?_push_size _ rfl, rfl, rfl⟩ (hl₂.push _)
      (let ⟨o', es, ep, ho', r⟩ := hnew; ⟨o', es, ep, Heap.get?_push_of_some _ (kp₁ _ _ ho'), r⟩) .nil (Nat.le_refl _)
      (fun j v p hv hp => by
        obtain ⟨d, hd, rv⟩ := q.get (k := j) (v := v) (by simpa using hv)
        rw [List.getElem?_map, hp] at hd
        cases hd
        cases rv with
        | tup ea ra =>
          rename_i a vs' n'
          cases vs' with
          | mk vl =>
            cases ra with
            | cons r1 ra =>
              cases ra with
              | cons r2 ra =>
                cases ra
                cases r1; cases r2
                exact ⟨a, _, _, n', rfl, kp2 _ _ (o.part _ _ ea)⟩)
      (fun h' tk kvs' hD' hkv' kp' => by
        refine ⟨rfl, ?_⟩
        obtain ⟨ob, ho, hdo⟩ := Heap.dictOf_iff.mp hD'
        have kp3 : ∀ b o', s.heap.get? b = some o' → h'.get? b = some o' := fun b o' e => kp' b o' (Nat.ne_of_lt (Nat.lt_trans (Heap.lt_size e) hsz)) (Nat.ne_of_lt (Heap.lt_size e)) (kp2 b o' e)
        refine ⟨w.put s.heap.objs.size ob, .put o fr ho kp3 rfl rfl, .dct (Vw.put_self ..) (notModules o hlim) hdo hkv'⟩)
    exact step
end
end Mine
namespace Mine
open PySem PySem.Calls PyProof.Rows PySem.W
section
variable {prog : Program} {wd : World} {H0 : Heap} {A : Around} {env : Env} {loc : Loc} {N : Str → Prop} {own : Own} {Qn : Loc → Own → Prop} {Qr : D → Prop}

/-- what enumerate gives -/
def enumD : Nat → List D → List D
  | _, [] => []
  | i, d :: r => .tup [.int (i : Int), d] :: enumD (i + 1) r
theorem enumD_len : ∀ (i : Nat) (l : List D), (enumD i l).length = l.length
  | _, [] => rfl
  | i, _ :: r => by simp [enumD, enumD_len (i + 1) r]
theorem enumD_get : ∀ (i j : Nat) (l : List D), (enumD i l)[j]? = (l[j]?).map fun d => .tup [.int ((i + j : Nat) : Int), d]
  | _, _, [] => by simp [enumD]
  | i, 0, d :: r => by simp [enumD]
  | i, j + 1, d :: r => by
    rw [enumD, List.getElem?_cons_succ, List.getElem?_cons_succ, enumD_get (i + 1) j r]
    congr 1
    funext x
    rw [show i + 1 + j = i + (j + 1) by omega]

theorem ITE.enum {ts : List Expr} {k : Nat} {tp : Pos} {e : Expr} {x : Str} {p pos : Pos} {xs : List D} (hh : A.handled = none) (hn : GN prog wd H0 A env x (.type "enumerate")) (h : PE prog wd H0 A env loc e (.lst xs))
    (he : starEach [e] env = (false, eval e env) :: starEach [] env)
    (hc : eval (.Call (.Name x p) [e] [] pos) env = (do callWith pos (← eval (.Name x p) env) [] (backTo pos (starEach [e] env)) (backToKw pos (keywordEach [] env)))) :
    ITE prog wd H0 A env loc (.Tuple ts k tp) (.Call (.Name x p) [e] [] pos) (enumD 0 xs) := fun w s o V => by
  refine call_gen hn (KP.type _) (.cons h .nil he) he rfl hc w s o V fun w₁ s₁ vs S₁ R₁ => ?_
  cases R₁ with
  | cons R₁ t =>
    cases t
    obtain ⟨l, rfl⟩ := R₁.lstRef
    have o₁ := S₁.ok o
    obtain ⟨us, n, ha, hl, r⟩ := R₁.isList o₁.part
    refine call_enumerate_list hl fun h' hE hI hsz hk => ?_
    have S₂ : Stp w₁ s₁ w₁ { s₁ with heap := h' } := .quiet o₁ hk rfl rfl
    have o₂ := S₂.ok o₁
    have hl' : h'.IsList l us := let ⟨ob, q, r⟩ := hl; ⟨ob, hk _ _ q, r⟩
    have hls : l < s₁.heap.objs.size := Heap.lt_size ha
    have fr1 := fresh_size s₁.heap
    have fr2 : s₁.heap.get? (s₁.heap.objs.size + 1) = none := by
      cases q : s₁.heap.get? (s₁.heap.objs.size + 1) with
      | none => rfl
      | some o' => exact absurd (Heap.lt_size q) (Nat.not_lt.mpr (Nat.le_succ _))
    have up : ∀ a, s₁.heap.get? a = none → s.heap.get? a = none := fun a q => by
      cases q' : s.heap.get? a with
      | none => rfl
      | some x => rw [S₁.keep _ _ q'] at q; cases q
    have wl : w₁ l ≠ none := by
      cases R₁ with
      | lst h _ => rw [h]; simp
    have eus : us.size = xs.length := by rw [← r.length, Array.length_toList]
    generalize hit : s₁.heap.objs.size = it at *
    have hne : it + 1 ≠ it := Nat.succ_ne_self _
    refine wpAny_pyIter_enum hE ⟨w₁, it + 1, (fun a => a = it + 1 ∨ a = it), [it + 1, it, l],
      (fun i w h => ((∃ old, IsEnum h (it + 1) it i old) ∧ h.IsListIter it l i ∧ h.IsList l us) ∧ w (it + 1) = none ∧ w it = none ∧ Vle w₁ w),
      (fun i v w h => ∃ T, v = .ref T ∧ ((∃ x, IsEnumOut h (it + 1) it ((i : Int) + 1) x T) ∧ h.IsListIter it l (i + 1) ∧ h.IsList l us) ∧ w (it + 1) = none ∧ w it = none ∧ Vle w₁ w), rfl, ?_, ?_, S₁.trans S₂, ?_, ?_⟩
    · refine ⟨?_, ?_, ?_, ?_, ?_, ?_, ?_, ?_, ?_⟩
      · rintro i w w' h h' ⟨⟨⟨old, he⟩, hi, hl⟩, _, _, hv⟩ hw hn hk
        exact ⟨⟨⟨old, hk _ (by simp) _ he⟩, (let ⟨ob, q, r⟩ := hi; ⟨ob, hk _ (by simp) _ q, r⟩), (let ⟨ob, q, r⟩ := hl; ⟨ob, hk _ (by simp) _ q, r⟩)⟩, hn _ (.inl rfl), hn _ (.inr rfl), hv.trans hw⟩
      · rintro i w h ⟨⟨⟨old, he⟩, ⟨ob, q, _, dd⟩, hl⟩, h1, h2, _⟩ a (rfl | rfl)
        · exact ⟨h1, _, _, he, rfl⟩
        · exact ⟨h2, _, _, q, dd⟩
      · rintro i v w h ⟨T, _, ⟨⟨x, he⟩, ⟨ob, q, _, dd⟩, hl⟩, h1, h2, _⟩ a (rfl | rfl)
        · exact ⟨h1, _, _, he, rfl⟩
        · exact ⟨h2, _, _, q, dd⟩
      · rintro a (rfl | rfl) <;> simp
      · rintro a (rfl | rfl)
        · exact H0_fresh o₁ fr2
        · exact H0_fresh o₁ fr1
      · rintro i w s hi o ⟨⟨⟨old, he⟩, hi', hl⟩, h1, h2, hv⟩
        rw [enumD_len] at hi
        obtain ⟨v, hv'⟩ : ∃ v, us[i]? = some v := ⟨us[i]'(by omega), Array.getElem?_eq_getElem _⟩
        obtain ⟨d, hd, rv⟩ := r.get (k := i) (v := v) (by simpa using hv')
        refine wpAny_pyNext_enum_item he hi' hl hv' hne fun h' hEo hi2 hT hsz' hk' => ?_
        have fT := fresh_size s.heap
        obtain ⟨oi, qi, _⟩ := id hi'
        have nT1 : s.heap.objs.size ≠ it + 1 := Nat.ne_of_gt (Heap.lt_size he)
        have nT2 : s.heap.objs.size ≠ it := Nat.ne_of_gt (Heap.lt_size qi)
        have wT : w s.heap.objs.size = none := w_fresh o fT
        have hle := Vle.trans (Vle.refl w) (Vw.le_put (o := { cls := .type "tuple", data := .seq #[.int i s.toks, v] }) wT)
        refine ⟨.ref s.heap.objs.size, .tup [.int (i : Int), d], w.put s.heap.objs.size { cls := .type "tuple", data := .seq #[.int i s.toks, v] }, rfl, ?_, .tup (Vw.put_self ..) (.cons (.int _ _) (.cons (rv.mono (hv.trans hle)) .nil)), ⟨hle, fun b o' q => ?_, fun b o' q => ?_, fun b o' nb q => hk' b o' (fun e => nb (.inl e)) (fun e => nb (.inr e)) q, fun b o' q => ?_, rfl, rfl⟩,
          _, rfl, ⟨⟨_, hEo⟩, hi2, ?_⟩, ?_, ?_, hv.trans hle⟩
        · rw [enumD_get, hd]; simp
        · unfold Vw.put at q
          split at q
          · rename_i e; cases q; rw [e]; exact hT
          · exact hk' b o' (fun e => by rw [e, h1] at q; cases q) (fun e => by rw [e, h2] at q; cases q) (o.part _ _ q)
        · unfold Vw.put at q
          split at q
          · rename_i e; rw [e]; exact .inr fT
          · exact .inl q
        · by_cases e1 : b = it + 1
          · rw [e1]; exact ⟨_, hEo⟩
          · by_cases e2 : b = it
            · obtain ⟨ob, q', _⟩ := hi2; rw [e2]; exact ⟨_, q'⟩
            · exact ⟨_, hk' _ _ e1 e2 q⟩
        · obtain ⟨ob, q, r⟩ := hl
          exact ⟨ob, hk' _ _ (Nat.ne_of_lt (Nat.lt_succ_of_lt hls)) (Nat.ne_of_lt hls) q, r⟩
        · unfold Vw.put; rw [if_neg (Ne.symm nT1)]; exact h1
        · unfold Vw.put; rw [if_neg (Ne.symm nT2)]; exact h2
      · rintro w s o ⟨⟨⟨old, he⟩, hi', hl⟩, h1, h2, hv⟩
        refine wpAny_pyNext_enum_end hh he hi' hl (Array.getElem?_eq_none (by rw [enumD_len, eus]; exact Nat.le_refl _)) fun h' hx => ⟨rfl, fun b o' nb q => hx b o' (fun e => nb (.inr e)) q, rfl, rfl⟩
      · rintro i w s v d o ⟨T, rfl, ⟨⟨x, he⟩, hi', hl⟩, h1, h2, hv⟩ rv
        refine wpAny_letOwnedTupleGo_enum he fun h' he' hs' => ?_
        refine ⟨w, ⟨.refl w, fun b o' q => hs'.extBut b o' (fun e => by rw [e, h1] at q; cases q) (o.part _ _ q), fun _ _ q => .inl q, fun b o' nb q => hs'.extBut b o' (fun e => nb (.inl e)) q, fun b o' q => ?_, rfl, rfl⟩, ⟨⟨x, by simpa using he'⟩, ?_, ?_⟩, h1, h2, hv⟩
        · by_cases e1 : b = it + 1
          · rw [e1]; exact ⟨_, he'⟩
          · exact ⟨_, hs'.extBut _ _ e1 q⟩
        · obtain ⟨ob, q, r⟩ := hi'; exact ⟨ob, hs'.extBut _ _ (Nat.ne_of_lt (Nat.lt_succ_self _)) q, r⟩
        · obtain ⟨ob, q, r⟩ := hl; exact ⟨ob, hs'.extBut _ _ (Nat.ne_of_lt (Nat.lt_succ_of_lt hls)) q, r⟩
      · rintro i w s Q ⟨⟨⟨old, he⟩, hi', hl⟩, h1, h2, hv⟩ hQ
        exact wpAny_pyIter_enum he hQ
    · exact ⟨⟨⟨_, hE⟩, hI, hl'⟩, w_fresh o₁ fr2, w_fresh o₁ fr1, .refl _⟩
    · intro b hb
      rcases List.mem_cons.mp hb with rfl | hb
      · exact ⟨.inr (up _ fr2), _, hE⟩
      · rcases List.mem_cons.mp hb with rfl | hb
        · obtain ⟨ob, q, _⟩ := hI; exact ⟨.inr (up _ fr1), _, q⟩
        · rw [List.mem_singleton.mp hb]; exact ⟨.inl wl, _, hk _ _ ha⟩
    · rintro a (rfl | rfl)
      · exact up _ fr2
      · exact up _ fr1

/-- [d] * n -/
theorem RVs.rep {w : Vw} {v : Value} {d : D} (r : RV prog wd w v d) : ∀ n, RVs prog wd w (List.replicate n v) (List.replicate n d)
  | 0 => .nil
  | n + 1 => .cons r (RVs.rep r n)
theorem fold_rep (v : Value) : ∀ (k : Nat) (acc : Array Value), (List.foldl (fun x1 x2 => x1 ++ x2) acc (List.replicate k #[v])).toList = acc.toList ++ List.replicate k v := by
  intro k
  induction k with
  | zero => intro acc; simp
  | succ k ih => intro acc; rw [List.replicate_succ, List.foldl_cons, ih]; simp [List.replicate_succ]
theorem mul_list_plain {A : Around} {E : Value → Shared → Prop} {s : Shared} {l : Addr} {items : Array Value} {k : Nat} {x : Int} {u : Tok} {Q : Value → Shared → Prop}
    (hl : s.heap.get? l = some { cls := .type "list", dict := none, data := .seq items k, slots := #[] })
    (hlo : -(2 ^ 63 : Int) ≤ x) (hhi : x < 2 ^ 63) (hsz : items.size * x.toNat ≤ 2 ^ 24)
    (h : Q (.ref s.heap.objs.size) { s with heap := s.heap.push { cls := .type "list", data := .seq (List.foldl (fun x1 x2 => x1 ++ x2) #[] (List.replicate (if items.isEmpty = true then 0 else x.toNat) items)) } }) :
    wpAny (model prog wd) A (binaryOp .Mult (.ref l) (.int x u)) Q E s :=
  wpAny_binaryOp_repeat_ref (T := "list") (U := "int") (by decide) ⟨_, hl, rfl⟩ (fun s' => typeIs_int s' x u) noFill_list_mul PySem.F.fills_int_mul PySem.F.slot_int_rmul repeat_list PySem.F.slot_int_index.lookup
    (call_meets PySem.F.slot_int_rmul (typeIs_int s x u) PySem.F.entry_int_rmul (PySem.F.args_int_rmul_2 _ _) (int___rmul___int_list x u l items k)
      ⟨hl, rfl, ⟨_, hl, rfl⟩, call_meets PySem.F.slot_list_mul ⟨_, hl, rfl⟩ PySem.F.entry_list_mul (PySem.F.args_list_mul_2 _ _)
        (AutoListH.list___mul___list_int_3 l items k x u (by simp [Builtin.List.listFitsIndex]; omega) (by omega) (by simp [Builtin.List.listTooLong, sizeLine]; omega))
        ⟨hl, h⟩⟩)
theorem BO.mulL {d : D} {n : Nat} (hz : n ≤ 1000) : BO prog wd H0 A .Mult (.lst [d]) (.int n) (.lst (List.replicate n d)) := fun w s v₁ v₂ o r₁ r₂ => by
  obtain ⟨a, rfl⟩ := r₁.lstRef
  obtain ⟨us, m, ha, hl, q⟩ := r₁.isList o.part
  cases r₂ with
  | int i u =>
    have h1 : us.size = 1 := by have := q.length; simpa using this
    refine mul_list_plain ha (by omega) (by omega) (by rw [h1]; simp; omega) ?_
    have S := Stp.push o { cls := .type "list", data := .seq (List.foldl (fun x1 x2 => x1 ++ x2) #[] (List.replicate (if us.isEmpty = true then 0 else (n : Int).toNat) us)) }
    refine ⟨_, S, .lst (Vw.put_self ..) ?_⟩
    have h2 : us.isEmpty = false := by rw [Array.isEmpty, h1]; rfl
    rw [h2]
    obtain ⟨ul⟩ := us
    cases q with
    | cons q t =>
      cases t
      rw [fold_rep]
      simpa using RVs.rep (q.mono S.mono) n

/-- a new list, walked by a comprehension -/
theorem FLE.comp {elt : Expr} {g : Comprehension} {gs : List Comprehension} {scope : Scope} {pos : Pos} {cl : List (Str × Addr)} {xs : List D} {N : Str → Prop} (outs : D → List D) (hclos : closureFor scope env = pure cl)
    (hco : CompOk scope N) (hcl : ClOk env loc scope cl) (hs : ∀ x, foldedSetIterable g.iter env x = pure x) (ha : ∀ (k : Nat) (g' : Comprehension), (g :: gs)[k]? = some g' → g'.is_async = 0) (hit : ITE prog wd H0 A env loc g.target g.iter xs) (hz : (xs.flatMap outs).length ≤ 100000)
    (turn : ∀ C, EnvOk (cenvAt scope cl env C) N → ∀ x ∈ xs, TURN prog wd H0 A (cenvAt scope cl env C) N (loc.only cl) g x (bodyT elt (g :: gs) scope pos 0 (cenvAt scope cl env C)) (outs x)) :
    FLE prog wd H0 A env loc (.ListComp elt (g :: gs) scope pos) (.lst (xs.flatMap outs)) := fun w s o V => by
  rw [eval_ListComp]
  have ha0 : firstAsync (g :: gs) = false := by
    obtain ⟨t, i, fs, a⟩ := g
    show (a != 0) = false
    have := ha 0 ⟨t, i, fs, a⟩ rfl
    simp only at this
    rw [this]; rfl
  rw [ha0]
  refine wpAny_comprehension_free (use := Option.none) rfl hs hclos hco.kind hco.names ?_
  have hf : firstIter (g :: gs) env = eval g.iter env := by obtain ⟨t, i, fs, a⟩ := g; rfl
  rw [hf]
  refine comp_core (RR := fun acc C => compPost (model prog wd) A NoE Option.none (fun v s' => ∃ w' a, v = .ref a ∧ Stp w s w' s' ∧ w' a = Option.none ∧ s.heap.get? a = Option.none ∧ Owned prog wd w' s'.heap a (.lst (xs.flatMap outs))) acc C) outs hco hcl ha hit hz turn w s o V ?_
  intro D C w' s' hDC hD hC S ⟨vs, n, e, r⟩ wD wC ⟨m, ns⟩
  refine ⟨m, ns, fun h' hs' => ?_⟩
  have kp : ∀ b ob, b ≠ C → s'.heap.get? b = some ob → h'.get? b = some ob := fun b ob hb e => hs'.extBut b ob hb e
  have S' : Stp w s w' { s' with heap := h' } := ⟨S.mono, fun b ob e => kp b ob (fun q => by rw [q, wC] at e; cases e) (S.part b ob e), S.fresh, fun b ob e => kp b ob (fun q => by rw [q, hC] at e; cases e) (S.keep b ob e), S.os, S.gens⟩
  exact ⟨w', D, rfl, S', wD, hD, .lst (kp _ _ hDC e) r⟩

/-- x = f(a new list): f may read it, own lists stay apart -/
theorem SX.assignCallNew {x y : Str} {f : Value} {e : Expr} {px py cpos pos : Pos} {ds : List D} {r : D} (n : Nat) (EO : EnvOk env N) (hx : N x) (hkx : env.kindOf x = some .local ∨ env.kindOf x = some .cell) (hn : GN prog wd H0 A env y f) (hk : KP prog wd H0 f)
    (h : FLE prog wd H0 A env (loc.res own) e (.lst ds)) (hf : ∀ d ∈ ds, d.flat n = true) (hcf : CF prog wd H0 A f [.lst ds] r)
    (he : starEach [e] env = (false, eval e env) :: starEach [] env)
    (hc : eval (.Call (.Name y py) [e] [] cpos) env = (do callWith cpos (← eval (.Name y py) env) [] (backTo cpos (starEach [e] env)) (backToKw cpos (keywordEach [] env))))
    (hs : swapsWith (.Call (.Name y py) [e] [] cpos) (some (.Name x px)) pos.line env = pure false) (hq : Qn (loc.set x r) own) : SX prog wd H0 A env N loc own (.Assign [.Name x px] (.Call (.Name y py) [e] [] cpos) pos) Qn Qr := fun s₀ hb w₀ w s S => by
  refine wpAny_Assign_Name (Q := _) (wpAny_mono (Q := fun v s' => ∃ w', Sim prog wd H0 env N s₀ hb w₀ w' loc own s' ∧ RV prog wd w' v r) (Call_ (hn py s _ _ S.ok.base ?_) hc) (fun v s₁ ⟨w₁, S₁, rv⟩ => ?_) fun _ _ f => f) hs
  · rw [he]
    refine callWith_of (P := fun h => ∀ b o, H0.get? b = some o → h.get? b = some o) rfl hk (evalArgs_plain ?_)
    refine spliced_cons (wpAny_mono (S.fle n h hf) (fun v s₁ ⟨w₁, a, ev, S₁⟩ => ?_) fun _ _ f => f)
    refine spliced_nil ⟨S₁.ok.base, ?_⟩
    subst ev
    obtain ⟨ow, wa, hba, h0, hfr⟩ := S₁.owns _ (.head _)
    obtain ⟨o, ho, _⟩ := ow.get
    have hle : Vle w₁ (w₁.put a o) := Vw.le_put wa
    have par : ∀ b ob, (w₁.put a o) b = some ob → s₁.heap.get? b = some ob := fun b ob e => by
      unfold Vw.put at e
      split at e
      · rename_i q; cases e; rw [q]; exact ho
      · exact S₁.ok.part b ob e
    have rv : RV prog wd (w₁.put a o) (.ref a) (.lst ds) := by
      cases ow with
      | lst e r => rw [ho] at e; cases e; exact .lst (Vw.put_self ..) (r.mono hle)
    have o₁ : Ok H0 (w₁.put a o) s₁ := ⟨S₁.ok.base, par⟩
    have nd := List.nodup_cons.mp S₁.nd
    refine wpAny_mono (hcf _ s₁ [.ref a] o₁ (.cons rv .nil)) (fun v s₂ ⟨w₂, S₂, rv₂⟩ => ⟨w₂, ?_, rv₂⟩) fun _ _ f => f
    have S₁' : Sim prog wd H0 env N s₀ hb w₀ (w₁.put a o) loc own s₁ := by
      have oth : ∀ b, b ≠ a → (w₁.put a o) b = w₁ b := fun b hb => by unfold Vw.put; rw [if_neg hb]
      refine ⟨o₁, ⟨S₁.fs.ns, ?_, S₁.fs.hl, fun y n k => ?_⟩, fun y dy e => ?_, S₁.keep, S₁.w0.trans hle, fun b ob e => ?_, S₁.fr0, fun p hp => ?_, nd.2, S₁.os, S₁.gens⟩
      · rw [oth _ (fun q => hfr (.inl q.symm))]; exact S₁.fs.wl
      · obtain ⟨c, l, ic, wc, hc⟩ := S₁.fs.cell y n k
        exact ⟨c, l, ic, by rw [oth _ (fun q => hfr (.inr ⟨y, n, k, q ▸ l⟩))]; exact wc, hc⟩
      · obtain ⟨v, L, r⟩ := S₁.view y dy e
        exact ⟨v, L, r.mono hle⟩
      · unfold Vw.put at e
        split at e
        · rename_i q; rw [q]; exact .inr hba
        · exact S₁.fresh b ob e
      · obtain ⟨b1, b2, b3, b4, b5⟩ := S₁.owns p (.tail _ hp)
        have hne : p.1 ≠ a := fun q => nd.1 (q ▸ List.mem_map.mpr ⟨p, hp, rfl⟩)
        exact ⟨b1.keeps hle fun _ q => q, by rw [oth _ hne]; exact b2, b3, b4, b5⟩
    exact S₁'.stp S₂
  · exact wpAny_mono (store_ok hx hkx EO S₁.ok S₁.fs S₁.view rv) (fun _ s₂ ⟨M, F, V⟩ => ⟨w₁, _, own, S₁.fra M F V, hq⟩) fun _ _ f => f
end
end Mine
namespace Mine
open PySem PySem.Calls PyProof.Rows PySem.W

/-- the ground that a law stands on -/
structure Gd (K : Frag) (H0 : Heap) : Prop where
  X : K.In H0
  g : ∃ mg, H0.Ns mainGlobals mg
  b : ∃ mb, H0.Ns builtinsNs mb ∧ ∀ x : Str, x ≠ "__name__" → mb x = bootBuiltins x
  lim : H0.NoLimit
/-- room around -/
structure AOk (n : Nat) (A : Around) : Prop where
  hh : A.handled = none
  depth : A.depth + n ≤ 500
  units : A.units + 3 * n ≤ 5000
theorem AOk.deeper {n : Nat} {A : Around} (h : AOk (n + 1) A) (env : Env) : AOk n (A.deeper env) :=
  ⟨h.hh, by have := h.depth; rw [depth_deeper]; omega, by have := h.units; rw [units_deeper]; omega⟩
theorem AOk.u {n : Nat} {A : Around} (h : AOk n A) : A.units + 64 < cLine := by have := h.units; rw [cLine_is]; omega
theorem AOk.u0 {n : Nat} {A : Around} (h : AOk n A) : A.units < cLine := by have := h.u; omega
theorem AOk.d {n : Nat} {A : Around} (h : AOk n A) : A.depth < recursionLimit := by have := h.depth; have e : recursionLimit = 1000 := rfl; omega

section
variable {prog : Program} {wd : World} {H0 : Heap} {A : Around} {env : Env} {loc : Loc} {N : Str → Prop} {own : Own} {Qn : Loc → Own → Prop} {Qr : D → Prop} {K : Frag}
theorem GN.ofK {x : Str} {v : Value} (G : Gd K H0) (e : nsIn K mainGlobals x = some (some v)) (hg : env.globals = mainGlobals) (hk : env.scope.kind = .function) (hx : env.kindOf x = some .globalImplicit) (hd : (x == ("__debug__" : Str)) = false) : GN prog wd H0 A env x v := fun pos s Q E hb hq => by
  obtain ⟨mg, g⟩ := G.g
  exact Name_function_global hk hx (loadGlobal_global (env := env) (by rw [hg]; exact g.keeps hb) (mg_of G.X g e) hq) hd
theorem GN.ofB {x : Str} {v : Value} (G : Gd K H0) (e : nsIn K mainGlobals x = some none) (hv : bootBuiltins x = some v) (hn : x ≠ "__name__") (hg : env.globals = mainGlobals) (hbn : env.builtins = builtinsNs) (hk : env.scope.kind = .function) (hx : env.kindOf x = some .globalImplicit) (hd : (x == ("__debug__" : Str)) = false) : GN prog wd H0 A env x v := fun pos s Q E hb hq => by
  obtain ⟨mg, g⟩ := G.g
  obtain ⟨mb, b, eb⟩ := G.b
  exact Name_function_global hk hx (loadGlobal_builtin (env := env) (by rw [hg]; exact g.keeps hb) (mg_none_of G.X g e) (by rw [hbn]; exact b.keeps hb) ((eb x hn).trans hv) hq) hd
theorem FnOk.ofK {f : Addr} {oc : Value} {od : Option Addr} {sl : Array (Option Value)} {fd : FuncData} {body : List Stmt} (G : Gd K H0) (e : K.lookup f = some ⟨oc, od, .func fd, sl⟩) (hb : fd.body = .stmts body) (hc : fd.closure = []) (hcd : codeIn K fd.code fd.qualname = true)
    (h1 : fd.scope.isCoroutine = false) (h2 : fd.scope.isGenerator = false) (h3 : fd.scope.kind = .function) : FnOk H0 f fd body :=
  ⟨⟨_, G.X _ _ e, rfl⟩, hb, hc, G.lim, codeRec_of G.X hcd, h1, h2, h3⟩
theorem KP.ofK {f : Addr} {oc : Value} {od : Option Addr} {sl : Array (Option Value)} {fd : FuncData} (G : Gd K H0) (e : K.lookup f = some ⟨oc, od, .func fd, sl⟩) : KP prog wd H0 (.ref f) := KP.fn (G.X _ _ e) rfl

/-- putting in, by halves -/
def bis (ls : List (List Int)) (t : List Int) (lo hi : Nat) : Nat :=
  if h : lo < hi then (if lexlt (ls.getD ((lo + hi) / 2) []) t then bis ls t ((lo + hi) / 2 + 1) hi else bis ls t lo ((lo + hi) / 2)) else lo
termination_by hi - lo
decreasing_by all_goals omega
def insAt {α : Type} (ls : List α) (k : Nat) (t : α) : List α := ls.take k ++ t :: ls.drop k
def insL (ls : List (List Int)) (t : List Int) : List (List Int) := insAt ls (bis ls t 0 ls.length) t

theorem ins_arr (xs : Array Value) (k : Nat) (u : Value) : ((xs.extract 0 k).push u ++ xs.extract k).toList = insAt xs.toList k u := by
  obtain ⟨l⟩ := xs
  have e : (l.drop k).take (l.length - k) = l.drop k := List.take_of_length_le (by simp)
  simp [insAt, List.extract_eq_take_drop, e]
theorem insert_plain {A : Around} {E : Value → Shared → Prop} {s : Shared} {l : Addr} {items : Array Value} {n : Nat} {x : Int} {u : Tok} {y : Value} {Q : Value → Shared → Prop}
    (hl : s.heap.get? l = some { cls := .type "list", dict := none, data := .seq items n, slots := #[] }) (hc0 : ¬(!Builtin.List.listFitsIndex x) = true) (hs1 : items.size ≤ sizeLine)
    (h : Q .none { s with heap := s.heap.update l (Obj.mapSeq fun xs => have k := if x < 0 then (x + (xs.size : Int)).toNat else min x.toNat xs.size; (xs.extract 0 k).push y ++ xs.extract k) }) :
    wpAny (model prog wd) A (call (.builtin "list.insert") [.ref l, .int x u, y]) Q E s :=
  call_meets PySem.F.slot_list_insert ⟨_, hl, rfl⟩ PySem.F.entry_list_insert (PySem.F.args_list_insert_3 _ _ _) (AutoSeq1.list_insert_list_int_val_1 l items n x u y hc0 hs1) ⟨hl, h⟩

/-- x.insert(k, e) -/
theorem SX.insert {x : Str} {ke e : Expr} {px apos cpos pos : Pos} {a : Addr} {ds : List D} {d : D} {k : Nat} (n : Nat) (hk : env.scope.kind = .function) (hx : loc x = some (.ptr a)) (ha : own.lookup a = some (.lst ds)) (hke : PE prog wd H0 A env (loc.res own) ke (.int k)) (hkl : k ≤ ds.length) (h : PE prog wd H0 A env (loc.res own) e d) (hf : d.flat n = true) (hz : ds.length ≤ 10000)
    (hxd : (x == ("__debug__" : Str)) = false) (hxc : (x == ("__classdict__" : Str)) = false) (hse : starEach [ke, e] env = [(false, eval ke env), (false, eval e env)]) (hline : (apos.endLine == cpos.line) = true)
    (hbase : attributeBase (.Name x px) "insert" env (eval (.Name x px) env) = eval (.Name x px) env) (hi : interactive env = false) (hs : swapsWith (.Call (.Attribute (.Name x px) "insert" apos) [ke, e] [] cpos) none pos.line env = pure false)
    (hq : Qn loc (own_set own a (.lst (insAt ds k d)))) : SX prog wd H0 A env N loc own (.Expr (.Call (.Attribute (.Name x px) "insert" apos) [ke, e] [] cpos) pos) Qn Qr := fun s₀ hb w₀ w s S => by
  refine wpAny_Expr ?_ hi hs
  refine wpAny_Call_method hbase (by rw [hse]; rfl) hline PySem.F.plainAttrs_list PySem.F.slot_list_insert PySem.F.type_list_insert ?_
  obtain ⟨v, L, r⟩ := S.view x _ hx
  cases r
  refine wpAny_Name (wpAny_look L hk hxc ?_) hxd
  have hm := lookup_mem_own ha
  obtain ⟨ow, wa, hba, h0, hfr⟩ := S.owns _ hm
  cases ow with
  | lst ea ra =>
    refine ⟨⟨_, ea, rfl⟩, fun b q => by cases q; exact ⟨_, ea, rfl⟩, ?_⟩
    rw [hse]
    refine callWith_of (P := fun _ => True) rfl (fun _ _ => ⟨.machine, .inr (.inl rfl), Looks.of_pure rfl⟩) (evalArgs_plain ?_)
    refine spliced_cons (wpAny_mono (S.evl 0 hke rfl) (fun kv s₁ ⟨w₁, S₁, rk⟩ => ?_) fun _ _ f => f)
    refine spliced_cons (wpAny_mono (S₁.evl n h hf) (fun u s₂ ⟨w₂, S₂, ru⟩ => ?_) fun _ _ f => f)
    refine spliced_nil ⟨trivial, ?_⟩
    obtain ⟨ow, wa, hba, h0, hfr⟩ := S₂.owns _ hm
    cases ow with
    | lst ea ra =>
      rename_i vs₂ n₂
      cases rk with
      | int i t =>
        have e1 : vs₂.size = ds.length := by rw [← ra.length, Array.length_toList]
        show wpAny _ _ (call (.builtin "list.insert") [.ref a, .int k t, u]) _ _ _
        have e2 : ¬ (!Builtin.List.listFitsIndex (k : Int)) = true := by simp [Builtin.List.listFitsIndex]; omega
        have e3 : vs₂.size ≤ sizeLine := by rw [e1, sizeLine_eq]; omega
        refine insert_plain ea e2 e3 ?_
        generalize hf' : (fun xs : Array Value => have k' := if (k : Int) < 0 then ((k : Int) + (xs.size : Int)).toNat else min (k : Int).toNat xs.size; (xs.extract 0 k').push u ++ xs.extract k') = f'
        have ef : (f' vs₂).toList = insAt vs₂.toList k u := by
          rw [← hf']
          have c1 : ¬ ((k : Int) < 0) := by omega
          have c2 : min (k : Int).toNat vs₂.size = k := by rw [Int.toNat_natCast]; omega
          simp only [if_neg c1, c2]
          exact ins_arr vs₂ k u
        obtain ⟨n', hup⟩ : ∃ n', (s₂.heap.update a (Obj.mapSeq f')).get? a = some ({ cls := .type "list", data := .seq (f' vs₂) n' } : Obj) := ⟨_, Heap.get?_update_self _ ea rfl⟩
        have hsb : Heap.SameBut a s₂.heap (s₂.heap.update a (Obj.mapSeq f')) := Heap.SameBut.update ..
        have M : MS (· = a) w₂ s₂ w₂ { s₂ with heap := s₂.heap.update a (Obj.mapSeq f') } := by
          refine ⟨.refl _, fun b ob q => hsb.extBut b ob (fun q' => by rw [q', wa] at q; cases q) (S₂.ok.part b ob q), fun _ _ q => .inl q, fun b ob nq q => hsb.extBut b ob nq q, fun b ob q => ?_, rfl, rfl⟩
          by_cases hb' : b = a
          · subst hb'; exact ⟨_, hup⟩
          · exact ⟨ob, hsb.extBut b ob hb' q⟩
        refine ⟨w₂, loc, _, S₂.upd hm M (.lst hup ?_), hq⟩
        rw [ef]
        exact (ra.take k).append (.cons ru (ra.drop k))
end
end Mine
namespace Mine
open PySem PySem.Calls PyProof.Rows PySem.W
section
variable {prog : Program} {wd : World} {H0 : Heap} {A : Around} {env : Env} {loc : Loc} {N : Str → Prop} {own : Own} {Qn : Loc → Own → Prop} {Qr : D → Prop} {K : Frag}

def INS (prog : Program) (wd : World) (H0 : Heap) (A : Around) (f : Value) : Prop :=
  ∀ (w : Vw) (s : Shared) (a : Addr) (vs : Array Value) (n : Nat) (ls : List (List Int)) (t : List Int) (v : Value), Ok H0 w s → s.heap.get? a = some ({ cls := .type "list", data := .seq vs n } : Obj) → w a = none → H0.get? a = none →
    RVs prog wd w vs.toList (ls.map D.ints) → RV prog wd w v (.ints t) → (∀ l ∈ ls, l.length = t.length) → ls.length ≤ 1000 →
    wpAny (model prog wd) A (call f [.ref a, v]) (fun r s' => r = .none ∧ ∃ w', MS (· = a) w s w' s' ∧ Owned prog wd w' s'.heap a (.lst ((insL ls t).map D.ints))) NoE s

open Classical in
theorem INS.ofSW {f : Addr} {fd : FuncData} {body : List Stmt} {names : List Str} {extra : List Value} {exD : List D} (K : FnOk H0 f fd body) (hroom : A.depth < recursionLimit)
    (hbind : ∀ s vals, (∀ b o, H0.get? b = some o → s.heap.get? b = some o) → vals.length = 2 → BindsTo s fd ⟨vals, []⟩ (names.zip (vals ++ extra))) (hlen : names.length = 2 + exD.length)
    (hkind : names.all (fun y => fd.scope.names.lookup y == some .local || fd.scope.names.lookup y == some .cell) = true) (hnd : names.Nodup) (hex : ∀ w, RVs prog wd w extra exD)
    (h : ∀ L a ls t, EnvOk (callEnvC fd L f) All → (∀ l ∈ ls, l.length = t.length) → ls.length ≤ 1000 → SW prog wd H0 (A.deeper (callEnvC fd L f)) (callEnvC fd L f) All (locOf names ([.ptr a, .ints t] ++ exD)) [(a, .lst (ls.map D.ints))] body (fun _ own => own.lookup a = some (.lst ((insL ls t).map D.ints))) (fun _ => False)) : INS prog wd H0 A (.ref f) := by
  intro w s a vs n ls t v o ha wa h0 rl rv hle hlz
  have hl2 := (hex w).length
  refine fn_enter (ds := [.ptr a, .ints t] ++ exD) K hroom (hbind s [.ref a, v] o.base rfl) (by rw [List.length_append, hl2]; exact hlen) hkind hnd o (RVs.append (.cons (.ptr a) (.cons rv .nil)) (hex w)) fun L s₁ hos hgs kp EO F V fra => ?_
  refine wpAny_mono (h L a ls t EO hle hlz s (fun b => if b = a then none else s.heap.get? b) w w s₁ ⟨⟨fun b o' e => kp b o' (o.base b o' e), fun b o' e => kp b o' (o.part b o' e)⟩, F, V, fun b o' e => ?_, .refl w, fun b o' e => .inl e, fun b q => ?_, fun p hp => ?_, ?_, hos, hgs⟩) (fun fl s' h' => ?_) fun _ _ f => f
  · split at e
    · cases e
    · exact kp _ _ e
  · simp only [fra b q]; split <;> rfl
  · rw [List.mem_singleton.mp hp]
    refine ⟨.lst (kp _ _ ha) rl, wa, if_pos rfl, h0, fun q => ?_⟩
    rw [fra _ q] at ha; cases ha
  · exact List.nodup_cons.mpr ⟨fun q => (nomatch q), List.nodup_nil⟩
  · cases fl with
    | next =>
      obtain ⟨w', loc', own', S, e⟩ := h'
      obtain ⟨ow, wa', hba', _, _⟩ := S.owns _ (lookup_mem_own e)
      refine ⟨rfl, w', ⟨S.w0, S.ok.part, fun b ob q => ?_, fun b ob nb q => S.keep b ob (by rw [if_neg nb]; exact q), fun b ob q => ?_, S.os, S.gens⟩, ow⟩
      · rcases S.fresh b ob q with q' | q'
        · exact .inl q'
        · by_cases hb : b = a
          · rw [hb] at q; rw [show w' a = none from wa'] at q; cases q
          · rw [if_neg hb] at q'; exact .inr q'
      · by_cases hb : b = a
        · obtain ⟨o', ho', _⟩ := ow.get; rw [hb]; exact ⟨o', ho'⟩
        · exact ⟨ob, S.keep b ob (by rw [if_neg hb]; exact q)⟩
    | ret v => obtain ⟨d, _, q⟩ := h'; exact q.elim
    | brk => exact h'.elim
    | cont => exact h'.elim

/-- f(x, e): the list behind x takes e in -/
theorem SX.insort {x y : Str} {f : Value} {e : Expr} {px py cpos pos : Pos} {a : Addr} {ls : List (List Int)} {t : List Int} (hn : GN prog wd H0 A env y f) (hkp : KP prog wd H0 f) (hI : INS prog wd H0 A f)
    (hk : env.scope.kind = .function) (hx : loc x = some (.ptr a)) (ha : own.lookup a = some (.lst (ls.map D.ints))) (h : PE prog wd H0 A env (loc.res own) e (.ints t)) (hl : ∀ l ∈ ls, l.length = t.length) (hz : ls.length ≤ 1000)
    (hxd : (x == ("__debug__" : Str)) = false) (hxc : (x == ("__classdict__" : Str)) = false) (hse : starEach [.Name x px, e] env = [(false, eval (.Name x px) env), (false, eval e env)])
    (hc : eval (.Call (.Name y py) [.Name x px, e] [] cpos) env = (do callWith cpos (← eval (.Name y py) env) [] (backTo cpos (starEach [.Name x px, e] env)) (backToKw cpos (keywordEach [] env))))
    (hplain : (backTo cpos [(false, eval e env)]).any (·.1) = false) (hi : interactive env = false) (hs : swapsWith (.Call (.Name y py) [.Name x px, e] [] cpos) none pos.line env = pure false)
    (hq : Qn loc (own_set own a (.lst ((insL ls t).map D.ints)))) : SX prog wd H0 A env N loc own (.Expr (.Call (.Name y py) [.Name x px, e] [] cpos) pos) Qn Qr := fun s₀ hb w₀ w s S => by
  refine wpAny_Expr ?_ hi hs
  refine Call_ (hn py s _ _ S.ok.base ?_) hc
  rw [hse]
  refine callWith_of (P := fun h => ∀ b o, H0.get? b = some o → h.get? b = some o) (by show ((false || (backTo cpos [(false, eval e env)]).any (·.1)) || false) = false; rw [hplain]; rfl) hkp (evalArgs_plain ?_)
  obtain ⟨v, L, r⟩ := S.view x _ hx
  cases r
  refine spliced_cons (wpAny_Name (wpAny_look L hk hxc ?_) hxd)
  refine spliced_cons (wpAny_mono (S.evl 1 h (by simp [D.flat])) (fun u s₁ ⟨w₁, S₁, ru⟩ => ?_) fun _ _ f => f)
  refine spliced_nil ⟨S₁.ok.base, ?_⟩
  have hm := lookup_mem_own ha
  obtain ⟨ow, wa, hba, h0, hfr⟩ := S₁.owns _ hm
  cases ow with
  | lst ea ra =>
    refine wpAny_mono (hI w₁ s₁ a _ _ ls t u S₁.ok ea wa h0 ra ru hl hz) (fun r s₂ ⟨er, w₂, M, ow₂⟩ => ?_) fun _ _ f => f
    subst er
    exact ⟨w₂, loc, _, S₁.upd hm M ow₂, hq⟩
end
end Mine
namespace Mine
open PySem PySem.Calls PyProof.Rows PySem.W
section
variable {prog : Program} {wd : World} {H0 : Heap} {A : Around} {env : Env} {loc : Loc} {N : Str → Prop} {own : Own} {Qn : Loc → Own → Prop} {Qr : D → Prop} {K : Frag} {C fI fC : Addr}

theorem KP.keep {f : Value} (G : Gd K H0) (hk : keepIn K f = true) : KP prog wd H0 f := fun h k => keeps_K (M := model prog wd) hk h (G.X.keeps k)

structure ClsOk (K : Frag) (C fI fC : Addr) : Prop where
  makes : makesIn K C = true
  init : findIn K (.ref C) "__init__" = some (some (.ref fI))
  ifn : typeIn K (.ref fI) = some (.type "function")
  set : findIn K (.ref C) "__setattr__" = some (some (.builtin "object.__setattr__"))
  over : plainOver K C = true
  taker : takerIn K C "comp_select_list" = some none
  hd : hasDictIn K C = true
  ga : findIn K (.ref C) "__getattribute__" = some (some (.builtin "object.__getattribute__"))
  gk : findIn K (.ref C) "__getattr__" = some none
  attr : ∃ a, findIn K (.ref C) "comp_select_list" = some a ∧ noGet K a = true
  meth : findIn K (.ref C) "compare" = some (some (.ref fC))
  mfn : typeIn K (.ref fC) = some (.type "function")

theorem RV.handed {w : Vw} {v : Value} {d : D} (r : RV prog wd w v d) : handedIn v = true := by cases r <;> rfl

theorem PE.attr {n : Str} {np pos : Pos} {d : D} (G : Gd K H0) (Y : ClsOk K C fI fC) (h : PE prog wd H0 A env loc (.Name n np) (.tc C d)) : PE prog wd H0 A env loc (.Attribute (.Name n np) "comp_select_list" pos) d := fun w s o V => by
  refine Attribute_name (wpAny_mono (h w s o V) (fun v s₁ ⟨w₁, S₁, r⟩ => ?_) fun _ _ f => f)
  have o₁ := S₁.ok o
  cases r with
  | tc hx hdx rd =>
    obtain ⟨a, ha, hn⟩ := Y.attr
    have I : InstAt s₁.heap _ (instObj C _) C (some (dictOf _ _)) := ⟨o₁.part _ _ hx, rfl, rfl, o₁.part _ _ hdx⟩
    exact get_value (G.X.keeps o₁.base) I Y.ga (findObj_own Y.hd ha hn (by rw [lookIn_dict]; rfl)) rd.handed ⟨w₁, S₁.trans (.quiet o₁ (fun _ _ e => e) rfl rfl), rd⟩

theorem PE.meth {o : Expr} {e : Expr} {rest : List Expr} {ds : List D} {d r : D} {apos pos : Pos} (G : Gd K H0) (Y : ClsOk K C fI fC) (hk : keepIn K (.ref fC) = true) (ho : PE prog wd H0 A env loc o (.tc C d)) (ha : PEs prog wd H0 A env loc (e :: rest) ds) (hf : CF prog wd H0 A (.ref fC) (.tc C d :: ds) r)
    (he : starEach (e :: rest) env = (false, eval e env) :: starEach rest env) (hplain : (backTo pos (starEach rest env)).any (·.1) = false) {pl : Sem Bool}
    (hc : eval (.Call (.Attribute o "compare" apos) (e :: rest) [] pos) env = (do
      let ov ← eval o env
      standAt apos.atName
      let (f, first) ← holding [ov] (getMethod ov "compare" pl)
      callWith pos f first (backTo pos (starEach (e :: rest) env)) (backToKw pos (keywordEach [] env)))) : PE prog wd H0 A env loc (.Call (.Attribute o "compare" apos) (e :: rest) [] pos) r := fun w s oo V => by
  refine methodCall_KW (wpAny_mono (ho w s oo V) (fun v s₁ ⟨w₁, S₁, rv⟩ => ?_) fun _ _ f => f) hc
  have o₁ := S₁.ok oo
  have rv' := rv
  cases rv with
  | tc hx hdx rd =>
    have I : InstAt s₁.heap _ (instObj C _) C (some (dictOf _ _)) := ⟨o₁.part _ _ hx, rfl, rfl, o₁.part _ _ hdx⟩
    refine method_fn (G.X.keeps o₁.base) I Y.ga Y.gk Y.meth Y.mfn ?_ ?_
    · rfl
    · have hp := ha pos w₁ s₁ o₁ (V.step S₁)
      rw [he] at hp ⊢
      refine callWith_of (P := fun h => ∀ b o, H0.get? b = some o → h.get? b = some o) (by show ((false || (backTo pos (starEach rest env)).any (·.1)) || false) = false; rw [hplain]; rfl) (KP.keep (prog := prog) (wd := wd) G hk) (evalArgs_plain ?_)
      refine wpAny_mono hp (fun vs s₂ ⟨w₂, S₂, R₂⟩ => ⟨(S₂.ok o₁).base, ?_⟩) fun _ _ f => f
      exact wpAny_mono (hf w₂ s₂ _ (S₂.ok o₁) (.cons (rv'.mono S₂.mono) R₂)) (fun v s₃ ⟨w₃, S₃, R₃⟩ => ⟨w₃, S₁.trans (S₂.trans S₃), R₃⟩) fun _ _ f => f

theorem depth_under {n : Nat} (h : AOk n A) (c : Addr) (args : List Value) : (A.under (.builtin "type.__call__" ⟨.ref c :: args, []⟩)).depth ≤ A.depth + 1 := by
  simp only [depth_under_make]; omega
/-- a class's making -/
theorem CF.make {n : Nat} {oc : Value} {od : Option Addr} {sl : Array (Option Value)} {fd : FuncData} {p1 p2 p3 p4 : Pos} (hA : AOk n A) (G : Gd K H0) (Y : ClsOk K C fI fC) (e : K.lookup fI = some ⟨oc, od, .func fd, sl⟩) (hcd : codeIn K fd.code fd.qualname = true)
    (hb : fd.body = .stmts [.Assign [.Attribute (.Name "self" p1) "comp_select_list" p2] (.Name "comp_select_list" p3) p4]) (hbind : ∀ s a b, BindsTo s fd ⟨[a, b], []⟩ [(("self" : Str), a), (("comp_select_list" : Str), b)])
    (hcell : ∀ x ∈ fd.scope.names, x.2 ≠ .cell) (hl1 : fd.scope.names.lookup ("self" : Str) = some .local) (hl2 : fd.scope.names.lookup ("comp_select_list" : Str) = some .local)
    (hco : fd.scope.isCoroutine = false) (hgen : fd.scope.isGenerator = false) (hk : fd.scope.kind = .function) {d : D} : CF prog wd H0 A (.ref C) [d] (.tc C d) := fun w s vs o r => by
  cases r with
  | cons r t =>
    cases t
    rename_i v
    obtain ⟨hp, g, dr, tk, os⟩ := s
    have X := G.X.keeps o.base
    refine wpAny_call (make_core (makes_of X Y.makes) (looks_findIn X Y.init) (fun self => bind_fn X self Y.ifn) (.inl rfl) ?_)
    have kp : ∀ b ob, hp.get? b = some ob → ((hp.push emptyDict).push (instObj C hp.objs.size)).get? b = some ob := fun b ob q => Heap.get?_push_of_some _ (Heap.get?_push_of_some _ q)
    have kp0 : ∀ b ob, H0.get? b = some ob → ((hp.push emptyDict).push (instObj C hp.objs.size)).get? b = some ob := fun b ob q => kp b ob (o.base b ob q)
    have z1 : (hp.push emptyDict).objs.size = hp.objs.size + 1 := Heap.size_push ..
    have hx0 : ((hp.push emptyDict).push (instObj C hp.objs.size)).get? (hp.objs.size + 1) = some (instObj C hp.objs.size) := by rw [← z1]; exact Heap.get?_push_size _ rfl
    have hd0 : ((hp.push emptyDict).push (instObj C hp.objs.size)).get? hp.objs.size = some emptyDict := Heap.get?_push_of_some _ (Heap.get?_push_size _ rfl)
    have fr1 : hp.get? hp.objs.size = none := fresh_size hp
    have fr2 : hp.get? (hp.objs.size + 1) = none := by
      cases q : hp.get? (hp.objs.size + 1) with
      | none => rfl
      | some o' => exact absurd (Heap.lt_size q) (Nat.not_lt.mpr (Nat.le_succ _))
    generalize hh1 : (hp.push emptyDict).push (instObj C hp.objs.size) = h1 at kp kp0 hx0 hd0 ⊢
    have hz1 : hp.objs.size < h1.objs.size := Heap.lt_size hd0
    have hz2 : hp.objs.size + 1 < h1.objs.size := Heap.lt_size hx0
    have hroom : (A.under (.builtin "type.__call__" ⟨[.ref C, v], []⟩)).depth < recursionLimit := by
      have h1 := depth_under hA C [v]
      have h2 := hA.depth
      have h3 : recursionLimit = 1000 := rfl
      omega
    refine codeAny_call_def (o := ⟨oc, od, .func fd, sl⟩) (fd := fd) (binds := [(("self" : Str), .ref (hp.objs.size + 1)), (("comp_select_list" : Str), v)]) hroom (kp0 _ _ (G.X _ _ e)) rfl (G.lim.keeps kp0) (codeRec_of (G.X.keeps kp0) hcd) hb (hbind _ _ _) hcell (fun y hy => ?_) (fun h₀ hns hk₁ => ?_) hco hgen hk
    · rcases List.mem_cons.mp hy with rfl | hy
      · exact hl1
      · rw [List.mem_singleton.mp hy]; exact hl2
    · have hkc : (callEnv fd h1.objs.size fI).scope.kind = .function := hk
      refine wpAny_execs_cons (plainObj_wpAny_Assign_Attribute (hs := by rfl) ?_)
      refine wpAny_Name (wpAny_loadName_local hkc (show (callEnv fd h1.objs.size fI).kindOf "comp_select_list" = some .local from hl2) hns (v := v) (by rfl) ?_) (by decide)
      refine wpAny_Name (wpAny_loadName_local hkc (show (callEnv fd h1.objs.size fI).kindOf "self" = some .local from hl1) hns (v := .ref (hp.objs.size + 1)) (by rfl) ?_) (by decide)
      have X₀ := (G.X.keeps kp0).keeps hk₁
      have hx1 := hk₁ _ _ hx0
      have hd1 := hk₁ _ _ hd0
      have I : InstAt h₀ (hp.objs.size + 1) (instObj C hp.objs.size) C (some emptyDict) := ⟨hx1, rfl, rfl, hd1⟩
      have F : Fr (hideAll h1 [hp.objs.size]) h1.objs.size h₀ _ := ⟨hns, fun b ob q => hk₁ _ _ (of_hideAll _ q), Nat.le_of_eq (hideAll_size _ _)⟩
      have Nn : News (hideAll h1 [hp.objs.size]) h1.objs.size h₀ ([] ++ (hp.objs.size, emptyDict) :: []) := fun p hp' => by
        rw [List.mem_singleton.mp hp']
        exact ⟨hd1, Nat.ne_of_lt hz1, hideAll_none _ (by simp)⟩
      refine set_plain X₀ I Y.set (osa_dict F Nn X₀ I rfl Y.over Y.taker Y.hd (by rw [lookIn_dict]; rfl) (fun _ q => (nomatch q)) (fun _ q => (nomatch q)) (es := [⟨PyData.keyHash wd.params "comp_select_list", .str "comp_select_list" (tk + 2 + 1), v⟩]) (n := 1) rfl (by rfl) (by simp) fun h₂ F₂ N₂ => ?_)
      have hd2 := (N₂ _ (.head _)).1
      refine wpAny_execs_nil ⟨rfl, ?_⟩
      have kp2 : ∀ b ob, b ≠ hp.objs.size → h1.get? b = some ob → h₂.get? b = some ob := fun b ob nb q => F₂.keep b ob (hideAll_get _ q (by simpa using nb))
      have kp3 : ∀ b ob, hp.get? b = some ob → h₂.get? b = some ob := fun b ob q => kp2 b ob (Nat.ne_of_lt (Heap.lt_size q)) (kp b ob q)
      have hx2 := kp2 _ _ (Nat.succ_ne_self _) hx0
      have wx : w (hp.objs.size + 1) = none := w_fresh o fr2
      have wdx : w hp.objs.size = none := w_fresh o fr1
      have nx : hp.objs.size + 1 ≠ hp.objs.size := Nat.succ_ne_self _
      have le1 := Vw.le_put (o := dictOf [⟨PyData.keyHash wd.params "comp_select_list", .str "comp_select_list" (tk + 2 + 1), v⟩] 1) wdx
      have le2 : Vle (w.put hp.objs.size (dictOf [⟨PyData.keyHash wd.params "comp_select_list", .str "comp_select_list" (tk + 2 + 1), v⟩] 1)) _ := Vw.le_put (a := hp.objs.size + 1) (o := instObj C hp.objs.size) (by unfold Vw.put; rw [if_neg nx]; exact wx)
      refine ⟨_, ⟨le1.trans le2, fun b ob q => ?_, fun b ob q => ?_, kp3, rfl, rfl⟩, .tc (Vw.put_self ..) (le2 _ _ (Vw.put_self ..)) (r.mono (le1.trans le2))⟩
      · unfold Vw.put at q
        split at q
        · rename_i e1; cases q; rw [e1]; exact hx2
        · split at q
          · rename_i e1; cases q; rw [e1]; exact hd2
          · exact kp3 _ _ (o.part _ _ q)
      · unfold Vw.put at q
        split at q
        · rename_i e1; rw [e1]; exact .inr fr2
        · split at q
          · rename_i e1; rw [e1]; exact .inr fr1
          · exact .inl q
end
end Mine
namespace Mine
open PySem PySem.Calls PyProof.Rows PySem.W
section
variable {prog : Program} {wd : World} {H0 : Heap} {A : Around} {env : Env} {loc loc' : Loc} {N : Str → Prop} {own own' : Own} {Qn : Loc → Own → Prop} {Qr : D → Prop}

/-- what is known of names is known there too -/
def Le (l loc : Loc) : Prop := ∀ x d, l x = some d → loc x = some d
def LeL : List Str → List D → Loc → Prop
  | n :: ns, d :: ds, loc => loc n = some d ∧ LeL ns ds loc
  | _, _, _ => True
theorem Le.of : ∀ {ns : List Str} {ds : List D} {loc : Loc}, LeL ns ds loc → Le (locOf ns ds) loc
  | [], _, _, _, x, d, e => by cases e
  | _ :: _, [], _, _, x, d, e => by cases e
  | n :: ns, d' :: ds, loc, h, x, d, e => by
    unfold locOf at e
    rw [List.zip_cons_cons, List.lookup_cons] at e
    cases hx : x == n with
    | true => rw [hx] at e; cases e; rw [beq_iff_eq.mp hx]; exact h.1
    | false => rw [hx] at e; exact Le.of h.2 x d e
theorem Le.refl (l : Loc) : Le l l := fun _ _ e => e
theorem Le.trans {a b c : Loc} (x : Le a b) (y : Le b c) : Le a c := fun n d e => y n d (x n d e)
theorem Le.res (h : Le loc' loc) (own : Own) : Le (loc'.res own) (loc.res own) := fun x d e => by
  unfold Loc.res at e ⊢
  cases q : loc' x with
  | none => rw [q] at e; cases e
  | some d' => rw [q] at e; rw [h x d' q]; exact e
theorem PE.weak {e : Expr} {d : D} (h : PE prog wd H0 A env loc' e d) (k : Le loc' loc) : PE prog wd H0 A env loc e d := fun w s o V => h w s o fun x d e => V x d (k x d e)
theorem PT.weak {e : Expr} {d : Bool} (h : PT prog wd H0 A env loc' e d) (k : Le loc' loc) : PT prog wd H0 A env loc e d := fun w s o V => h w s o fun x d e => V x d (k x d e)
theorem BT.weak {t : Expr} {d : D} {loc₁ : Loc} (h : BT prog wd H0 A env N loc' t d loc₁) (k : Le loc' loc) : BT prog wd H0 A env N loc t d loc₁ := fun w s v o F V r => h w s v o F (fun x d e => V x d (k x d e)) r
theorem SW.le {sts : List Stmt} (h : SW prog wd H0 A env N loc' own sts Qn Qr) (k : Le loc' loc) : SW prog wd H0 A env N loc own sts Qn Qr := h.weak k

/-- fewer own lists -/
structure OwnLe (own' own : Own) : Prop where
  sub : ∀ p ∈ own', p ∈ own
  nd : (own'.map (·.1)).Nodup
theorem Sim.ownLe {s₀ : Shared} {hb w₀ w : Vw} {s : Shared} (S : Sim prog wd H0 env N s₀ hb w₀ w loc own s) (h : OwnLe own' own) : Sim prog wd H0 env N s₀ hb w₀ w loc own' s :=
  ⟨S.ok, S.fs, S.view, S.keep, S.w0, S.fresh, S.fr0, fun p hp => S.owns p (h.sub p hp), h.nd, S.os, S.gens⟩
theorem SW.ownLe {sts : List Stmt} (h : SW prog wd H0 A env N loc own' sts Qn Qr) (k : OwnLe own' own) : SW prog wd H0 A env N loc own sts Qn Qr := fun s₀ hb w₀ w s S => h s₀ hb w₀ w s (S.ownLe k)
/-- the own lists' own names must be told apart -/
theorem lookup_of_mem {own : Own} (nd : (own.map (·.1)).Nodup) {a : Addr} {d : D} (h : (a, d) ∈ own) : own.lookup a = some d := by
  induction own with
  | nil => cases h
  | cons p r ih =>
    obtain ⟨b, e⟩ := p
    obtain ⟨n1, n2⟩ := List.nodup_cons.mp nd
    rw [List.lookup_cons]
    rcases List.mem_cons.mp h with q | q
    · cases q; simp
    · have : a ≠ b := fun e => n1 (e ▸ List.mem_map.mpr ⟨_, q, rfl⟩)
      have : (a == b) = false := by simpa using this
      rw [this]; exact ih n2 q
theorem PT.res_own {e : Expr} {b : Bool} (h : PT prog wd H0 A env (loc'.res own') e b) (k : Le loc' loc) (ko : OwnLe own' own) (nd : (own.map (·.1)).Nodup) : PT prog wd H0 A env (loc.res own) e b :=
  h.weak fun x d e => by
    unfold Loc.res at e ⊢
    cases q : loc' x with
    | none => rw [q] at e; cases e
    | some d' =>
      rw [q] at e; rw [k x d' q]
      cases d' with
      | ptr a => exact lookup_of_mem nd (ko.sub _ (lookup_mem_own e))
      | _ => exact e
/-- a while whose state is told in full -/
theorem SX.whileC {test : Expr} {body : List Stmt} {pos : Pos} {σ : Type} (L : σ → Loc) (O : σ → Own) (I : σ → Prop) (m : σ → Nat) (x₀ : σ) (h0 : I x₀) (hL : Le (L x₀) loc) (hO : OwnLe (O x₀) own)
    (turn : ∀ x, I x → ((O x).map (·.1)).Nodup → ∃ b, PT prog wd H0 A env ((L x).res (O x)) test b ∧ (b = true → SW prog wd H0 A env N (L x) (O x) body (fun l o => ∃ y, m y < m x ∧ I y ∧ Le (L y) l ∧ OwnLe (O y) o) Qr) ∧ (b = false → ∀ l o, Le (L x) l → OwnLe (O x) o → Qn l o)) :
    SX prog wd H0 A env N loc own (.While test body [] pos) Qn Qr := fun s₀ hb w₀ w s S => by
  refine (SX.while (Qn := Qn) (Qr := Qr) (fun n l o => ∃ x, m x = n ∧ I x ∧ l = L x ∧ o = O x ∧ (o.map (·.1)).Nodup) (m x₀) ⟨x₀, rfl, h0, rfl, rfl, hO.nd⟩ fun n l o ⟨x, hm, hI, el, eo, nd⟩ => ?_) s₀ hb w₀ w s ((S.weak hL).ownLe hO)
  subst el; subst eo
  obtain ⟨b, h1, h2, h3⟩ := turn x hI nd
  refine ⟨b, h1, fun e => ?_, fun e => h3 e _ _ (Le.refl _) ⟨fun _ h => h, nd⟩⟩
  intro s₀ hb w₀ w s S
  refine wpAny_mono (h2 e s₀ hb w₀ w s S) (fun fl s₁ h₁ => ?_) fun _ _ f => f
  cases fl with
  | next =>
    obtain ⟨w₁, l₁, o₁, S₁, y, hy, hIy, hLy, hOy⟩ := h₁
    exact ⟨w₁, L y, O y, (S₁.weak hLy).ownLe hOy, m y, hm ▸ hy, y, rfl, hIy, rfl, rfl, hOy.nd⟩
  | ret v => exact h₁
  | brk => exact h₁.elim
  | cont => exact h₁.elim
/-- a for whose state is told in full -/
theorem SX.forC {target iter : Expr} {body : List Stmt} {pos : Pos} {xs : List D} {σ : Type} (L : σ → Loc) (O : σ → Own) (I : Nat → σ → Prop) (x₀ : σ) (h0 : I 0 x₀) (hL : Le (L x₀) loc) (hO : OwnLe (O x₀) own) (hs : ∀ x, foldedSetIterable iter env x = pure x) (hit : ITE prog wd H0 A env (L x₀) target iter xs)
    (turn : ∀ i d x, xs[i]? = some d → I i x → ((O x).map (·.1)).Nodup → ∃ loc₂, BT prog wd H0 A env N (L x) target d loc₂ ∧ SW prog wd H0 A env N loc₂ (O x) body (fun l o => ∃ y, I (i + 1) y ∧ Le (L y) l ∧ OwnLe (O y) o) Qr)
    (hq : ∀ x, I xs.length x → ∀ l o, Le (L x) l → OwnLe (O x) o → Qn l o) : SX prog wd H0 A env N loc own (.For target iter body [] pos) Qn Qr := fun s₀ hb w₀ w s S => by
  refine (SX.for (Qn := Qn) (Qr := Qr) (fun i l o => ∃ x, I i x ∧ Le (L x) l ∧ OwnLe (O x) o) hs hit ⟨x₀, h0, Le.refl _, ⟨fun _ h => h, hO.nd⟩⟩ (fun i d l o hd ⟨x, hI, hLx, hOx⟩ => ?_) (fun l o ⟨x, hI, hLx, hOx⟩ => hq x hI l o hLx hOx)) s₀ hb w₀ w s ((S.weak hL).ownLe hO)
  obtain ⟨loc₂, hbt, hsw⟩ := turn i d x hd hI hOx.nd
  exact ⟨loc₂, hbt.weak hLx, hsw.ownLe hOx⟩
end
end Mine
namespace Mine
open PySem PySem.Calls PyProof.Rows PySem.W
section
variable {prog : Program} {wd : World} {H0 : Heap} {A : Around} {env : Env} {loc loc' : Loc} {N : Str → Prop} {own own' : Own} {Qn : Loc → Own → Prop} {Qr : D → Prop}

theorem eqv_ints : ∀ a b : List Int, PyData.eqvAll (a.map PyData.int) (b.map PyData.int) = (a == b)
  | [], [] => by simp [PyData.eqvAll]
  | [], _ :: _ => by simp [PyData.eqvAll]
  | _ :: _, [] => by simp [PyData.eqvAll]
  | x :: a, y :: b => by
    rw [List.map_cons, List.map_cons, PyData.eqvAll, eqv_ints a b, PyData.eqv]; rfl
theorem py_ints (l : List Int) : (D.ints l).py = .tuple (l.map PyData.int) := by
  rw [D.py_tup, List.map_map]; congr 1; apply List.map_congr_left; intro a _; simp [D.py]
theorem py_lints (l : List Int) : (D.lst (l.map D.int)).py = .list (l.map PyData.int) := by
  rw [D.py_lst, List.map_map]; congr 1; apply List.map_congr_left; intro a _; simp [D.py]
theorem plain_int (n : Nat) (i : Int) : (D.int i).plain n = true := by cases n <;> rfl
theorem plain_ints (n : Nat) (l : List Int) : (D.ints l).plain (n + 1) = true := by
  simp [D.plain, plain_int]
theorem flat_int (n : Nat) (i : Int) : (D.int i).flat n = true := by cases n <;> rfl
theorem flat_ints (n : Nat) (l : List Int) : (D.ints l).flat (n + 1) = true := by
  simp [D.flat, flat_int]
theorem eqv_nil {ds : List D} : PyData.eqv (D.lst ds).py (D.lst []).py = ds.isEmpty := by
  cases ds <;> simp [D.py_lst, PyData.eqv, PyData.eqvAll]
/-- xs != [], xs == [] -/
theorem CO.neNil {n : Nat} {ds : List D} {k : Nat} (hA : AOk n A) (h : ∀ d ∈ ds, d.plain k = true) (hk : k + 1 ≤ 64 := by decide) : CO prog wd H0 A .NotEq (.lst ds) (.lst []) (!ds.isEmpty) :=
  CO.neD (k + 1) (by simpa [D.plain] using h) rfl hA.u (by rw [eqv_nil]) hk
theorem CO.eqNil {n : Nat} {ds : List D} {k : Nat} (hA : AOk n A) (h : ∀ d ∈ ds, d.plain k = true) (hk : k + 1 ≤ 64 := by decide) : CO prog wd H0 A .Eq (.lst ds) (.lst []) ds.isEmpty :=
  CO.eqD (k + 1) (by simpa [D.plain] using h) rfl hA.u eqv_nil hk
theorem any_int (x : Int) (l : List Int) : ((l.map D.int).any fun y => PyData.eqv y.py (D.int x).py) = l.contains x := by
  induction l with
  | nil => rfl
  | cons a l ih =>
    rw [List.map_cons, List.any_cons, ih, List.contains_cons]
    simp only [D.py, PyData.eqv]
    congr 1
    exact BEq.comm
theorem CO.inInts {n : Nat} {x : Int} {l : List Int} (hA : AOk n A) : CO prog wd H0 A .In (.int x) (.lst (l.map D.int)) (l.contains x) :=
  CO.inL 0 rfl (fun y hy => by obtain ⟨i, _, rfl⟩ := List.mem_map.mp hy; rfl) hA.u (any_int x l)
theorem CO.notInInts {n : Nat} {x : Int} {l : List Int} (hA : AOk n A) : CO prog wd H0 A .NotIn (.int x) (.lst (l.map D.int)) (!l.contains x) :=
  CO.notInL 0 rfl (fun y hy => by obtain ⟨i, _, rfl⟩ := List.mem_map.mp hy; rfl) hA.u (by rw [any_int])
theorem any_ints (x : List Int) (l : List (List Int)) : ((l.map D.ints).any fun y => PyData.eqv y.py (D.ints x).py) = l.contains x := by
  induction l with
  | nil => rfl
  | cons a l ih =>
    rw [List.map_cons, List.any_cons, ih, List.contains_cons]
    rw [py_ints, py_ints, PyData.eqv, eqv_ints]
    congr 1
    exact BEq.comm
theorem CO.inTups {n : Nat} {x : List Int} {l : List (List Int)} (hA : AOk n A) : CO prog wd H0 A .In (.ints x) (.lst (l.map D.ints)) (l.contains x) :=
  CO.inL 1 (plain_ints 0 x) (fun y hy => by obtain ⟨i, _, rfl⟩ := List.mem_map.mp hy; exact plain_ints 0 i) hA.u (any_ints x l)
theorem CO.notInTups {n : Nat} {x : List Int} {l : List (List Int)} (hA : AOk n A) : CO prog wd H0 A .NotIn (.ints x) (.lst (l.map D.ints)) (!l.contains x) :=
  CO.notInL 1 (plain_ints 0 x) (fun y hy => by obtain ⟨i, _, rfl⟩ := List.mem_map.mp hy; exact plain_ints 0 i) hA.u (by rw [any_ints])
theorem CO.neTup {n : Nat} {x y : List Int} (hA : AOk n A) : CO prog wd H0 A .NotEq (.ints x) (.ints y) (x != y) :=
  CO.neD 1 (plain_ints 0 x) (plain_ints 0 y) hA.u (by rw [py_ints, py_ints, PyData.eqv, eqv_ints]; rfl)
theorem CO.eqLInts {n : Nat} {x y : List Int} (hA : AOk n A) : CO prog wd H0 A .Eq (.lst (x.map D.int)) (.lst (y.map D.int)) (x == y) :=
  CO.eqD 1 (by simp [D.plain, plain_int]) (by simp [D.plain, plain_int]) hA.u (by rw [py_lints, py_lints, PyData.eqv, eqv_ints])
end
section
variable {prog : Program} {wd : World} {H0 : Heap} {A : Around} {env : Env} {loc loc' : Loc} {N : Str → Prop} {own own' : Own} {Qn : Loc → Own → Prop} {Qr : D → Prop}
/-- names take data, one behind the other -/
def BNs (prog : Program) (wd : World) (H0 : Heap) (A : Around) (env : Env) (N : Str → Prop) (loc : Loc) (ns : List Str) (ds : List D) (loc' : Loc) : Prop :=
  ∀ (w : Vw) (s : Shared) (vs : List Value), Ok H0 w s → FS H0 env N w s.heap → View prog wd env loc w s.heap → RVs prog wd w vs ds →
    wpAny (model prog wd) A (assignInOrder (ns.map fun n => bindName env n) vs) (fun _ s' => ∃ w', MS (FrA env N) w s w' s' ∧ FS H0 env N w' s'.heap ∧ View prog wd env loc' w' s'.heap) NoE s
theorem BNs.nil : BNs prog wd H0 A env N loc [] [] loc := fun w s vs o F V r => by
  cases r
  exact assignInOrder_nil ⟨w, .refl o.part, F, V⟩
theorem BNs.cons {x : Str} {ns : List Str} {d : D} {ds : List D} (EO : EnvOk env N) (hx : N x) (hkx : env.kindOf x = some .local ∨ env.kindOf x = some .cell) (k : BNs prog wd H0 A env N (loc.set x d) ns ds loc') : BNs prog wd H0 A env N loc (x :: ns) (d :: ds) loc' := fun w s vs o F V r => by
  cases r with
  | cons r rs =>
    refine assignInOrder_cons (bindName_ (wpAny_mono (store_ok hx hkx EO o F V r) (fun _ s₁ ⟨M₁, F₁, V₁⟩ => ?_) fun _ _ f => f))
    refine wpAny_mono (k w s₁ _ (M₁.ok o F.base) F₁ V₁ (rs.mono M₁.mono)) (fun _ s₂ ⟨w₂, M₂, F₂, V₂⟩ => ?_) fun _ _ f => f
    exact ⟨w₂, M₁.trans M₂, F₂, V₂⟩
theorem RVs.rev {w : Vw} : ∀ {vs : List Value} {ds : List D}, RVs prog wd w vs ds → RVs prog wd w vs.reverse ds.reverse
  | _, _, .nil => .nil
  | _, _, .cons h r => by
    rw [List.reverse_cons, List.reverse_cons]
    exact r.rev.append (.cons h .nil)
/-- new lists, told in one tuple display, stored from the last -/
theorem SX.assignNewsS {ts es : List Expr} {k k' : Nat} {tpos vpos pos : Pos} {ns : List Str} {dss : List (List D)} (hh : A.handled = none) (h : FLs prog wd H0 A env loc own es dss) (hz : dss.length ≤ 1000)
    (ht : ∀ as : List Addr, as.length = dss.length → ((ownMore as dss own).map (·.1)).Nodup → ∃ loc', BNs prog wd H0 A env N loc ns.reverse (as.map D.ptr).reverse loc' ∧ Qn loc' (ownMore as dss own)) (hn : ns.length = dss.length)
    (hs : swapsWithSole [.Tuple ts k tpos] (.Tuple es k' vpos) pos.line env = pure false) (hw : swappedStores [.Tuple ts k tpos] (.Tuple es k' vpos) env = pure (some ns)) :
    SX prog wd H0 A env N loc own (.Assign [.Tuple ts k tpos] (.Tuple es k' vpos) pos) Qn Qr := fun s₀ hb w₀ w s S => by
  refine Assign_Tuple_swapped (Tuple_ (wpAny_mono (Sim.fls h S) (fun vs s₁ ⟨w₁, as, ev, hl, S₁⟩ => ?_) fun _ _ f => f)) hs hw
  subst ev
  refine wpAny_newObj_type (data := .seq (as.map Value.ref).toArray) ?_ (by show (as.map Value.ref).toArray.size ≤ sizeLine; rw [List.size_toArray, List.length_map, hl]; exact Nat.le_trans hz (by decide))
  have S₂ := S₁.stp (.quiet S₁.ok (fun _ _ e => Heap.get?_push_of_some _ e) rfl rfl : Stp w₁ s₁ w₁ { s₁ with heap := s₁.heap.push { cls := .type "tuple", data := .seq (as.map Value.ref).toArray } })
  have ht' : IsTup (s₁.heap.push { cls := .type "tuple", data := .seq (as.map Value.ref).toArray }) s₁.heap.objs.size (as.map Value.ref).toArray := ⟨_, Heap.get?_push_size _ rfl, rfl, _, rfl⟩
  obtain ⟨loc', hbt, hq⟩ := ht as hl S₂.nd
  have e : ns.length = (as.map Value.ref).toArray.size := by rw [List.size_toArray, List.length_map, hl, hn]
  rw [e]
  refine unpackItems_tuple hh ht' fun h' he => ?_
  have S₃ := S₂.stp (.quiet S₂.ok (fun b ob q => he b ob (Nat.ne_of_lt (Heap.lt_size q)) q) rfl rfl : Stp w₁ { s₁ with heap := s₁.heap.push { cls := .type "tuple", data := .seq (as.map Value.ref).toArray } } w₁ { s₁ with heap := h' })
  have rv : RVs prog wd w₁ ((as.map Value.ref).toArray.toList).reverse (as.map D.ptr).reverse := by
    have := (ptrs_rv (prog := prog) (wd := wd) (w := w₁) as).rev
    simpa using this
  exact wpAny_mono (hbt w₁ _ _ S₃.ok S₃.fs S₃.view rv) (fun _ s₄ ⟨w₄, M, F, V⟩ => ⟨w₄, loc', _, S₃.fra M F V, hq⟩) fun _ _ f => f
/-- a tuple display's data, stored from the last -/
theorem SX.assignTS {ts es : List Expr} {k k' : Nat} {tpos vpos pos : Pos} {ns : List Str} {ds : List D} {loc' : Loc} (hh : A.handled = none) (h : PEs prog wd H0 A env loc es ds) (hz : ds.length ≤ 1000) (hn : ns.length = ds.length) (hb : BNs prog wd H0 A env N loc ns.reverse ds.reverse loc')
    (hs : swapsWithSole [.Tuple ts k tpos] (.Tuple es k' vpos) pos.line env = pure false) (hw : swappedStores [.Tuple ts k tpos] (.Tuple es k' vpos) env = pure (some ns)) (hq : Qn loc' own) :
    SX prog wd H0 A env N loc own (.Assign [.Tuple ts k tpos] (.Tuple es k' vpos) pos) Qn Qr := fun s₀ hb' w₀ w s S => by
  refine Assign_Tuple_swapped (wpAny_mono (PE.tup h hz w s S.ok S.view) (fun v s₁ ⟨w₁, x₁, r⟩ => ?_) fun _ _ f => f) hs hw
  have S₁ := S.stp x₁
  obtain ⟨a, rfl⟩ := r.tupRef
  obtain ⟨vs, n, ha, ht, rs⟩ := r.isTup S₁.ok.part
  have e : ns.length = vs.size := by rw [hn, ← rs.length, Array.length_toList]
  rw [e]
  refine unpackItems_tuple hh ht fun h' he => ?_
  have S₂ := S₁.stp (.quiet S₁.ok (fun b ob q => he b ob (Nat.ne_of_lt (Heap.lt_size q)) q) rfl rfl : Stp w₁ s₁ w₁ { s₁ with heap := h' })
  exact wpAny_mono (hb w₁ _ _ S₂.ok S₂.fs S₂.view rs.rev) (fun _ s₃ ⟨w₃, M, F, V⟩ => ⟨w₃, loc', _, S₂.fra M F V, hq⟩) fun _ _ f => f
end
/-- addresses of own lists, told apart -/
theorem own3_1 {a b c : Addr} {d e f d' : D} (h : [a, b, c].Nodup) : own_set [(a, d), (b, e), (c, f)] a d' = [(a, d'), (b, e), (c, f)] := by
  simp only [List.nodup_cons, List.mem_cons, List.not_mem_nil, or_false, not_or] at h
  obtain ⟨⟨h1, h2⟩, h3, _⟩ := h
  simp [own_set, Ne.symm h1, Ne.symm h2]
theorem own3_2 {a b c : Addr} {d e f d' : D} (h : [a, b, c].Nodup) : own_set [(a, d), (b, e), (c, f)] b d' = [(a, d), (b, d'), (c, f)] := by
  simp only [List.nodup_cons, List.mem_cons, List.not_mem_nil, or_false, not_or] at h
  obtain ⟨⟨h1, h2⟩, h3, _⟩ := h
  simp [own_set, h1, Ne.symm h3]
theorem own3_3 {a b c : Addr} {d e f d' : D} (h : [a, b, c].Nodup) : own_set [(a, d), (b, e), (c, f)] c d' = [(a, d), (b, e), (c, d')] := by
  simp only [List.nodup_cons, List.mem_cons, List.not_mem_nil, or_false, not_or] at h
  obtain ⟨⟨h1, h2⟩, h3, _⟩ := h
  simp [own_set, h2, h3]
theorem look3_1 {a b c : Addr} {d e f : D} : List.lookup a [(a, d), (b, e), (c, f)] = some d := by simp
theorem look3_2 {a b c : Addr} {d e f : D} (h : [a, b, c].Nodup) : List.lookup b [(a, d), (b, e), (c, f)] = some e := by
  simp only [List.nodup_cons, List.mem_cons, List.not_mem_nil, or_false, not_or] at h
  obtain ⟨⟨h1, h2⟩, h3, _⟩ := h
  have : (b == a) = false := by simpa using Ne.symm h1
  simp [List.lookup_cons, this]
theorem look3_3 {a b c : Addr} {d e f : D} (h : [a, b, c].Nodup) : List.lookup c [(a, d), (b, e), (c, f)] = some f := by
  simp only [List.nodup_cons, List.mem_cons, List.not_mem_nil, or_false, not_or] at h
  obtain ⟨⟨h1, h2⟩, h3, _⟩ := h
  have : (c == a) = false := by simpa using Ne.symm h2
  have : (c == b) = false := by simpa using Ne.symm h3
  simp [List.lookup_cons, *]
theorem own2_1 {a b : Addr} {d e d' : D} (h : [a, b].Nodup) : own_set [(a, d), (b, e)] a d' = [(a, d'), (b, e)] := by
  simp only [List.nodup_cons, List.mem_cons, List.not_mem_nil, or_false] at h
  obtain ⟨h1, _⟩ := h
  simp [own_set, Ne.symm h1]
theorem own2_2 {a b : Addr} {d e d' : D} (h : [a, b].Nodup) : own_set [(a, d), (b, e)] b d' = [(a, d), (b, d')] := by
  simp only [List.nodup_cons, List.mem_cons, List.not_mem_nil, or_false] at h
  obtain ⟨h1, _⟩ := h
  simp [own_set, h1]
theorem look2_1 {a b : Addr} {d e : D} : List.lookup a [(a, d), (b, e)] = some d := by simp
theorem look2_2 {a b : Addr} {d e : D} (h : [a, b].Nodup) : List.lookup b [(a, d), (b, e)] = some e := by
  simp only [List.nodup_cons, List.mem_cons, List.not_mem_nil, or_false] at h
  obtain ⟨h1, _⟩ := h
  have : (b == a) = false := by simpa using Ne.symm h1
  simp [List.lookup_cons, this]
theorem own1 {a : Addr} {d d' : D} : own_set [(a, d)] a d' = [(a, d')] := by simp [own_set]
theorem look1 {a : Addr} {d : D} : List.lookup a [(a, d)] = some d := by simp
/-- an own list's name, read -/
theorem res_ptr {loc : Loc} {own : Own} {x : Str} {a : Addr} {d : D} (h : loc x = some (.ptr a)) (k : own.lookup a = some d) : loc.res own x = some d := by
  unfold Loc.res; rw [h]; exact k
end Mine
namespace Mine
open PySem PySem.Calls PyProof.Rows PySem.W
section
variable {prog : Program} {wd : World} {H0 : Heap} {A : Around} {env : Env} {loc loc' : Loc} {N : Str → Prop} {own own' : Own} {Qn : Loc → Own → Prop} {Qr : D → Prop}

/-- the free names of a comprehension, told one by one -/
def ClL (env : Env) (loc : Loc) (scope : Scope) : List (Str × Addr) → Prop
  | [] => True
  | p :: r => ((∃ d, loc p.1 = some d) ∧ env.cells.lookup p.1 = some p.2 ∧ (env.kindOf p.1 = some .cell ∨ env.kindOf p.1 = some .free) ∧ scope.names.lookup p.1 = some .free ∧ (scope.names.all fun q => !(q.1 == p.1) || !(q.2 == .cell)) = true) ∧ ClL env loc scope r
theorem ClL.mem {scope : Scope} : ∀ {cl : List (Str × Addr)}, ClL env loc scope cl → ∀ p ∈ cl, (∃ d, loc p.1 = some d) ∧ env.cells.lookup p.1 = some p.2 ∧ (env.kindOf p.1 = some .cell ∨ env.kindOf p.1 = some .free) ∧ scope.names.lookup p.1 = some .free ∧ (scope.names.all fun q => !(q.1 == p.1) || !(q.2 == .cell)) = true
  | _ :: _, h, p, hp => by
    rcases List.mem_cons.mp hp with rfl | hp
    · exact h.1
    · exact h.2.mem p hp
theorem ClL.ok {scope : Scope} {cl : List (Str × Addr)} (h : ClL env loc scope cl) : ClOk env loc scope cl where
  bound := fun p hp => (h.mem p hp).1
  look := fun p hp => (h.mem p hp).2.1
  kind := fun p hp => (h.mem p hp).2.2.1
  free := fun p hp => (h.mem p hp).2.2.2.1
  notOwn := fun p hp q hq e c => by
    have := List.all_eq_true.mp (h.mem p hp).2.2.2.2 q hq
    rw [e, c] at this
    simp at this
/-- the names that a comprehension stores -/
abbrev In (l : List Str) : Str → Prop := fun x => x ∈ l
theorem compOk_of {scope : Scope} {l : List Str} (hk : scope.kind = .function) (hn : (scope.names.all fun x => !(x.2 == .local) || scope.names.lookup x.1 == some .local) = true) (ho : (l.all fun x => scope.names.lookup x == some .local || scope.names.lookup x == some .cell) = true) : CompOk scope (In l) where
  kind := hk
  names := fun x hx e => by
    have := List.all_eq_true.mp hn x hx
    rw [e] at this
    simpa using this
  own := fun x hx => by
    have := List.all_eq_true.mp ho x hx
    rcases Bool.or_eq_true_iff.mp this with q | q
    · exact .inl (by simpa using q)
    · exact .inr (by simpa using q)
theorem async_of {gens : List Comprehension} (h : (gens.all fun g => g.is_async == 0) = true) : ∀ (k : Nat) (g : Comprehension), gens[k]? = some g → g.is_async = 0 := fun k g e => by
  have := List.all_eq_true.mp h g (List.mem_of_getElem? e)
  simpa using this
theorem Le.set {l : Loc} {x : Str} {d : D} (h : l x = none) : Le l (l.set x d) := fun y e q => by
  unfold Loc.set
  by_cases hy : y = x
  · rw [hy, h] at q; cases q
  · rw [if_neg hy]; exact q
theorem flatMap_dec {α : Type} {f : α → D} {dec : D → α} {outs : α → List D} : ∀ {l : List α}, (∀ a ∈ l, dec (f a) = a) → (l.map f).flatMap (fun d => outs (dec d)) = l.flatMap outs
  | [], _ => rfl
  | a :: r, h => by
    rw [List.map_cons, List.flatMap_cons, List.flatMap_cons, h a (.head _), flatMap_dec fun b hb => h b (.tail _ hb)]
/-- a comprehension over data that stand for things -/
theorem PE.compM {α : Type} {elt : Expr} {g : Comprehension} {gs : List Comprehension} {scope : Scope} {pos : Pos} (ns : List Str) {cl : List (Str × Addr)} (l : List α) (f : α → D) (dec : D → α) (outs : α → List D) (hclos : closureFor scope env = pure cl) (hk : scope.kind = .function)
    (hn : (scope.names.all fun x => !(x.2 == .local) || scope.names.lookup x.1 == some .local) = true) (ho : (ns.all fun x => scope.names.lookup x == some .local || scope.names.lookup x == some .cell) = true) (hcl : ClL env loc scope cl) (hs : ∀ x, foldedSetIterable g.iter env x = pure x)
    (ha : ((g :: gs).all fun g => g.is_async == 0) = true) (hd : ∀ a ∈ l, dec (f a) = a) (hit : ITE prog wd H0 A env loc g.target g.iter (l.map f)) (hz : (l.flatMap outs).length ≤ 100000)
    (turn : ∀ C, EnvOk (cenvAt scope cl env C) (In ns) → ∀ a ∈ l, TURN prog wd H0 A (cenvAt scope cl env C) (In ns) (loc.only cl) g (f a) (bodyT elt (g :: gs) scope pos 0 (cenvAt scope cl env C)) (outs a)) :
    PE prog wd H0 A env loc (.ListComp elt (g :: gs) scope pos) (.lst (l.flatMap outs)) := by
  rw [← flatMap_dec hd] at hz ⊢
  refine PE.comp (fun d => outs (dec d)) hclos (compOk_of hk hn ho) hcl.ok hs (async_of ha) hit hz fun C EO x hx => ?_
  obtain ⟨a, ha, rfl⟩ := List.mem_map.mp hx
  rw [hd a ha]
  exact turn C EO a ha
theorem FLE.compM {α : Type} {elt : Expr} {g : Comprehension} {gs : List Comprehension} {scope : Scope} {pos : Pos} (ns : List Str) {cl : List (Str × Addr)} (l : List α) (f : α → D) (dec : D → α) (outs : α → List D) (hclos : closureFor scope env = pure cl) (hk : scope.kind = .function)
    (hn : (scope.names.all fun x => !(x.2 == .local) || scope.names.lookup x.1 == some .local) = true) (ho : (ns.all fun x => scope.names.lookup x == some .local || scope.names.lookup x == some .cell) = true) (hcl : ClL env loc scope cl) (hs : ∀ x, foldedSetIterable g.iter env x = pure x)
    (ha : ((g :: gs).all fun g => g.is_async == 0) = true) (hd : ∀ a ∈ l, dec (f a) = a) (hit : ITE prog wd H0 A env loc g.target g.iter (l.map f)) (hz : (l.flatMap outs).length ≤ 100000)
    (turn : ∀ C, EnvOk (cenvAt scope cl env C) (In ns) → ∀ a ∈ l, TURN prog wd H0 A (cenvAt scope cl env C) (In ns) (loc.only cl) g (f a) (bodyT elt (g :: gs) scope pos 0 (cenvAt scope cl env C)) (outs a)) :
    FLE prog wd H0 A env loc (.ListComp elt (g :: gs) scope pos) (.lst (l.flatMap outs)) := by
  rw [← flatMap_dec hd] at hz ⊢
  refine FLE.comp (fun d => outs (dec d)) hclos (compOk_of hk hn ho) hcl.ok hs (async_of ha) hit hz fun C EO x hx => ?_
  obtain ⟨a, ha, rfl⟩ := List.mem_map.mp hx
  rw [hd a ha]
  exact turn C EO a ha
theorem CB.nextM {α : Type} {elt : Expr} {gens : List Comprehension} {g' : Comprehension} {scope : Scope} {pos : Pos} {k : Nat} (l : List α) (f : α → D) (dec : D → α) (outs : α → List D) (hg : gens[k + 1]? = some g') (ha : (gens.all fun g => g.is_async == 0) = true)
    (hs : ∀ x, foldedSetIterable g'.iter env x = pure x) (hd : ∀ a ∈ l, dec (f a) = a) (hit : ITE prog wd H0 A env loc g'.target g'.iter (l.map f))
    (turn : ∀ a ∈ l, TURN prog wd H0 A env N loc g' (f a) (bodyT elt gens scope pos (k + 1) env) (outs a)) : CB prog wd H0 A env N loc (bodyT elt gens scope pos k env) (l.flatMap outs) := by
  rw [← flatMap_dec hd]
  refine CB.next (fun d => outs (dec d)) hg (async_of ha) hs hit fun x hx => ?_
  obtain ⟨a, ha, rfl⟩ := List.mem_map.mp hx
  rw [hd a ha]
  exact turn a ha
/-- a turn without a test -/
theorem TURN.all {g : Comprehension} {x : D} {t : Value → Sem Unit} {outs : List D} {loc₁ : Loc} (hbt : BT prog wd H0 A env N loc g.target x loc₁) (hle : Le loc loc₁) (hi : g.ifs = []) (hcb : CB prog wd H0 A env N loc₁ t outs) : TURN prog wd H0 A env N loc g x t outs :=
  ⟨loc₁, true, hbt, hle, by rw [hi]; exact IFS.nil, fun _ => hcb, fun e => by cases e⟩
theorem TURN.test {g : Comprehension} {x : D} {t : Value → Sem Unit} {e : D} {loc₁ : Loc} {c : Expr} {b : Bool} (hbt : BT prog wd H0 A env N loc g.target x loc₁) (hle : Le loc loc₁) (hi : g.ifs = [c]) (hc : PT prog wd H0 A env loc₁ c b) (hcb : b = true → CB prog wd H0 A env N loc₁ t [e]) : TURN prog wd H0 A env N loc g x t (if b then [e] else []) :=
  ⟨loc₁, b, hbt, hle, by rw [hi]; exact IFS.one hc, fun h => by subst h; exact hcb rfl, fun h => by subst h; rfl⟩
theorem flatMap_one {α β : Type} (e : α → β) : ∀ l : List α, (l.flatMap fun a => [e a]) = l.map e
  | [] => rfl
  | a :: r => by rw [List.flatMap_cons, flatMap_one e r]; rfl
theorem flatMap_test {α β : Type} (p : α → Bool) (e : α → β) : ∀ l : List α, (l.flatMap fun a => if p a then [e a] else []) = (l.filter p).map e
  | [] => rfl
  | a :: r => by
    rw [List.flatMap_cons, flatMap_test p e r, List.filter_cons]
    cases p a <;> rfl
theorem CF.lenM {α : Type} {f : α → D} {l : List α} (hz : l.length ≤ 1000) : CF prog wd H0 A (.builtin "len") [.lst (l.map f)] (.int l.length) := by
  have := CF.lenL (prog := prog) (wd := wd) (H0 := H0) (A := A) (ds := l.map f) (by rw [List.length_map]; exact hz)
  rwa [List.length_map] at this
end
/-- what a datum stands for -/
def D.toInt : D → Int
  | .int i => i
  | _ => 0
def D.toList : D → List D
  | .tup l => l
  | .lst l => l
  | _ => []
def D.toInts (d : D) : List Int := d.toList.map D.toInt
theorem toInts_ints (l : List Int) : (D.ints l).toInts = l := by
  simp [D.toInts, D.toList, D.toInt, Function.comp_def]
end Mine
namespace Mine
open PySem PySem.Calls PyProof.Rows PySem.W
theorem wellAll_ints {P : Params} {h : Heap} {prog : Program} {wd : World} {w : Vw} : ∀ {vs : List Value} {script : List Int}, WellAll P h vs ((script.map PyData.int).map ofPy) → RVs prog wd w vs (script.map D.int)
  | _, [], .nil => .nil
  | _, i :: r, .cons q t => by
    refine .cons ?_ (wellAll_ints t)
    have q' : Well P h _ (WData.int i) := q
    cases q'
    exact .int _ _
theorem ofPys_map : ∀ l : List PyData, ofPys l = l.map ofPy
  | [] => rfl
  | d :: r => by rw [ofPys, ofPys_map r]; rfl
theorem post_true {l : OpenLaw} {args : List WData} : l.row.claim.post args (.bool true) args = true := by
  refine postW_of (r := l.row.toRowW) (X := true) rfl ?_ rfl
  show (WTm.eq WTm.res (WTm.lit (.bool true))).value _ _ = _
  simp [WTm.value, PySem.W.same]
/-- one list of the ground's, seen -/
def one (H0 : Heap) (l : Addr) : Vw := fun b => if b = l then H0.get? b else none
theorem envOk_law {name : Str} {scope : Scope} {L fa : Addr} {cd : Value} (hk : scope.kind = .function) : EnvOk (envOfC name scope L fa cd) All where
  kind := hk
  inj := fun x y c _ hx l l' => by
    obtain ⟨c', e, q⟩ := cells_own scope.names (L + 1) [] (x := x) hx
    have e' : (envOfC name scope L fa cd).cells.lookup x = some c' := e
    rw [l] at e'
    have ec := Option.some.inj e'
    subst ec
    exact cells_uniq (n₀ := L + 1) scope.names (L + 1) [] (Nat.le_refl _) (fun p hp => nomatch hp) (fun p hp => nomatch hp) (x, c) (mem_of_lookup l) (y, c) (mem_of_lookup l') q rfl
theorem law_sim {prog : Program} {wd : World} {P : Params} {name : Str} {scope : Scope} {L fa l : Addr} {cd : Value} {s₁ : Shared} {h₁ : Heap} {tk : Nat} {m : Str → Option Value} {script : List Int} (F : Fr s₁.heap L h₁ m) (w1 : Well P s₁.heap (.ref l) (ofPy (.list (script.map PyData.int))))
    (hs : (envOfC name scope L fa cd).kindOf "script" = some .local) (hm : m "script" = some (.ref l))
    (hcell : ∀ x, scope.names.lookup x = some .cell → ∃ c, (cellsFrom (L + 1) scope.names []).lookup x = some c ∧ (∃ v, h₁.IsCell c v) ∧ s₁.heap.get? c = none) :
    Sim prog wd s₁.heap (envOfC name scope L fa cd) All { heap := h₁, gens := s₁.gens, drawn := s₁.drawn, toks := tk, os := s₁.os } s₁.heap.get? (one s₁.heap l) (one s₁.heap l) (locOf ["script"] [.lst (script.map D.int)]) [] { heap := h₁, gens := s₁.gens, drawn := s₁.drawn, toks := tk, os := s₁.os } := by
  have up : s₁.heap.get? L = none := by
    cases q : s₁.heap.get? L with
    | none => rfl
    | some o => exact absurd (Heap.lt_size q) (Nat.not_lt.mpr F.above)
  have hl : ∃ vs, s₁.heap.get? l = some ({ cls := .type "list", data := .seq vs } : Obj) ∧ RVs prog wd (one s₁.heap l) vs.toList (script.map D.int) := by
    have w1' : Well P s₁.heap (.ref l) (.list ((script.map PyData.int).map ofPy)) := by
      have : ofPy (.list (script.map PyData.int)) = .list ((script.map PyData.int).map ofPy) := by rw [ofPy, ofPys_map]
      rw [← this]; exact w1
    cases w1' with
    | list a b => exact ⟨_, a, by simpa using wellAll_ints b⟩
  obtain ⟨vs, hv, rv⟩ := hl
  have onone : ∀ c, s₁.heap.get? c = none → one s₁.heap l c = none := fun c e => by
    unfold one; split <;> simp [e]
  refine ⟨⟨F.keep, fun b o e => ?_⟩, ⟨⟨m, F.ns⟩, onone _ up, up, fun x _ hx => ?_⟩, fun x d e => ?_, F.keep, .refl _, fun b o e => .inl e, fun b hb => ?_, fun p hp => (nomatch hp), List.nodup_nil, rfl, rfl⟩
  · unfold one at e
    split at e
    · exact F.keep _ _ e
    · cases e
  · obtain ⟨c, h1, h2, h3⟩ := hcell x hx
    exact ⟨c, h1, h2, onone c h3, h3⟩
  · unfold locOf at e
    simp only [List.zip_cons_cons, List.zip_nil_right] at e
    rw [List.lookup_cons] at e
    cases hx : x == (Str.ofString "script") with
    | true =>
      rw [hx] at e; cases e
      rw [beq_iff_eq.mp hx]
      exact ⟨_, .inl ⟨hs, m, F.ns, hm⟩, .lst (by unfold one; rw [if_pos rfl]; exact hv) rv⟩
    | false => rw [hx] at e; cases e
  · rcases hb with rfl | ⟨x, _, hx, hl⟩
    · exact up
    · obtain ⟨c, h1, h2, h3⟩ := hcell x hx
      have : (envOfC name scope L fa cd).cells.lookup x = some c := h1
      rw [hl] at this
      rw [Option.some.inj this]; exact h3
end Mine
namespace Mine
open PySem PySem.Calls PyProof.Rows PySem.W
section
variable {prog : Program} {wd : World} {H0 : Heap} {A : Around} {env : Env} {loc loc' : Loc} {N : Str → Prop} {own own' : Own} {Qn : Loc → Own → Prop} {Qr : D → Prop}
theorem ITE.eq {t e : Expr} {xs ys : List D} (h : ITE prog wd H0 A env loc t e xs) (q : xs = ys) : ITE prog wd H0 A env loc t e ys := q ▸ h
theorem FLE.eq {e : Expr} {d d' : D} (h : FLE prog wd H0 A env loc e d) (q : d = d') : FLE prog wd H0 A env loc e d' := q ▸ h
theorem Sim.but {s₀ : Shared} {hb w₀ w : Vw} {s : Shared} {C : Addr} {h' : Heap} (S : Sim prog wd H0 env N s₀ hb w₀ w loc own s) (hd : ∃ m, s.heap.Ns C m) (hL : env.locals ≠ C) (hw : w C = none) (h0 : H0.get? C = none) (hbC : hb C = none) (ho : ∀ p ∈ own, p.1 ≠ C)
    (k : ∀ b o, b ≠ C → s.heap.get? b = some o → h'.get? b = some o) : Sim prog wd H0 env N s₀ hb w₀ w loc own { s with heap := h' } := by
  obtain ⟨m, oC, es, ep, gC, dC, _⟩ := hd
  have nc : ∀ c v, s.heap.IsCell c v → c ≠ C := fun c v ⟨oc, g, d⟩ e => by
    rw [e, gC] at g; cases g; rw [dC] at d; cases d
  refine ⟨⟨fun b o e => k b o (fun q => by rw [q, h0] at e; cases e) (S.ok.base b o e), fun b o e => k b o (fun q => by rw [q, hw] at e; cases e) (S.ok.part b o e)⟩, ⟨?_, S.fs.wl, S.fs.hl, fun x n kk => ?_⟩, fun x d e => ?_,
    fun b o e => k b o (fun q => by rw [q, hbC] at e; cases e) (S.keep b o e), S.w0, S.fresh, S.fr0, fun p hp => ?_, S.nd, S.os, S.gens⟩
  · obtain ⟨m, o, es, ep, g, d, r⟩ := S.fs.ns
    exact ⟨m, o, es, ep, k _ _ hL g, d, r⟩
  · obtain ⟨c', l, ⟨v, oc, g, d⟩, wc, h0'⟩ := S.fs.cell x n kk
    exact ⟨c', l, ⟨v, oc, k _ _ (nc c' v ⟨oc, g, d⟩) g, d⟩, wc, h0'⟩
  · obtain ⟨u, L, r⟩ := S.view x d e
    refine ⟨u, ?_, r⟩
    rcases L with ⟨a, m, ⟨o₂, es, ep, g, d₂, r₂⟩, c₂⟩ | ⟨a, c₂, b₁, oc, hc, dc⟩
    · exact .inl ⟨a, m, ⟨o₂, es, ep, k _ _ hL g, d₂, r₂⟩, c₂⟩
    · exact .inr ⟨a, c₂, b₁, oc, k _ _ (nc c₂ _ ⟨oc, hc, dc⟩) hc, dc⟩
  · obtain ⟨a, b, c, d, e⟩ := S.owns p hp
    exact ⟨a.keeps (.refl w) fun o' q => k _ _ (ho p hp) q, b, c, d, e⟩

/-- y = [a comprehension], y a local of the frame: stored ere the comprehension's own names are let go -/
theorem SX.assignComp {α : Type} {elt : Expr} {g : Comprehension} {gs : List Comprehension} {scope : Scope} {pos spos : Pos} {y : Str} {py : Pos} (ns : List Str) {cl : List (Str × Addr)} (l : List α) (f : α → D) (dec : D → α) (outs : α → List D) (EO : EnvOk env N) (hy : N y) (hky : env.kindOf y = some .local ∨ env.kindOf y = some .cell) (hclos : closureFor scope env = pure cl) (hk : scope.kind = .function)
    (hn : (scope.names.all fun x => !(x.2 == .local) || scope.names.lookup x.1 == some .local) = true) (hoo : (ns.all fun x => scope.names.lookup x == some .local || scope.names.lookup x == some .cell) = true) (hcl : ClL env loc scope cl) (hs : ∀ x, foldedSetIterable g.iter env x = pure x)
    (ha : ((g :: gs).all fun g => g.is_async == 0) = true) (hd : ∀ a ∈ l, dec (f a) = a) (hit : ITE prog wd H0 A env loc g.target g.iter (l.map f)) (hz : (l.flatMap outs).length ≤ 100000)
    (turn : ∀ C, EnvOk (cenvAt scope cl env C) (In ns) → ∀ a ∈ l, TURN prog wd H0 A (cenvAt scope cl env C) (In ns) (loc.only cl) g (f a) (bodyT elt (g :: gs) scope pos 0 (cenvAt scope cl env C)) (outs a))
    (hsw : swapsWith (.ListComp elt (g :: gs) scope pos) (some (.Name y py)) spos.line env = pure true) (hq : Qn (loc.set y (.lst (l.flatMap outs))) own) :
    SX prog wd H0 A env N loc own (.Assign [.Name y py] (.ListComp elt (g :: gs) scope pos) spos) Qn Qr := fun s₀ hb w₀ w s S => by
  rw [exec_Assign_Name_used _ _ _ _ hsw]
  refine wpAny_bind (wpAny_standAt (wpAny_bind ?_))
  have ha0 : firstAsync (g :: gs) = false := by
    obtain ⟨t, i, fs, a⟩ := g
    show (a != 0) = false
    have := async_of ha 0 ⟨t, i, fs, a⟩ rfl
    simp only at this
    rw [this]; rfl
  have hf : firstIter (g :: gs) env = eval g.iter env := by obtain ⟨t, i, fs, a⟩ := g; rfl
  show wpAny _ A (do let _ ← comprehension (.ListComp elt (g :: gs) scope pos) scope env (firstIterPos (g :: gs) pos) (newList []) (firstAsync (g :: gs)) (firstIter (g :: gs) env) (some (PySem.assign (.Name y py) env))) _ _ s
  rw [ha0]
  refine wpAny_bind (wpAny_mono (wpAny_comprehension_free (use := some (PySem.assign (.Name y py) env)) (Q := fun _ s' => SPost prog wd H0 env N s₀ hb w₀ Qn Qr .next s') rfl hs hclos hk (compOk_of hk hn hoo).names ?_) (fun _ s' hq => wpAny_pure (wpAny_pure hq)) fun _ _ e => e)
  rw [hf]
  rw [← flatMap_dec hd] at hz hq
  refine comp_core (RR := fun acc C => compPost (model prog wd) A NoE (some (PySem.assign (.Name y py) env)) (fun _ s' => SPost prog wd H0 env N s₀ hb w₀ Qn Qr .next s') acc C) (fun d => outs (dec d)) (compOk_of hk hn hoo) hcl.ok (async_of ha) hit hz (fun C EO x hx => ?_) w s S.ok S.view ?_
  · obtain ⟨a, ha, rfl⟩ := List.mem_map.mp hx
    rw [hd a ha]
    exact turn C EO a ha
  intro D C w' s' hDC hD hC S' ⟨vs, n, e, r⟩ wD wC ⟨m, ns'⟩
  have le : Vle w' (w'.put D { cls := .type "list", data := .seq vs n }) := Vw.le_put wD
  have S'' : Stp w s (w'.put D { cls := .type "list", data := .seq vs n }) s' := ⟨S'.mono.trans le, fun b ob q => by
    unfold Vw.put at q
    split at q
    · rename_i hb; cases q; rw [hb]; exact e
    · exact S'.part b ob q, fun b ob q => by
    unfold Vw.put at q
    split at q
    · rename_i hb; rw [hb]; exact .inr hD
    · exact S'.fresh b ob q, S'.keep, S'.os, S'.gens⟩
  have T := S.stp S''
  have lv : ∀ b o, s.heap.get? b = some o → b ≠ C := fun b o q e => by rw [e, hC] at q; cases q
  have nF : ¬ FrA env N C := by
    rintro (q | ⟨x, nx, k, l⟩)
    · obtain ⟨m, o, es, ep, g, _⟩ := S.fs.ns
      exact lv _ _ g q.symm
    · obtain ⟨c, l', ⟨v, oc, g, _⟩, _⟩ := S.fs.cell x nx k
      rw [l] at l'; cases l'
      exact lv _ _ g rfl
  show wpAny _ A (PySem.assign (.Name y py) env (.ref D)) _ _ _
  refine PySem.wpAny_assign_Name (wpAny_mono (store_ok hy hky EO T.ok T.fs T.view (.lst (Vw.put_self ..) (r.mono le))) (fun _ s₂ ⟨M, F, V⟩ => ?_) fun _ _ f => f)
  have T₂ := T.fra M F V
  obtain ⟨oC, es, ep, gC, rC⟩ := ns'
  have nC2 : s₂.heap.Ns C m := ⟨oC, es, ep, M.keep _ _ nF gC, rC⟩
  refine ⟨m, nC2, fun h' hs' => ⟨_, _, own, T₂.but ⟨m, nC2⟩ (fun q => ?_) ?_ ?_ ?_ (fun p hp => ?_) (fun b o hb' q => hs'.extBut b o hb' q), hq⟩⟩
  · obtain ⟨m, o, es, ep, g, _⟩ := S.fs.ns
    exact lv _ _ g q
  · unfold Vw.put; rw [if_neg (Ne.symm hDC)]; exact wC
  · exact H0_fresh S.ok hC
  · cases q : hb C with
    | none => rfl
    | some o' => have := S.keep _ _ q; rw [hC] at this; cases this
  · obtain ⟨o', ho', _⟩ := (S.owns p hp).1.get
    exact lv _ _ ho'
end
end Mine
namespace Mine
open PySem PySem.Calls PyProof.Rows PySem.W
/-- the same, the script in a cell -/
theorem law_simC {prog : Program} {wd : World} {P : Params} {name : Str} {scope : Scope} {L fa l : Addr} {cd : Value} {s₁ : Shared} {h₁ : Heap} {tk : Nat} {m : Str → Option Value} {script : List Int} (F : Fr s₁.heap L h₁ m) (w1 : Well P s₁.heap (.ref l) (ofPy (.list (script.map PyData.int))))
    (hs : (envOfC name scope L fa cd).kindOf "script" = some .cell) {c₀ : Addr} (hm : (envOfC name scope L fa cd).cells.lookup ("script" : Str) = some c₀) (hv : h₁.IsCell c₀ (some (.ref l)))
    (hcell : ∀ x, scope.names.lookup x = some .cell → ∃ c, (cellsFrom (L + 1) scope.names []).lookup x = some c ∧ (∃ v, h₁.IsCell c v) ∧ s₁.heap.get? c = none) :
    Sim prog wd s₁.heap (envOfC name scope L fa cd) All { heap := h₁, gens := s₁.gens, drawn := s₁.drawn, toks := tk, os := s₁.os } s₁.heap.get? (one s₁.heap l) (one s₁.heap l) (locOf ["script"] [.lst (script.map D.int)]) [] { heap := h₁, gens := s₁.gens, drawn := s₁.drawn, toks := tk, os := s₁.os } := by
  have up : s₁.heap.get? L = none := by
    cases q : s₁.heap.get? L with
    | none => rfl
    | some o => exact absurd (Heap.lt_size q) (Nat.not_lt.mpr F.above)
  have hl : ∃ vs, s₁.heap.get? l = some ({ cls := .type "list", data := .seq vs } : Obj) ∧ RVs prog wd (one s₁.heap l) vs.toList (script.map D.int) := by
    have w1' : Well P s₁.heap (.ref l) (.list ((script.map PyData.int).map ofPy)) := by
      have : ofPy (.list (script.map PyData.int)) = .list ((script.map PyData.int).map ofPy) := by rw [ofPy, ofPys_map]
      rw [← this]; exact w1
    cases w1' with
    | list a b => exact ⟨_, a, by simpa using wellAll_ints b⟩
  obtain ⟨vs, hvl, rv⟩ := hl
  have onone : ∀ c, s₁.heap.get? c = none → one s₁.heap l c = none := fun c e => by
    unfold one; split <;> simp [e]
  refine ⟨⟨F.keep, fun b o e => ?_⟩, ⟨⟨m, F.ns⟩, onone _ up, up, fun x _ hx => ?_⟩, fun x d e => ?_, F.keep, .refl _, fun b o e => .inl e, fun b hb => ?_, fun p hp => (nomatch hp), List.nodup_nil, rfl, rfl⟩
  · unfold one at e
    split at e
    · exact F.keep _ _ e
    · cases e
  · obtain ⟨c, h1, h2, h3⟩ := hcell x hx
    exact ⟨c, h1, h2, onone c h3, h3⟩
  · unfold locOf at e
    simp only [List.zip_cons_cons, List.zip_nil_right] at e
    rw [List.lookup_cons] at e
    cases hx : x == (Str.ofString "script") with
    | true =>
      rw [hx] at e; cases e
      rw [beq_iff_eq.mp hx]
      exact ⟨_, .inr ⟨.inl hs, c₀, hm, hv⟩, .lst (by unfold one; rw [if_pos rfl]; exact hvl) rv⟩
    | false => rw [hx] at e; cases e
  · rcases hb with rfl | ⟨x, _, hx, hl⟩
    · exact up
    · obtain ⟨c, h1, h2, h3⟩ := hcell x hx
      have : (envOfC name scope L fa cd).cells.lookup x = some c := h1
      rw [hl] at this
      rw [Option.some.inj this]; exact h3
end Mine
namespace Mine
open PySem PySem.Calls PyProof.Rows PySem.W

abbrev Way := Int × Int × Int
abbrev wD (w : Way) : D := .ints [w.1, w.2.1, w.2.2]
abbrev pD (p : Int × Int) : D := .ints [p.1, p.2]
def relax1 (seen : List Int) (far here : Int) (o : List (List Int)) (w : Way) : List (List Int) := if w.1 == here && !seen.contains w.2.1 then insL o [far + w.2.2, w.2.1] else o
def relax (ways : List Way) (seen : List Int) (far here : Int) (o : List (List Int)) : List (List Int) := ways.foldl (relax1 seen far here) o
def cnt (ways : List Way) (seen : List Int) : Nat := (ways.filter fun w => !seen.contains w.1).length
theorem insL_len (o : List (List Int)) (t : List Int) : (insL o t).length = o.length + 1 := by
  simp [insL, insAt]
  have := List.length_take (l := o) (i := bis o t 0 o.length)
  omega
theorem relax_len (ways : List Way) (seen : List Int) (far here : Int) : ∀ o, (relax ways seen far here o).length ≤ o.length + (ways.filter fun w => w.1 == here).length := by
  induction ways with
  | nil => intro o; simp [relax]
  | cons w r ih =>
    intro o
    have := ih (relax1 seen far here o w)
    unfold relax at this ⊢
    rw [List.foldl_cons]
    refine Nat.le_trans this ?_
    unfold relax1
    by_cases h : w.1 == here
    · simp only [h, Bool.true_and, List.filter_cons, if_true, List.length_cons]
      split
      · rw [insL_len]; omega
      · omega
    · simp only [h, Bool.false_and, List.filter_cons, if_false, Bool.false_eq_true]; omega
theorem cnt_step (ways : List Way) (seen : List Int) (h : Int) (hn : seen.contains h = false) : cnt ways (seen ++ [h]) + (ways.filter fun w => w.1 == h).length ≤ cnt ways seen := by
  induction ways with
  | nil => simp [cnt]
  | cons w r ih =>
    unfold cnt at ih ⊢
    simp only [List.filter_cons]
    by_cases e : w.1 = h
    · have h1 : (seen ++ [h]).contains w.1 = true := by simp [e]
      have h2 : seen.contains w.1 = false := by rw [e]; exact hn
      have h3 : (w.1 == h) = true := by simpa using e
      simp only [h1, h2, h3, Bool.not_true, Bool.not_false, if_true, if_false, Bool.false_eq_true, List.length_cons]
      omega
    · have h3 : (w.1 == h) = false := by simpa using e
      have h1 : (seen ++ [h]).contains w.1 = seen.contains w.1 := by simp [e]
      simp only [h1, h3, if_false, Bool.false_eq_true]
      split
      · simp only [List.length_cons]; omega
      · omega
/-- what _law_told tells -/
def toldR (ways : List Way) (order : List (List Int)) (found : List (Int × Int)) (seen : List Int) : List (Int × Int) :=
  match order with
  | [] => found
  | x :: rest =>
    if h : seen.contains (x.getD 1 0) = true then toldR ways rest found seen
    else toldR ways (relax ways (seen ++ [x.getD 1 0]) (x.getD 0 0) (x.getD 1 0) rest) (found ++ [(x.getD 0 0, x.getD 1 0)]) (seen ++ [x.getD 1 0])
termination_by order.length + cnt ways seen
decreasing_by
  · simp
  · have h1 := relax_len ways (seen ++ [x.getD 1 0]) (x.getD 0 0) (x.getD 1 0) rest
    have h2 := cnt_step ways seen (x.getD 1 0) (by simpa using h)
    simp only [List.length_cons]
    omega
/-- what _law_plain tells -/
def prelax (far : List (Int × Int)) (w : Way) : List (Int × Int) :=
  match dget far w.1 with
  | none => far
  | some a => match dget far w.2.1 with
    | none => dput far w.2.1 (a + w.2.2)
    | some b => if a + w.2.2 < b then dput far w.2.1 (a + w.2.2) else far
def pround (ways : List Way) (far : List (Int × Int)) : List (Int × Int) := ways.foldl prelax far
def plainN (ways : List Way) (first : Int) : Nat → List (Int × Int)
  | 0 => [(first, 0)]
  | n + 1 => pround ways (plainN ways first n)
end Mine
namespace Mine
open PySem PySem.Calls PyProof.Rows PySem.W

/-! the order of tuples of one length -/
theorem lexlt_irrefl : ∀ x : List Int, lexlt x x = false
  | [] => rfl
  | a :: x => by simp [lexlt, lexlt_irrefl x]
theorem lexlt_asymm : ∀ x y : List Int, lexlt x y = true → lexlt y x = false
  | [], [], h => by simp [lexlt] at h
  | [], b :: y, _ => by simp [lexlt]
  | a :: x, [], h => by simp [lexlt] at h
  | a :: x, b :: y, h => by
    simp only [lexlt] at h ⊢
    by_cases e : a = b
    · subst e; simp only [if_true] at h ⊢; exact lexlt_asymm x y h
    · rw [if_neg e] at h; rw [if_neg (Ne.symm e)]
      simp only [decide_eq_true_eq, decide_eq_false_iff_not] at h ⊢; omega
theorem lexlt_total : ∀ x y : List Int, x.length = y.length → lexlt x y = false → lexlt y x = false → x = y
  | [], [], _, _, _ => rfl
  | a :: x, b :: y, hl, h, k => by
    simp only [lexlt] at h k
    by_cases e : a = b
    · subst e; simp only [if_true] at h k
      rw [lexlt_total x y (by simpa using hl) h k]
    · rw [if_neg e] at h; rw [if_neg (Ne.symm e)] at k
      simp only [decide_eq_false_iff_not] at h k; omega
theorem lexlt_trans : ∀ x y z : List Int, lexlt x y = true → lexlt y z = true → lexlt x z = true
  | [], [], _, h, _ => by simp [lexlt] at h
  | [], _ :: _, [], _, k => by simp [lexlt] at k
  | [], _ :: _, _ :: _, _, _ => rfl
  | _ :: _, [], _, h, _ => by simp [lexlt] at h
  | _ :: _, _ :: _, [], _, k => by simp [lexlt] at k
  | a :: x, b :: y, c :: z, h, k => by
    simp only [lexlt] at h k ⊢
    by_cases e : a = b
    · subst e
      simp only [if_true] at h
      by_cases e2 : a = c
      · subst e2; simp only [if_true] at k ⊢; exact lexlt_trans x y z h k
      · rw [if_neg e2] at k ⊢; exact k
    · rw [if_neg e] at h
      simp only [decide_eq_true_eq] at h
      by_cases e2 : b = c
      · subst e2; rw [if_neg e]; simpa using h
      · rw [if_neg e2] at k
        simp only [decide_eq_true_eq] at k
        rw [if_neg (by omega)]; simp; omega
/-- x no more than y, y less than t -/
theorem lexlt_le_lt {x y t : List Int} (hl : x.length = y.length) (h : lexlt y x = false) (k : lexlt y t = true) : lexlt x t = true := by
  cases e : lexlt x y with
  | true => exact lexlt_trans x y t e k
  | false => rw [lexlt_total x y hl e h]; exact k
abbrev Srt (o : List (List Int)) : Prop := o.Pairwise fun x y => lexlt y x = false

theorem srt_get {o : List (List Int)} (h : Srt o) {i j : Nat} (hij : i < j) (hj : j < o.length) : lexlt (o.getD j []) (o.getD i []) = false := by
  have := List.pairwise_iff_getElem.mp h i j (by omega) hj hij
  simpa [hj, show i < o.length by omega] using this
theorem bis_spec {o : List (List Int)} {t : List Int} {n : Nat} (hs : Srt o) (hl : ∀ l ∈ o, l.length = n) : ∀ (lo hi : Nat), lo ≤ hi → hi ≤ o.length → (∀ i, i < lo → lexlt (o.getD i []) t = true) → (∀ i, hi ≤ i → i < o.length → lexlt (o.getD i []) t = false) →
    bis o t lo hi ≤ o.length ∧ (∀ i, i < bis o t lo hi → lexlt (o.getD i []) t = true) ∧ (∀ i, bis o t lo hi ≤ i → i < o.length → lexlt (o.getD i []) t = false) := by
  intro lo hi
  have gl : ∀ i, i < o.length → (o.getD i []).length = n := fun i hi => hl _ (by simp [hi])
  fun_induction bis o t lo hi with
  | case1 lo hi hlt hc ih =>
    intro h1 h2 h3 h4
    refine ih (by omega) h2 (fun i hi' => ?_) h4
    by_cases e : i = (lo + hi) / 2
    · rw [e]; exact hc
    · exact lexlt_le_lt (by rw [gl _ (by omega), gl _ (by omega)]) (srt_get hs (show i < (lo + hi) / 2 by omega) (by omega)) hc
  | case2 lo hi hlt hc ih =>
    intro h1 h2 h3 h4
    refine ih (by omega) (by omega) h3 (fun i hi' hio => ?_)
    by_cases e : i = (lo + hi) / 2
    · rw [e]; simpa using hc
    · cases q : lexlt (o.getD i []) t with
      | false => rfl
      | true =>
        have := lexlt_le_lt (by rw [gl _ (by omega), gl _ (by omega)]) (srt_get hs (show (lo + hi) / 2 < i by omega) hio) q
        exact absurd this hc
  | case3 lo hi hlt =>
    intro h1 h2 h3 h4
    have : lo = hi := by omega
    subst this
    exact ⟨h2, h3, h4⟩
theorem insL_mem {o : List (List Int)} {t x : List Int} : x ∈ insL o t ↔ x = t ∨ x ∈ o := by
  unfold insL insAt
  generalize bis o t 0 o.length = k
  have : x ∈ o ↔ x ∈ o.take k ∨ x ∈ o.drop k := by
    rw [← List.mem_append, List.take_append_drop]
  rw [List.mem_append, List.mem_cons, this]
  constructor
  · rintro (h | h | h)
    · exact .inr (.inl h)
    · exact .inl h
    · exact .inr (.inr h)
  · rintro (h | h | h)
    · exact .inr (.inl h)
    · exact .inl h
    · exact .inr (.inr h)
theorem insL_srt {o : List (List Int)} {t : List Int} (hs : Srt o) (hl : ∀ l ∈ o, l.length = t.length) : Srt (insL o t) := by
  obtain ⟨h1, h2, h3⟩ := bis_spec (t := t) hs hl 0 o.length (Nat.zero_le _) (Nat.le_refl _) (fun i h => absurd h (Nat.not_lt_zero i)) (fun i h k => absurd h (Nat.not_le.mpr k))
  unfold insL insAt
  generalize bis o t 0 o.length = k at h1 h2 h3
  have hs' : Srt (o.take k ++ o.drop k) := by rw [List.take_append_drop]; exact hs
  have m1 : ∀ x ∈ o.take k, lexlt x t = true := fun x hx => by
    obtain ⟨i, hi, rfl⟩ := List.getElem_of_mem hx
    rw [List.length_take] at hi
    have := h2 i (by omega)
    rw [List.getElem_take]
    simpa [show i < o.length by omega] using this
  have m2 : ∀ x ∈ o.drop k, lexlt x t = false := fun x hx => by
    obtain ⟨i, hi, rfl⟩ := List.getElem_of_mem hx
    rw [List.length_drop] at hi
    have := h3 (k + i) (by omega) (by omega)
    rw [List.getElem_drop]
    simpa [show k + i < o.length by omega] using this
  obtain ⟨p1, p2, p3⟩ := List.pairwise_append.mp hs'
  refine List.pairwise_append.mpr ⟨p1, List.pairwise_cons.mpr ⟨m2, p2⟩, fun x hx y hy => ?_⟩
  rcases List.mem_cons.mp hy with rfl | hy
  · exact lexlt_asymm _ _ (m1 x hx)
  · exact p3 x hx y hy

/-! sizes -/
theorem nodup_sub_len {α : Type} [DecidableEq α] : ∀ {l m : List α}, l.Nodup → (∀ x ∈ l, x ∈ m) → l.length ≤ m.length
  | [], _, _, _ => Nat.zero_le _
  | a :: l, m, h, hs => by
    obtain ⟨h1, h2⟩ := List.nodup_cons.mp h
    have hm := hs a (.head _)
    have := nodup_sub_len (m := m.erase a) h2 fun x hx => by
      have hne : x ≠ a := fun e => h1 (e ▸ hx)
      exact (List.mem_erase_of_ne hne).mpr (hs x (.tail _ hx))
    rw [List.length_erase_of_mem hm] at this
    have : 0 < m.length := List.length_pos_of_mem hm
    rw [List.length_cons]; omega

/-! dicts of ints -/
theorem dget_cons (p : Int × Int) (l : List (Int × Int)) (k : Int) : dget (p :: l) k = if p.1 = k then some p.2 else dget l k := by
  unfold dget
  rw [List.find?_cons]
  by_cases h : p.1 = k <;> simp [h]
theorem dget_none {l : List (Int × Int)} {k : Int} : dget l k = none ↔ k ∉ l.map (·.1) := by
  induction l with
  | nil => simp [dget]
  | cons p l ih =>
    rw [dget_cons, List.map_cons, List.mem_cons]
    by_cases h : p.1 = k
    · simp [h]
    · rw [if_neg h, ih]; simp [Ne.symm h]
theorem dget_map_other (l : List (Int × Int)) (k v k' : Int) (h : k' ≠ k) : dget (l.map fun p => if p.1 = k then (p.1, v) else p) k' = dget l k' := by
  induction l with
  | nil => rfl
  | cons p l ih =>
    rw [List.map_cons, dget_cons, dget_cons, ih]
    by_cases e : p.1 = k
    · rw [if_pos e]
      have : p.1 ≠ k' := fun q => h (q.symm.trans e)
      rw [if_neg this, if_neg this]
    · rw [if_neg e]
theorem dget_map_same (l : List (Int × Int)) (k v : Int) (h : k ∈ l.map (·.1)) : dget (l.map fun p => if p.1 = k then (p.1, v) else p) k = some v := by
  induction l with
  | nil => cases h
  | cons p l ih =>
    rw [List.map_cons, dget_cons]
    by_cases e : p.1 = k
    · rw [if_pos e, if_pos e]
    · rw [if_neg e, if_neg e]
      refine ih ?_
      rcases List.mem_cons.mp h with q | q
      · exact absurd q.symm e
      · exact q
theorem any_key {l : List (Int × Int)} {k : Int} : (l.any fun p => decide (p.1 = k)) = true ↔ k ∈ l.map (·.1) := by
  rw [List.any_eq_true, List.mem_map]
  constructor
  · rintro ⟨p, hp, e⟩; exact ⟨p, hp, by simpa using e⟩
  · rintro ⟨p, hp, e⟩; exact ⟨p, hp, by simpa using e⟩
theorem dget_dput (l : List (Int × Int)) (k v k' : Int) : dget (dput l k v) k' = if k' = k then some v else dget l k' := by
  unfold dput
  split
  · rename_i h
    by_cases e : k' = k
    · subst e; rw [if_pos rfl]; exact dget_map_same l k' v (any_key.mp h)
    · rw [if_neg e]; exact dget_map_other l k v k' e
  · rename_i h
    have hk : k ∉ l.map (·.1) := by
      intro hm
      obtain ⟨p, hp, rfl⟩ := List.mem_map.mp hm
      exact h (List.any_eq_true.mpr ⟨p, hp, by simp⟩)
    clear h
    induction l with
    | nil => rw [List.nil_append, dget_cons]; by_cases e : k = k' <;> simp [e, dget, Ne.symm, eq_comm]
    | cons p l ih =>
      rw [List.cons_append, dget_cons, dget_cons, ih (fun hm => hk (.tail _ hm))]
      have e : p.1 ≠ k := fun e => hk (e ▸ .head _)
      by_cases e1 : p.1 = k'
      · rw [if_pos e1, if_pos e1, if_neg (fun e2 => e (e1.trans e2))]
      · rw [if_neg e1, if_neg e1]
theorem dput_keys (l : List (Int × Int)) (k v : Int) : (dput l k v).map (·.1) = if k ∈ l.map (·.1) then l.map (·.1) else l.map (·.1) ++ [k] := by
  unfold dput
  by_cases h : k ∈ l.map (·.1)
  · rw [if_pos (any_key.mpr h), if_pos h, List.map_map]
    refine List.map_congr_left fun p _ => ?_
    show (if p.1 = k then (p.1, v) else p).1 = p.1
    split <;> rfl
  · rw [if_neg (fun q => h (any_key.mp q)), if_neg h, List.map_append]; rfl
theorem dput_nodup {l : List (Int × Int)} {k v : Int} (h : (l.map (·.1)).Nodup) : ((dput l k v).map (·.1)).Nodup := by
  rw [dput_keys]
  split
  · exact h
  · rename_i hk
    rw [List.nodup_append]
    refine ⟨h, by simp, fun a ha b hb => ?_⟩
    rw [List.mem_singleton.mp hb]
    exact fun e => hk (e ▸ ha)
theorem dget_mem {l : List (Int × Int)} {k v : Int} (h : dget l k = some v) : (k, v) ∈ l := by
  induction l with
  | nil => simp [dget] at h
  | cons p l ih =>
    rw [dget_cons] at h
    by_cases e : p.1 = k
    · rw [if_pos e] at h; cases h; rw [← e]; exact .head _
    · rw [if_neg e] at h; exact .tail _ (ih h)
theorem dget_of_mem {l : List (Int × Int)} {k v : Int} (nd : (l.map (·.1)).Nodup) (h : (k, v) ∈ l) : dget l k = some v := by
  induction l with
  | nil => cases h
  | cons p l ih =>
    obtain ⟨n1, n2⟩ := List.nodup_cons.mp nd
    rw [dget_cons]
    rcases List.mem_cons.mp h with e | e
    · subst e; rw [if_pos rfl]
    · rw [if_neg (fun q => n1 (List.mem_map.mpr ⟨(k, v), e, q.symm⟩)), ih n2 e]
theorem dputs_new : ∀ (ps l : List (Int × Int)), ((l ++ ps).map (·.1)).Nodup → dputs l ps = l ++ ps
  | [], l, _ => by simp [dputs]
  | p :: ps, l, h => by
    have e : dput l p.1 p.2 = l ++ [p] := by
      unfold dput
      rw [if_neg]
      intro q
      rw [any_key] at q
      rw [List.map_append, List.nodup_append] at h
      exact h.2.2 _ q _ (.head _) rfl
    show dputs (dput l p.1 p.2) ps = _
    rw [e, dputs_new ps (l ++ [p]) (by simpa using h)]
    simp
end Mine
namespace Mine
open PySem PySem.Calls PyProof.Rows PySem.W
/-- a tie with its price -/
abbrev Ent := Int × Nat × Nat
def eL (e : Ent) : List Int := [e.1, (e.2.1 : Int), (e.2.2 : Int)]
abbrev eD (e : Ent) : D := .ints (eL e)
def tL (t : Nat × Nat) : List Int := [(t.1 : Int), (t.2 : Int)]
abbrev tD (t : Nat × Nat) : D := .ints (tL t)
abbrev nD (n : Nat) : D := .int (n : Int)
def unN (d : D) : Nat := d.toInt.toNat
def unE (d : D) : Ent := (d.toInts.getD 0 0, (d.toInts.getD 1 0).toNat, (d.toInts.getD 2 0).toNat)
def unT (d : D) : Nat × Nat := ((d.toInts.getD 0 0).toNat, (d.toInts.getD 1 0).toNat)
/-- what _law_pieces tells -/
def pstep (p : List Nat) (t : Nat × Nat) : List Nat :=
  p.map fun h => if h == max (p.getD t.1 0) (p.getD t.2 0) then min (p.getD t.1 0) (p.getD t.2 0) else h
def pieces (ts : List (Nat × Nat)) : List Nat := ts.foldl pstep [0, 1, 2, 3]
theorem pstep_len (p : List Nat) (t : Nat × Nat) : (pstep p t).length = p.length := by simp [pstep]
theorem pieces_len (ts : List (Nat × Nat)) : ∀ p : List Nat, (ts.foldl pstep p).length = p.length := by
  induction ts with
  | nil => intro p; rfl
  | cons t r ih => intro p; rw [List.foldl_cons, ih, pstep_len]
/-- laying in -/
def insE (o : List Ent) (t : Ent) : List Ent := insAt o (bis (o.map eL) (eL t) 0 o.length) t
theorem insE_map (o : List Ent) (t : Ent) : (insE o t).map eL = insL (o.map eL) (eL t) := by
  simp [insE, insL, insAt, List.map_take, List.map_drop]
theorem insE_len (o : List Ent) (t : Ent) : (insE o t).length = o.length + 1 := by
  have := insL_len (o.map eL) (eL t)
  rw [← insE_map, List.length_map, List.length_map] at this
  exact this
def layE (l : List Ent) : List Ent := l.foldl insE []
theorem layE_len : ∀ (l o : List Ent), (l.foldl insE o).length = o.length + l.length
  | [], o => rfl
  | t :: r, o => by rw [List.foldl_cons, layE_len r, insE_len, List.length_cons]; omega
/-- what _law_by_price takes -/
def kstep (taken : List Ent) (e : Ent) : List Ent :=
  if ((pieces (taken.map (·.2))).getD e.2.1 0 != (pieces (taken.map (·.2))).getD e.2.2 0) then taken ++ [e] else taken
def kru (order : List Ent) : List Ent := order.foldl kstep []
theorem kru_len : ∀ (l o : List Ent), (l.foldl kstep o).length ≤ o.length + l.length
  | [], o => Nat.le_refl _
  | t :: r, o => by
    have h := kru_len r (kstep o t)
    have h2 : (kstep o t).length ≤ o.length + 1 := by
      unfold kstep; split <;> simp
    rw [List.foldl_cons, List.length_cons]; omega
/-- what _law_from_a_place does -/
def outOf (priced : List Ent) (inside : List Nat) : List Ent := layE (priced.filter fun e => inside.contains e.2.1 != inside.contains e.2.2)
def primS (priced : List Ent) (first : Nat) : Nat → List Nat × List Ent
  | 0 => ([first], [])
  | k + 1 =>
    let s := primS priced first k
    let e := (outOf priced s.1).headD (0, 0, 0)
    (s.1 ++ [if s.1.contains e.2.1 then e.2.2 else e.2.1], s.2 ++ [e])
theorem primS_len (priced : List Ent) (first : Nat) : ∀ k, (primS priced first k).1.length = k + 1 ∧ (primS priced first k).2.length = k
  | 0 => ⟨rfl, rfl⟩
  | k + 1 => by
    obtain ⟨h1, h2⟩ := primS_len priced first k
    simp only [primS, List.length_append, List.length_cons, List.length_nil, h1, h2, and_self]
theorem toInts_eL (e : Ent) : unE (eD e) = e := by
  simp only [unE, eD, toInts_ints, eL]; rfl
theorem toInts_tL (t : Nat × Nat) : unT (tD t) = t := by
  simp only [unT, tD, toInts_ints, tL]; rfl
end Mine
namespace Mine
open PySem PySem.Calls PyProof.Rows PySem.W
def tieN (i : Nat) : Nat × Nat := [(0, 1), (0, 2), (1, 2), (0, 3), (1, 3), (2, 3)].getD i (0, 0)
def allOrders : Nat → List (List Nat)
  | 0 => [[]]
  | n + 1 => (allOrders n).flatMap fun o => (List.range (n + 1)).map fun k => insAt o k n
def kstepI (T : List Nat) (i : Nat) : List Nat :=
  if ((pieces (T.map tieN)).getD (tieN i).1 0 != (pieces (T.map tieN)).getD (tieN i).2 0) then T ++ [i] else T
def kruI (o : List Nat) : List Nat := o.foldl kstepI []
def lotsI : List (List Nat) := (List.range 6).flatMap fun a => (List.range a).flatMap fun b => (List.range b).flatMap fun c => [[a, b, c]]
def goodI : List (List Nat) := lotsI.filter fun l => pieces (l.map tieN) == [0, 0, 0, 0]
def leI : List Nat → Nat → Nat → Bool
  | [], _, _ => false
  | x :: r, t, s => if x == t then (x == s || r.contains s) else if x == s then false else leI r t s
def crI (inside : List Nat) (i : Nat) : Bool := inside.contains (tieN i).1 != inside.contains (tieN i).2
/-- the ties taken from a place on, one by one; all hold T's ties -/
def primI (o T : List Nat) : Nat → List Nat → List Nat → Bool
  | 0, _, taken => taken.isPerm T
  | k + 1, inside, taken => match o.filter (crI inside) with
    | [] => false
    | i :: _ => primI o T k (inside ++ [if inside.contains (tieN i).1 then (tieN i).2 else (tieN i).1]) (taken ++ [i])
def connI (T : List Nat) (out i : Nat) : Bool := (dputs [] ((pieces (((T.filter (· != out)).map tieN) ++ [tieN i])).map fun (h : Nat) => ((h : Int), (1 : Int)))).length == 1
def dom3 (o : List Nat) (t1 t2 t3 x y z : Nat) : Bool := leI o t1 x && (leI o t2 y && leI o t3 z)
def domI (o : List Nat) : List Nat → List Nat → Bool
  | [t1, t2, t3], [a, b, c] => dom3 o t1 t2 t3 c b a || dom3 o t1 t2 t3 a b c || dom3 o t1 t2 t3 a c b || dom3 o t1 t2 t3 b a c || dom3 o t1 t2 t3 b c a || dom3 o t1 t2 t3 c a b
  | _, _ => false
def goodL : List (List Nat) := [[3, 1, 0], [3, 2, 0], [3, 2, 1], [4, 1, 0], [4, 2, 0], [4, 2, 1], [4, 3, 1], [4, 3, 2], [5, 1, 0], [5, 2, 0], [5, 2, 1], [5, 3, 0], [5, 3, 2], [5, 4, 0], [5, 4, 1], [5, 4, 3]]
def chk1 (o : List Nat) : Bool :=
  let T := kruI o
  T.length == 3 && goodL.any (fun l => l.isPerm T) && goodL.all (fun l => domI o T l)
def chk2 (o : List Nat) : Bool :=
  let T := kruI o
  T.all fun out => let P := pieces ((T.filter (· != out)).map tieN)
    (List.range 6).all fun i => P.getD (tieN i).1 0 == P.getD (tieN i).2 0 || leI o out i
def chk3 (o : List Nat) : Bool :=
  let T := kruI o
  (List.range 6).all fun i => T.contains i || (let W := T.filter fun out => connI T out i; !W.isEmpty && W.all fun out => leI o out i)
def chk4 (o : List Nat) : Bool :=
  let T := kruI o
  (List.range 4).all fun f => primI o T 3 [f] []
def chk0 (o : List Nat) : Bool := o.length == 6 && o.isPerm [0, 1, 2, 3, 4, 5]
def chk (o : List Nat) : Bool := chk0 o && (chk1 o && (chk2 o && (chk3 o && chk4 o)))
def chkFrom (q : List Nat) : Bool := (List.range 5).all fun a => (List.range 6).all fun b => chk (insAt (insAt q a 4) b 5)
end Mine
namespace Mine
open PySem PySem.Calls PyProof.Rows PySem.W
theorem chkd0 : chkFrom [3, 2, 1, 0] = true := by decide +kernel
theorem chkd1 : chkFrom [2, 3, 1, 0] = true := by decide +kernel
theorem chkd2 : chkFrom [2, 1, 3, 0] = true := by decide +kernel
theorem chkd3 : chkFrom [2, 1, 0, 3] = true := by decide +kernel
theorem chkd4 : chkFrom [3, 1, 2, 0] = true := by decide +kernel
theorem chkd5 : chkFrom [1, 3, 2, 0] = true := by decide +kernel
theorem chkd6 : chkFrom [1, 2, 3, 0] = true := by decide +kernel
theorem chkd7 : chkFrom [1, 2, 0, 3] = true := by decide +kernel
theorem chkd8 : chkFrom [3, 1, 0, 2] = true := by decide +kernel
theorem chkd9 : chkFrom [1, 3, 0, 2] = true := by decide +kernel
theorem chkd10 : chkFrom [1, 0, 3, 2] = true := by decide +kernel
theorem chkd11 : chkFrom [1, 0, 2, 3] = true := by decide +kernel
theorem chkd12 : chkFrom [3, 2, 0, 1] = true := by decide +kernel
theorem chkd13 : chkFrom [2, 3, 0, 1] = true := by decide +kernel
theorem chkd14 : chkFrom [2, 0, 3, 1] = true := by decide +kernel
theorem chkd15 : chkFrom [2, 0, 1, 3] = true := by decide +kernel
theorem chkd16 : chkFrom [3, 0, 2, 1] = true := by decide +kernel
theorem chkd17 : chkFrom [0, 3, 2, 1] = true := by decide +kernel
theorem chkd18 : chkFrom [0, 2, 3, 1] = true := by decide +kernel
theorem chkd19 : chkFrom [0, 2, 1, 3] = true := by decide +kernel
theorem chkd20 : chkFrom [3, 0, 1, 2] = true := by decide +kernel
theorem chkd21 : chkFrom [0, 3, 1, 2] = true := by decide +kernel
theorem chkd22 : chkFrom [0, 1, 3, 2] = true := by decide +kernel
theorem chkd23 : chkFrom [0, 1, 2, 3] = true := by decide +kernel
theorem orders4 : allOrders 4 = [[3, 2, 1, 0], [2, 3, 1, 0], [2, 1, 3, 0], [2, 1, 0, 3], [3, 1, 2, 0], [1, 3, 2, 0], [1, 2, 3, 0], [1, 2, 0, 3], [3, 1, 0, 2], [1, 3, 0, 2], [1, 0, 3, 2], [1, 0, 2, 3], [3, 2, 0, 1], [2, 3, 0, 1], [2, 0, 3, 1], [2, 0, 1, 3], [3, 0, 2, 1], [0, 3, 2, 1], [0, 2, 3, 1], [0, 2, 1, 3], [3, 0, 1, 2], [0, 3, 1, 2], [0, 1, 3, 2], [0, 1, 2, 3]] := by decide +kernel
theorem goodI_is : goodI = goodL := by decide +kernel
theorem chk_from : ∀ q ∈ allOrders 4, chkFrom q = true := by
  rw [orders4]
  intro q hq
  simp only [List.mem_cons, List.not_mem_nil, or_false] at hq
  rcases hq with rfl | rfl | rfl | rfl | rfl | rfl | rfl | rfl | rfl | rfl | rfl | rfl | rfl | rfl | rfl | rfl | rfl | rfl | rfl | rfl | rfl | rfl | rfl | rfl
  · exact chkd0
  · exact chkd1
  · exact chkd2
  · exact chkd3
  · exact chkd4
  · exact chkd5
  · exact chkd6
  · exact chkd7
  · exact chkd8
  · exact chkd9
  · exact chkd10
  · exact chkd11
  · exact chkd12
  · exact chkd13
  · exact chkd14
  · exact chkd15
  · exact chkd16
  · exact chkd17
  · exact chkd18
  · exact chkd19
  · exact chkd20
  · exact chkd21
  · exact chkd22
  · exact chkd23
theorem orders_mem {n : Nat} {o : List Nat} (h : o ∈ allOrders (n + 1)) : ∃ q ∈ allOrders n, ∃ k, k < n + 1 ∧ o = insAt q k n := by
  rw [allOrders, List.mem_flatMap] at h
  obtain ⟨q, hq, h⟩ := h
  obtain ⟨k, hk, rfl⟩ := List.mem_map.mp h
  exact ⟨q, hq, k, List.mem_range.mp hk, rfl⟩
theorem chk_all : ∀ o ∈ allOrders 6, chk o = true := fun o h => by
  obtain ⟨q, hq, b, hb, rfl⟩ := orders_mem h
  obtain ⟨r, hr, a, ha, rfl⟩ := orders_mem hq
  have h1 := List.all_eq_true.mp (chk_from r hr) a (List.mem_range.mpr ha)
  exact List.all_eq_true.mp h1 b (List.mem_range.mpr hb)
end Mine
namespace Mine
open PySem PySem.W PyProof.Rows
set_option maxHeartbeats 8000000 in
open_top hd for PySem.Challenge.rw_gj0002_02
end Mine
namespace Mine
open PySem PySem.Calls PyProof.Rows PySem.W
theorem vals2 {vals : List Value} (h : vals.length = 2) : ∃ a b, vals = [a, b] := by
  match vals, h with
  | [a, b], _ => exact ⟨a, b, rfl⟩
theorem vals3 {vals : List Value} (h : vals.length = 3) : ∃ a b c, vals = [a, b, c] := by
  match vals, h with
  | [a, b, c], _ => exact ⟨a, b, c, rfl⟩
theorem vals4 {vals : List Value} (h : vals.length = 4) : ∃ a b c d, vals = [a, b, c, d] := by
  match vals, h with
  | [a, b, c, d], _ => exact ⟨a, b, c, d, rfl⟩
section
variable {prog : Program} {wd : World} {H0 : Heap} {A : Around} {P : Params}

theorem bisect_ok {n : Nat} (G : Gd (hd.heap_39 P) H0) (hA : AOk (n + 1) A) {ls : List (List Int)} {t : List Int} (hl : ∀ l ∈ ls, l.length = t.length) (hz : ls.length ≤ 1000) :
    CF prog wd H0 A (.ref 32) [.lst (ls.map D.ints), .ints t, .int 0, .none] (.int (bis ls t 0 ls.length)) := by
  refine CF.ofSW (exD := [.none]) (extra := [.none]) (names := ["a", "x", "lo", "hi", "key"]) (FnOk.ofK G (f := 32) (e := rfl) rfl rfl (by rfl) rfl rfl rfl) hA.d ?_ rfl (by decide) (by decide) (fun w => .cons .none .nil) fun L EO => ?_
  · intro s vals hb hv
    obtain ⟨a, b, c, d, rfl⟩ := vals4 hv
    exact kp_binds (G.X.keeps hb) fun S => rfl
  generalize hE : callEnvC _ L 32 = env at *
  have hA' := hA.deeper env
  have hk : env.scope.kind = .function := EO.kind
  have gl : GN prog wd H0 (A.deeper env) env "len" (.builtin "len") := by
    subst hE
    exact GN.ofB G rfl (by decide +kernel) (by decide) rfl rfl rfl rfl (by decide)
  refine SW.cons (SX.ifs (PT.cmp (PE.name rfl hk) PE.int CO.lt rfl) (fun e => absurd e (by decide)) fun _ => SW.nil ?_)
  refine SW.cons (SX.ifs (PT.cmp (PE.name rfl hk) PE.none (CO.isNone rfl) rfl) (fun _ => SW.cons (SX.assignF 0 EO trivial (.inl (by subst hE; rfl)) (PE.call gl (KP.builtin _) (.cons (PE.name rfl hk) .nil rfl) (CF.lenL (by simpa using hz)) rfl rfl rfl) rfl rfl (SW.nil ?_))) fun e => absurd e (by decide))
  refine SW.cons (SX.ifs (PT.cmp (PE.name rfl hk) PE.none (CO.isNone rfl) rfl) (fun _ => SW.cons ?_) fun e => absurd e (by decide))
  refine SX.whileC (σ := Nat × Nat) (fun p => locOf ["a", "x", "lo", "hi", "key"] [.lst (ls.map D.ints), .ints t, .int p.1, .int p.2, .none]) (fun _ => []) (fun p => p.2 ≤ ls.length ∧ bis ls t p.1 p.2 = bis ls t 0 ls.length) (fun p => p.2 - p.1) (0, ls.length) ⟨Nat.le_refl _, rfl⟩
    (Le.of ⟨rfl, rfl, rfl, by rw [← List.length_map (f := D.ints)]; rfl, rfl, trivial⟩) ⟨fun _ h => h, List.nodup_nil⟩ ?_
  rintro ⟨lo, hi⟩ ⟨hh, hb⟩ _
  refine ⟨_, PT.cmp (PE.name rfl hk) (PE.name rfl hk) CO.lt rfl, fun e => ?_, fun e l o hL hO => ?_⟩
  · have hlt : lo < hi := by simpa using e
    refine SW.cons (SX.assignF 0 EO trivial (.inl (by subst hE; rfl)) (PE.bin (PE.bin (PE.name rfl hk) (PE.name rfl hk) BO.add) PE.int (BO.fdiv (by decide) (by decide))) rfl rfl ?_)
    have em : ((lo : Int) + hi).fdiv 2 = ((lo + hi) / 2 : Nat) := by
      rw [Int.fdiv_eq_ediv_of_nonneg _ (by decide)]; omega
    rw [em]
    have hm : (lo + hi) / 2 < ls.length := by omega
    have hget : (ls.map D.ints)[(((lo + hi) / 2 : Nat) : Int).toNat]? = some (.ints (ls.getD ((lo + hi) / 2) [])) := by
      rw [Int.toNat_natCast]; simp [hm]
    refine SW.cons (SX.ifs (PT.cmp (PE.itemL (PE.name rfl hk) (PE.name rfl hk) (by omega) (by omega) hget (fun _ _ _ => by with_unfolding_all rfl)) (PE.name rfl hk) (CO.ltT (hl _ (by simp [hm])) hA'.u0) rfl) (fun q => ?_) fun q => ?_)
    · refine SW.cons (SX.assignF 0 EO trivial (.inl (by subst hE; rfl)) (PE.bin (PE.name rfl hk) PE.int BO.add) rfl rfl (SW.nil (SW.nil ⟨((lo + hi) / 2 + 1, hi), ?_, ⟨hh, ?_⟩, Le.of ⟨rfl, rfl, rfl, rfl, rfl, trivial⟩, ⟨fun _ h => h, List.nodup_nil⟩⟩)))
      · show hi - ((lo + hi) / 2 + 1) < hi - lo; omega
      · rw [← hb, bis.eq_def ls t lo hi, dif_pos hlt, if_pos q]
    · refine SW.cons (SX.assignF 0 EO trivial (.inl (by subst hE; rfl)) (PE.name rfl hk) rfl rfl (SW.nil (SW.nil ⟨(lo, (lo + hi) / 2), ?_, ⟨?_, ?_⟩, Le.of ⟨rfl, rfl, rfl, rfl, rfl, trivial⟩, ⟨fun _ h => h, List.nodup_nil⟩⟩)))
      · show (lo + hi) / 2 - lo < hi - lo; omega
      · show (lo + hi) / 2 ≤ _; omega
      · rw [← hb, bis.eq_def ls t lo hi, dif_pos hlt, if_neg (by rw [q]; decide)]
  · have hlt : ¬ lo < hi := by simpa using e
    refine SW.nil (SW.ownLe (own' := []) (SW.le (SW.cons (SX.ret (PE.name rfl hk) ?_)) hL) ⟨fun _ h => (nomatch h), List.nodup_nil⟩)
    rw [← hb, bis.eq_def ls t lo hi, dif_neg hlt]

theorem bis_le (ls : List (List Int)) (t : List Int) (lo hi : Nat) (h : lo ≤ hi) : bis ls t lo hi ≤ hi := by
  fun_induction bis ls t lo hi with
  | case1 lo hi hlt hc ih => exact ih (by omega)
  | case2 lo hi hlt hc ih => have := ih (by omega); omega
  | case3 lo hi hlt => exact h

theorem insort_ok {n : Nat} (G : Gd (hd.heap_39 P) H0) (hA : AOk (n + 2) A) : INS prog wd H0 A (.ref 23) := by
  refine INS.ofSW (exD := [.int 0, .none, .none]) (extra := [.int 0 189, .none, .none]) (names := ["a", "x", "lo", "hi", "key"]) (FnOk.ofK G (f := 23) (e := rfl) rfl rfl (by rfl) rfl rfl rfl) hA.d ?_ rfl (by decide) (by decide) (fun w => .cons (.int _ _) (.cons .none (.cons .none .nil))) fun L a ls t EO hl hz => ?_
  · intro s vals hb hv
    obtain ⟨a, b, rfl⟩ := vals2 hv
    exact kp_binds (G.X.keeps hb) fun S => rfl
  generalize hE : callEnvC _ L 23 = env at *
  have hA' := hA.deeper env
  have hk : env.scope.kind = .function := EO.kind
  have gb : GN prog wd H0 (A.deeper env) env "bisect_left" (.ref 32) := by
    subst hE
    exact GN.ofK G rfl rfl rfl rfl (by decide)
  have hle := bis_le ls t 0 ls.length (Nat.zero_le _)
  refine SW.cons (SX.ifs (PT.cmp (PE.name rfl hk) PE.none (CO.isNone rfl) rfl) (fun _ => SW.cons (SX.assignF 0 EO trivial (.inl (by subst hE; rfl)) (PE.call gb (KP.keep G (by rfl)) (.cons (PE.name (d := .lst (ls.map D.ints)) (by simp [Loc.res, locOf]) hk) (.cons (PE.name rfl hk) (.cons (PE.name rfl hk) (.cons (PE.name rfl hk) .nil rfl) rfl) rfl) rfl) (bisect_ok G hA' hl hz) rfl rfl rfl) rfl rfl (SW.nil ?_))) fun e => absurd e (by decide))
  refine SW.cons (SX.insert 1 hk (a := a) (ds := ls.map D.ints) rfl (by simp) (PE.name rfl hk) (by simpa using hle) (PE.name rfl hk) (by simp [D.flat]) (by rw [List.length_map]; omega) (by decide) (by decide) rfl rfl rfl (by subst hE; rfl) rfl (SW.nil ?_))
  simp [own_set, insL, insAt, List.map_take, List.map_drop]

/-- the sign that a TupleComp tells -/
def csel : List (Nat × Int) → List Int → List Int → Int
  | [], _, _ => 0
  | (i, d) :: r, xs, ys => if xs.getD i 0 < ys.getD i 0 then -d else if ys.getD i 0 < xs.getD i 0 then d else csel r xs ys
abbrev selD (ss : List (Nat × Int)) : D := .lst (ss.map fun p => .tup [.int (p.1 : Int), .int p.2])
theorem cls_ok : ClsOk (hd.heap_39 P) 56 46 53 :=
  ⟨rfl, rfl, rfl, rfl, rfl, rfl, rfl, rfl, rfl, ⟨_, rfl, rfl⟩, rfl, rfl⟩
theorem make_ok {n : Nat} (G : Gd (hd.heap_39 P) H0) (hA : AOk n A) {d : D} : CF prog wd H0 A (.ref 56) [d] (.tc 56 d) :=
  CF.make hA G cls_ok (e := rfl) rfl rfl (fun s a b => BindsTo.of_eq rfl) (by simp) rfl rfl rfl rfl rfl
theorem item_at {xs : List Int} {i : Nat} (h : i < xs.length) : (xs.map D.int)[i]? = some (.int (xs.getD i 0)) := by simp [h]
theorem seq_at {i n : Nat} (h : i < n) : seqIndex? (i : Int) n = some i := by
  unfold seqIndex?
  simp
  omega
theorem compare_ok {n : Nat} (G : Gd (hd.heap_39 P) H0) (hA : AOk (n + 1) A) {ss : List (Nat × Int)} {xs ys : List Int} (hs : ∀ p ∈ ss, p.1 < xs.length) (hl : xs.length = ys.length) (hz : xs.length ≤ 1000) :
    CF prog wd H0 A (.ref 53) [.tc 56 (selD ss), .ints xs, .ints ys] (.int (csel ss xs ys)) := by
  refine CF.ofSW (exD := []) (extra := []) (names := ["self", "left", "right"]) (FnOk.ofK G (f := 53) (e := rfl) rfl rfl (by rfl) rfl rfl rfl) hA.d ?_ rfl (by decide) (by decide) (fun w => .nil) fun L EO => ?_
  · intro s vals hb hv
    obtain ⟨a, b, c, rfl⟩ := vals3 hv
    exact BindsTo.of_eq rfl
  generalize hE : callEnvC _ L 53 = env at *
  have hA' := hA.deeper env
  have hk : env.scope.kind = .function := EO.kind
  refine SW.cons (SX.forC (σ := Unit) (fun _ => locOf ["self", "left", "right"] [.tc 56 (selD ss), .ints xs, .ints ys]) (fun _ => []) (fun i _ => csel (ss.drop i) xs ys = csel ss xs ys) () rfl (Le.refl _) ⟨fun _ h => h, List.nodup_nil⟩ (fun _ => rfl) (ITE.list hA'.hh (PE.attr G cls_ok (PE.name rfl hk))) (fun i d x hd hI _ => ?_) fun x hI l o hL hO => ?_)
  · obtain ⟨p, hp, rfl⟩ : ∃ p, ss[i]? = some p ∧ d = .tup [.int (p.1 : Int), .int p.2] := by
      rw [List.getElem?_map] at hd
      cases q : ss[i]? with
      | none => rw [q] at hd; cases hd
      | some p => rw [q] at hd; cases hd; exact ⟨p, rfl, rfl⟩
    have hpl := hs p (List.mem_of_getElem? hp)
    have hdr : ss.drop i = p :: ss.drop (i + 1) := by
      obtain ⟨h1, h2⟩ := List.getElem?_eq_some_iff.mp hp
      rw [List.drop_eq_getElem_cons h1, h2]
    rw [hdr, csel.eq_def] at hI
    simp only at hI
    refine ⟨_, BT.tup hA'.hh (.cons (.name EO trivial (.inl (by subst hE; rfl))) (.cons (.name EO trivial (.inl (by subst hE; rfl))) .nil rfl) rfl) rfl rfl, ?_⟩
    refine SW.cons (SX.assignF 0 EO trivial (.inl (by subst hE; rfl)) (PE.itemT (PE.name rfl hk) (PE.name rfl hk) (by omega) (by omega) (by rw [List.length_map]; exact seq_at hpl) (item_at hpl) (fun _ _ _ => by with_unfolding_all rfl)) rfl rfl ?_)
    refine SW.cons (SX.assignF 0 EO trivial (.inl (by subst hE; rfl)) (PE.itemT (PE.name rfl hk) (PE.name rfl hk) (by omega) (by omega) (by rw [List.length_map]; exact seq_at (hl ▸ hpl)) (item_at (hl ▸ hpl)) (fun _ _ _ => by with_unfolding_all rfl)) rfl rfl ?_)
    refine SW.cons (SX.ifs (PT.cmp (PE.name rfl hk) (PE.name rfl hk) CO.lt rfl) (fun q => ?_) fun q => SW.nil ?_)
    · refine SW.cons (SX.ret (PE.neg (PE.name rfl hk)) ?_)
      rw [if_pos (by simpa using q)] at hI
      rw [← hI]
    · rw [if_neg (by simpa using q)] at hI
      refine SW.cons (SX.ifs (PT.cmp (PE.name rfl hk) (PE.name rfl hk) CO.gt rfl) (fun q => ?_) fun q => SW.nil (SW.nil ?_))
      · refine SW.cons (SX.ret (PE.name rfl hk) ?_)
        rw [if_pos (by simpa using q)] at hI
        rw [← hI]
      · rw [if_neg (by simpa using q)] at hI
        exact ⟨(), hI, Le.of ⟨rfl, rfl, rfl, trivial⟩, ⟨fun _ h => h, List.nodup_nil⟩⟩
  · refine SW.cons (SX.ret PE.int ?_)
    rw [← hI, List.length_map, List.drop_of_length_le (Nat.le_refl _)]; rfl
end
end Mine
namespace Mine
open PySem PySem.Calls PyProof.Rows PySem.W
theorem item_nD {p : List Nat} {i : Nat} (h : i < p.length) : (p.map nD)[((i : Int)).toNat]? = some (nD (p.getD i 0)) := by
  rw [Int.toNat_natCast, List.getElem?_map]; simp [h]
theorem vals1 {vals : List Value} (h : vals.length = 1) : ∃ a, vals = [a] := by
  match vals, h with
  | [a], _ => exact ⟨a, rfl⟩
section
variable {prog : Program} {wd : World} {H0 : Heap} {A : Around} {P : Params}
theorem pieces_ok {n : Nat} (G : Gd (hd.heap_39 P) H0) (hA : AOk (n + 1) A) {ts : List (Nat × Nat)} (hl : ∀ t ∈ ts, t.1 < 4 ∧ t.2 < 4) :
    CF prog wd H0 A (.ref 65) [.lst (ts.map tD)] (.lst ((pieces ts).map nD)) := by
  refine CF.ofSW (exD := []) (extra := []) (names := ["ties"]) (FnOk.ofK G (f := 65) (e := rfl) rfl rfl (by rfl) rfl rfl rfl) hA.d ?_ rfl (by decide) (by decide) (fun w => .nil) fun L EO => ?_
  · intro s vals hb hv
    obtain ⟨a, rfl⟩ := vals1 hv
    exact BindsTo.of_eq rfl
  generalize hE : callEnvC _ L 65 = env at *
  have hA' := hA.deeper env
  have hk : env.scope.kind = .function := EO.kind
  have gm : GN prog wd H0 (A.deeper env) env "min" (.builtin "min") := by
    subst hE
    exact GN.ofB G rfl (by decide +kernel) (by decide) rfl rfl rfl rfl (by decide)
  have gM : GN prog wd H0 (A.deeper env) env "max" (.builtin "max") := by
    subst hE
    exact GN.ofB G rfl (by decide +kernel) (by decide) rfl rfl rfl rfl (by decide)
  refine SW.cons (SX.assign EO trivial (.inl (by subst hE; rfl)) (PE.lst (.cons PE.int (.cons PE.int (.cons PE.int (.cons PE.int .nil rfl) rfl) rfl) rfl) (by simp)) rfl ?_)
  refine SW.cons (SX.forC (σ := List Nat) (fun p => locOf ["ties", "piece"] [.lst (ts.map tD), .lst (p.map nD)]) (fun _ => []) (fun i p => p = (ts.take i).foldl pstep [0, 1, 2, 3]) [0, 1, 2, 3] rfl (Le.of ⟨rfl, rfl, trivial⟩) ⟨fun _ h => h, List.nodup_nil⟩ (fun _ => rfl) (ITE.list hA'.hh (PE.name rfl hk)) (fun i d p hd hI _ => ?_) fun p hI l o hL hO => ?_)
  · obtain ⟨t, ht, rfl⟩ : ∃ t, ts[i]? = some t ∧ d = tD t := by
      rw [List.getElem?_map] at hd
      cases q : ts[i]? with
      | none => rw [q] at hd; cases hd
      | some p => rw [q] at hd; cases hd; exact ⟨p, rfl, rfl⟩
    have hp4 : p.length = 4 := by rw [hI, pieces_len]; rfl
    have ht4 := hl t (List.mem_of_getElem? ht)
    obtain ⟨one, other⟩ := t
    simp only at ht4
    refine ⟨_, BT.tup hA'.hh (.cons (.name EO trivial (.inl (by subst hE; rfl))) (.cons (.name EO trivial (.inl (by subst hE; rfl))) .nil rfl) rfl) rfl rfl, ?_⟩
    have i1 : ∀ {loc : Loc} {p1 p2 p3}, loc "piece" = some (.lst (p.map nD)) → loc "one" = some (.int (one : Int)) → PE prog wd H0 (A.deeper env) env loc (.Subscript (.Name "piece" p1) (.Name "one" p2) p3) (nD (p.getD one 0)) := fun h1 h2 => PE.itemL (PE.name h1 hk) (PE.name h2 hk) (by omega) (by omega) (item_nD (by omega)) (fun _ _ _ => by with_unfolding_all rfl)
    have i2 : ∀ {loc : Loc} {p1 p2 p3}, loc "piece" = some (.lst (p.map nD)) → loc "other" = some (.int (other : Int)) → PE prog wd H0 (A.deeper env) env loc (.Subscript (.Name "piece" p1) (.Name "other" p2) p3) (nD (p.getD other 0)) := fun h1 h2 => PE.itemL (PE.name h1 hk) (PE.name h2 hk) (by omega) (by omega) (item_nD (by omega)) (fun _ _ _ => by with_unfolding_all rfl)
    refine SW.cons (SX.assignT (d := .tup [nD (min (p.getD one 0) (p.getD other 0)), nD (max (p.getD one 0) (p.getD other 0))]) 1 (PE.eq (PE.tup (.cons (PE.call gm (KP.builtin _) (.cons (i1 rfl rfl) (.cons (i2 rfl rfl) .nil rfl) rfl) (CF.min2 hA'.hh) rfl rfl rfl) (.cons (PE.call gM (KP.builtin _) (.cons (i1 rfl rfl) (.cons (i2 rfl rfl) .nil rfl) rfl) (CF.max2 hA'.hh) rfl rfl rfl) .nil rfl) rfl) (by simp)) ?_) (by simp [D.flat])
      (BT.tup hA'.hh (.cons (.name EO trivial (.inr (by subst hE; rfl))) (.cons (.name EO trivial (.inr (by subst hE; rfl))) .nil rfl) rfl) rfl rfl) rfl (by subst hE; rfl) ?_)
    · congr 2
      · congr 1; omega
      · congr 2; omega
    have hE2 := hE
    subst hE2
    refine SW.cons (SX.assignComp ["here"] p nD unN (fun h => [nD (if h == max (p.getD one 0) (p.getD other 0) then min (p.getD one 0) (p.getD other 0) else h)]) EO trivial (.inl rfl) rfl rfl rfl rfl ⟨⟨⟨_, rfl⟩, rfl, .inl rfl, rfl, rfl⟩, ⟨⟨_, rfl⟩, rfl, .inl rfl, rfl, rfl⟩, trivial⟩ (fun _ => rfl) rfl (fun a _ => by simp [unN, D.toInt]) (ITE.list hA'.hh (PE.name rfl hk))
      (by rw [flatMap_one, List.length_map]; omega)
      (fun C E2 h hp => TURN.all (BT.name E2 (by simp) (.inl rfl)) (Le.set rfl) rfl (CB.last rfl (PE.ite (b := h == max (p.getD one 0) (p.getD other 0)) (PT.eq (PT.cmp (PE.name rfl rfl) (PE.name rfl rfl) CO.eq rfl) (by rw [Bool.eq_iff_iff]; simp only [beq_iff_eq]; omega)) (fun q => PE.eq (PE.name rfl rfl) (by rw [if_pos q])) fun q => PE.eq (PE.name rfl rfl) (by rw [if_neg (by rw [q]; decide)])))) rfl (SW.nil ?_))
    refine ⟨pstep p (one, other), ?_, Le.of ⟨rfl, ?_, trivial⟩, ⟨fun _ h => h, List.nodup_nil⟩⟩
    · rw [hI, List.take_add_one, ht]; simp
    · rw [flatMap_one]; unfold pstep; rw [List.map_map]; rfl
  · rw [List.length_map, List.take_length] at hI
    refine SW.ownLe (SW.le (SW.cons (SX.ret (PE.name rfl hk) ?_)) hL) hO
    rw [hI]; rfl
end
end Mine
namespace Mine
open PySem PySem.Calls PyProof.Rows PySem.W
theorem map_eD (l : List Ent) : l.map eD = (l.map eL).map D.ints := by rw [List.map_map]; rfl
theorem get_map {α : Type} {f : α → D} {l : List α} {i : Nat} {d : D} (h : (l.map f)[i]? = some d) : ∃ a, l[i]? = some a ∧ d = f a := by
  rw [List.getElem?_map] at h
  cases q : l[i]? with
  | none => rw [q] at h; cases h
  | some a => rw [q] at h; cases h; exact ⟨a, rfl, rfl⟩
section
variable {prog : Program} {wd : World} {H0 : Heap} {A : Around} {P : Params}
theorem price_ok {n : Nat} (G : Gd (hd.heap_39 P) H0) (hA : AOk (n + 4) A) {es : List Ent} (hl : ∀ e ∈ es, e.2.1 < 4 ∧ e.2.2 < 4) (hz : es.length ≤ 100) (hord : ∀ e ∈ layE es, e.2.1 < 4 ∧ e.2.2 < 4) :
    CF prog wd H0 A (.ref 70) [.lst (es.map eD)] (.tup [.lst ((layE es).map eD), .lst ((kru (layE es)).map eD)]) := by
  refine CF.ofSW (exD := []) (extra := []) (names := ["priced"]) (FnOk.ofK G (f := 70) (e := rfl) rfl rfl (by rfl) rfl rfl rfl) hA.d ?_ rfl (by decide) (by decide) (fun w => .nil) fun L EO => ?_
  · intro s vals hb hv
    obtain ⟨a, rfl⟩ := vals1 hv
    exact BindsTo.of_eq rfl
  generalize hE : callEnvC _ L 70 = env at *
  have hA' := hA.deeper env
  have hk : env.scope.kind = .function := EO.kind
  have gi : GN prog wd H0 (A.deeper env) env "insort_left" (.ref 23) := by
    subst hE
    exact GN.ofK G rfl rfl rfl rfl (by decide)
  have gp : GN prog wd H0 (A.deeper env) env "_law_pieces" (.ref 65) := by
    subst hE
    exact GN.ofK G rfl rfl rfl rfl (by decide)
  -- order, taken = ([], [])
  refine SW.cons (SX.assignNewsS (ns := ["order", "taken"]) (dss := [[], []]) hA'.hh (.cons 0 (FLE.lst .nil (by simp)) (by simp) rfl fun a => .cons 0 (FLE.lst .nil (by simp)) (by simp) rfl fun b => .nil) (by simp) (fun as hl nd => ?_) rfl rfl (by subst hE; rfl))
  obtain ⟨a, b, rfl⟩ : ∃ a b, as = [a, b] := by
    match as, hl with
    | [a, b], _ => exact ⟨a, b, rfl⟩
  simp only [ownMore, List.map_cons, List.map_nil] at nd
  have nd' : [a, b].Nodup := by
    simp only [List.nodup_cons, List.mem_cons, List.not_mem_nil, or_false, List.nodup_nil, and_true, not_false_eq_true] at nd ⊢
    exact Ne.symm nd
  refine ⟨_, .cons EO trivial (.inl (by subst hE; rfl)) (.cons EO trivial (.inl (by subst hE; rfl)) .nil), ?_⟩
  -- for price, one, other in priced: insort_left(order, ..)
  refine SW.cons (SX.forC (σ := List Ent) (fun _ => locOf ["priced", "order", "taken"] [.lst (es.map eD), .ptr a, .ptr b]) (fun o => [(a, .lst (o.map eD)), (b, .lst [])]) (fun i o => o = (es.take i).foldl insE []) [] rfl (Le.of ⟨rfl, rfl, rfl, trivial⟩) ⟨fun p hp => ?_, nd'⟩ (fun _ => rfl) (ITE.list hA'.hh (PE.name rfl hk)) (fun i d o hd hI _ => ?_) fun o hI l oo hL hO => ?_)
  · simp [ownMore] at hp ⊢
    rcases hp with h | h <;> simp [h]
  · obtain ⟨e, he, rfl⟩ := get_map hd
    have hol : o.length ≤ 100 := by
      rw [hI, layE_len, List.length_take]; simp; omega
    refine ⟨_, BT.tup hA'.hh (.cons (.name EO trivial (.inl (by subst hE; rfl))) (.cons (.name EO trivial (.inl (by subst hE; rfl))) (.cons (.name EO trivial (.inl (by subst hE; rfl))) .nil rfl) rfl) rfl) rfl rfl, ?_⟩
    refine SW.cons (SX.insort (ls := o.map eL) (t := eL e) gi (KP.keep G (by rfl)) (insort_ok (n := n + 1) G hA') hk rfl (by rw [map_eD]; exact look2_1) (PE.tup (.cons (PE.name rfl hk) (.cons (PE.name rfl hk) (.cons (PE.name rfl hk) .nil rfl) rfl) rfl) (by simp [eL])) (fun l hl => by obtain ⟨x, _, rfl⟩ := List.mem_map.mp hl; rfl) (by rw [List.length_map]; omega) (by decide) (by decide) rfl rfl rfl (by subst hE; rfl) rfl (SW.nil ?_))
    rw [own2_1 nd', ← insE_map, ← map_eD]
    refine ⟨insE o e, ?_, Le.of ⟨rfl, rfl, rfl, trivial⟩, ⟨fun _ h => h, nd'⟩⟩
    rw [hI, List.take_add_one, he]; simp
  rw [List.length_map, List.take_length] at hI
  have hI' : o = layE es := hI
  refine SW.ownLe (SW.le ?_ hL) hO
  -- the order let be
  refine SW.freeze (x := "order") (a := a) rfl look2_1 ?_
  have ho1 : own_del [(a, D.lst (o.map eD)), (b, .lst [])] a = [(b, .lst [])] := by
    simp only [List.nodup_cons, List.mem_cons, List.not_mem_nil, or_false, List.nodup_nil, and_true, not_false_eq_true] at nd'
    simp [own_del, Ne.symm nd']
  rw [ho1]
  -- for price, one, other in order:
  refine SW.cons (SX.forC (σ := List Ent) (fun _ => locOf ["priced", "order", "taken"] [.lst (es.map eD), .lst (o.map eD), .ptr b]) (fun t => [(b, .lst (t.map eD))]) (fun i t => t = (o.take i).foldl kstep []) [] rfl (Le.of ⟨rfl, rfl, rfl, trivial⟩) ⟨fun _ h => h, by simp⟩ (fun _ => rfl) (ITE.list hA'.hh (PE.name rfl hk)) (fun i d t hd hI _ => ?_) fun t hI l oo hL hO => ?_)
  · obtain ⟨e, he, rfl⟩ := get_map hd
    have hol : o.length ≤ 100 := by
      rw [hI', layE, layE_len]; simp; omega
    have htl : t.length ≤ 100 := by
      have := kru_len (o.take i) []
      rw [hI]; simp only [List.length_nil, List.length_take] at this; omega
    have ht4 : ∀ x ∈ t.map (·.2), x.1 < 4 ∧ x.2 < 4 := fun x hx => by
      obtain ⟨y, hy, rfl⟩ := List.mem_map.mp hx
      have sub : ∀ (l t : List Ent), (∀ z ∈ l.foldl kstep t, z ∈ t ∨ z ∈ l) := by
        intro l
        induction l with
        | nil => intro t z hz; exact .inl hz
        | cons u r ih =>
          intro t z hz
          rcases ih _ z hz with q | q
          · unfold kstep at q
            split at q
            · rcases List.mem_append.mp q with q | q
              · exact .inl q
              · rw [List.mem_singleton.mp q]; exact .inr (.head _)
            · exact .inl q
          · exact .inr (.tail _ q)
      rw [hI] at hy
      rcases sub _ _ y hy with q | q
      · cases q
      · exact hord y (hI' ▸ List.mem_of_mem_take q)
    have he4 := hord e (hI' ▸ List.mem_of_getElem? he)
    have hst : (o.take (i + 1)).foldl kstep [] = kstep t e := by rw [hI, List.take_add_one, he]; simp
    obtain ⟨pr, one, other⟩ := e
    simp only at he4
    refine ⟨_, BT.tup hA'.hh (.cons (.name EO trivial (.inl (by subst hE; rfl))) (.cons (.name EO trivial (.inl (by subst hE; rfl))) (.cons (.name EO trivial (.inl (by subst hE; rfl))) .nil rfl) rfl) rfl) rfl rfl, ?_⟩
    have hE2 := hE
    subst hE2
    refine SW.cons (SX.assignCallNew (ds := (t.map (·.2)).map tD) 1 EO trivial (.inl rfl) gp (KP.keep G (by rfl))
      (FLE.eq (FLE.compM ["tie"] (cl := []) t eD unE (fun e => [tD e.2]) rfl rfl rfl rfl trivial (fun _ => rfl) rfl (fun e _ => toInts_eL e) (ITE.list hA'.hh (PE.name (res_ptr rfl look1) hk)) (by rw [flatMap_one, List.length_map]; omega)
          (fun C E2 e he => TURN.all (BT.name E2 (by simp) (.inl rfl)) (Le.set rfl) rfl (CB.last rfl (PE.eq (PE.sliceT (ds := (eL e).map D.int) (k := 1) (PE.name rfl rfl) (by decide) (by simp [eL]) (by simp [eL]) (fun _ _ => rfl)) rfl))))
        (by rw [flatMap_one, List.map_map]; rfl)) (fun d hd => by obtain ⟨i, _, rfl⟩ := List.mem_map.mp hd; exact flat_ints 0 _) (pieces_ok (n := n + 2) G hA' ht4) rfl rfl rfl ?_)
    have hp4 : (pieces (t.map (·.2))).length = 4 := by unfold pieces; rw [pieces_len]; rfl
    refine SW.cons (SX.ifs (b := (pieces (t.map (·.2))).getD one 0 != (pieces (t.map (·.2))).getD other 0) (PT.eq (PT.cmp (PE.itemL (PE.name rfl hk) (PE.name rfl hk) (by dsimp only; omega) (by dsimp only; omega) (item_nD (i := one) (by omega)) (fun _ _ _ => by with_unfolding_all rfl)) (PE.itemL (PE.name rfl hk) (PE.name rfl hk) (by dsimp only; omega) (by dsimp only; omega) (item_nD (i := other) (by omega)) (fun _ _ _ => by with_unfolding_all rfl)) CO.ne rfl) (by rw [Bool.eq_iff_iff]; simp only [bne_iff_ne, ne_eq]; omega)) (fun q => ?_) fun q => SW.nil (SW.nil ⟨t, ?_, Le.of ⟨rfl, rfl, rfl, trivial⟩, ⟨fun _ h => h, by simp⟩⟩))
    · refine SW.cons (SX.append (d := eD (pr, one, other)) 1 hk rfl look1 (PE.tup (.cons (PE.name rfl hk) (.cons (PE.name rfl hk) (.cons (PE.name rfl hk) .nil rfl) rfl) rfl) (by simp [eL])) (flat_ints 0 _) (by rw [List.length_map]; omega) (by decide) (by decide) rfl rfl rfl rfl rfl (SW.nil ?_))
      rw [own1]
      refine SW.nil ⟨t ++ [(pr, one, other)], ?_, Le.of ⟨rfl, rfl, rfl, trivial⟩, ⟨fun p hp => by simpa using hp, by simp⟩⟩
      rw [hst, kstep, if_pos q]
    · rw [hst, kstep, if_neg (by rw [q]; decide)]
  · rw [List.length_map, List.take_length] at hI
    refine SW.ownLe (SW.le ?_ hL) hO
    refine SW.cons (SX.ret (PE.tup (.cons (PE.name rfl hk) (.cons (PE.name (res_ptr rfl look1) hk) .nil rfl) rfl) (by simp)) ?_)
    rw [hI, hI']; rfl
end
end Mine
namespace Mine
open PySem PySem.Calls PyProof.Rows PySem.W
theorem contains_cast (l : List Nat) (x : Nat) : (l.map fun (n : Nat) => (n : Int)).contains (x : Int) = l.contains x := by
  rw [Bool.eq_iff_iff, List.contains_iff_mem, List.contains_iff_mem, List.mem_map]
  constructor
  · rintro ⟨y, hy, e⟩; rw [← Int.ofNat.inj e]; exact hy
  · intro h; exact ⟨x, h, rfl⟩
section
variable {prog : Program} {wd : World} {H0 : Heap} {A : Around} {P : Params}
theorem CO.inNats {n x : Nat} {l : List Nat} (hA : AOk n A) : CO prog wd H0 A .In (nD x) (.lst (l.map nD)) (l.contains x) := by
  have := CO.inInts (prog := prog) (wd := wd) (H0 := H0) (x := (x : Int)) (l := l.map fun (n : Nat) => (n : Int)) hA
  rw [contains_cast, List.map_map] at this
  exact this
structure PSt where
  k : Nat
  a : Addr
  b : Addr
theorem place_ok {n : Nat} (G : Gd (hd.heap_39 P) H0) (hA : AOk (n + 4) A) {es : List Ent} {first : Nat} (hz : es.length ≤ 100) (hne : ∀ k, k < 3 → outOf es (primS es first k).1 ≠ []) :
    CF prog wd H0 A (.ref 77) [.lst (es.map eD), nD first] (.lst ((primS es first 3).2.map eD)) := by
  refine CF.ofSW (exD := []) (extra := []) (names := ["priced", "first"]) (FnOk.ofK G (f := 77) (e := rfl) rfl rfl (by rfl) rfl rfl rfl) hA.d ?_ rfl (by decide) (by decide) (fun w => .nil) fun L EO => ?_
  · intro s vals hb hv
    obtain ⟨a, b, rfl⟩ := vals2 hv
    exact BindsTo.of_eq rfl
  generalize hE : callEnvC _ L 77 = env at *
  have hA' := hA.deeper env
  have hk : env.scope.kind = .function := EO.kind
  have gi : GN prog wd H0 (A.deeper env) env "insort_left" (.ref 23) := by
    subst hE
    exact GN.ofK G rfl rfl rfl rfl (by decide)
  have gl : GN prog wd H0 (A.deeper env) env "len" (.builtin "len") := by
    subst hE
    exact GN.ofB G rfl (by decide +kernel) (by decide) rfl rfl rfl rfl (by decide)
  -- inside, taken = ([first], [])
  refine SW.cons (SX.assignNewsS (ns := ["inside", "taken"]) (dss := [[nD first], []]) hA'.hh (.cons 0 (FLE.lst (.cons (PE.name rfl hk) .nil rfl) (by simp)) (by simp [D.flat]) rfl fun a => .cons 0 (FLE.lst .nil (by simp)) (by simp) rfl fun b => .nil) (by simp) (fun as hl nd => ?_) rfl rfl (by subst hE; rfl))
  obtain ⟨a, b, rfl⟩ : ∃ a b, as = [a, b] := by
    match as, hl with
    | [a, b], _ => exact ⟨a, b, rfl⟩
  simp only [ownMore, List.map_cons, List.map_nil] at nd
  have nd' : [a, b].Nodup := by
    simp only [List.nodup_cons, List.mem_cons, List.not_mem_nil, or_false, List.nodup_nil, and_true, not_false_eq_true] at nd ⊢
    exact Ne.symm nd
  refine ⟨_, .cons EO trivial (.inl (by subst hE; rfl)) (.cons EO trivial (.inl (by subst hE; rfl)) .nil), ?_⟩
  -- while len(inside) < 4
  refine SW.cons (SX.whileC (σ := PSt) (fun x => locOf ["priced", "first", "inside", "taken"] [.lst (es.map eD), nD first, .ptr x.a, .ptr x.b])
    (fun x => [(x.a, .lst ((primS es first x.k).1.map nD)), (x.b, .lst ((primS es first x.k).2.map eD))]) (fun x => x.k ≤ 3) (fun x => 3 - x.k) ⟨0, a, b⟩ (Nat.zero_le _) (Le.of ⟨rfl, rfl, rfl, rfl, trivial⟩) ⟨fun p hp => ?_, nd'⟩ ?_)
  · simp [ownMore, primS] at hp ⊢
    rcases hp with h | h <;> simp [h]
  rintro ⟨k, a, b⟩ hk3 nd
  simp only at hk3 nd
  have nd' : [a, b].Nodup := nd
  have hlen := primS_len es first k
  have hstep : primS es first (k + 1) = ((primS es first k).1 ++ [if (primS es first k).1.contains ((outOf es (primS es first k).1).headD (0, 0, 0)).2.1 then ((outOf es (primS es first k).1).headD (0, 0, 0)).2.2 else ((outOf es (primS es first k).1).headD (0, 0, 0)).2.1], (primS es first k).2 ++ [(outOf es (primS es first k).1).headD (0, 0, 0)]) := rfl
  have hnek := hne k
  generalize (primS es first k).1 = inside at *
  generalize htk : (primS es first k).2 = taken at *
  refine ⟨_, PT.cmp (PE.call gl (KP.builtin _) (.cons (PE.name (res_ptr rfl look2_1) hk) .nil rfl) (CF.lenM (f := nD) (l := inside) (by omega)) rfl rfl rfl) PE.int CO.lt rfl, fun q => ?_, fun q l o hL hO => ?_⟩
  · have hlt : k < 3 := by
      have : ((inside.length : Nat) : Int) < 4 := by simpa using q
      omega
    have hnek := hnek hlt
    -- out = []
    refine SW.cons (SX.assignNew 0 EO trivial (.inl (by subst hE; rfl)) (FLE.lst .nil (by simp)) (by simp) rfl fun c hc => ?_)
    simp only [List.map_cons, List.map_nil, List.mem_cons, List.not_mem_nil, or_false, not_or] at hc
    have nd3 : [c, a, b].Nodup := by
      rw [List.nodup_cons]
      exact ⟨by simpa using hc, nd'⟩
    refine SW.le (loc' := locOf ["priced", "first", "inside", "taken", "out"] [.lst (es.map eD), nD first, .ptr a, .ptr b, .ptr c]) ?_ (Le.of ⟨rfl, rfl, rfl, rfl, rfl, trivial⟩)
    -- for price, one, other in priced
    refine SW.cons (SX.forC (σ := List Ent) (fun _ => locOf ["priced", "first", "inside", "taken", "out"] [.lst (es.map eD), nD first, .ptr a, .ptr b, .ptr c]) (fun o => [(c, .lst (o.map eD)), (a, .lst (inside.map nD)), (b, .lst (taken.map eD))])
      (fun i o => o = ((es.take i).filter fun e => inside.contains e.2.1 != inside.contains e.2.2).foldl insE []) [] rfl (Le.refl _) ⟨fun _ h => h, nd3⟩ (fun _ => rfl) (ITE.list hA'.hh (PE.name rfl hk)) (fun i d o hd hI _ => ?_) fun o hI l oo hL hO => ?_)
    · obtain ⟨e, he, rfl⟩ := get_map hd
      have hol : o.length ≤ 100 := by
        rw [hI, layE_len]
        have := List.length_filter_le (fun e : Ent => inside.contains e.2.1 != inside.contains e.2.2) (es.take i)
        rw [List.length_take] at this
        simp only [List.length_nil]; omega
      have hst : ((es.take (i + 1)).filter fun e => inside.contains e.2.1 != inside.contains e.2.2).foldl insE [] = if (inside.contains e.2.1 != inside.contains e.2.2) then insE o e else o := by
        rw [hI, List.take_add_one, he, Option.toList_some, List.filter_append, List.foldl_append, List.filter_cons]
        split <;> simp
      obtain ⟨pr, one, other⟩ := e
      refine ⟨_, BT.tup hA'.hh (.cons (.name EO trivial (.inl (by subst hE; rfl))) (.cons (.name EO trivial (.inl (by subst hE; rfl))) (.cons (.name EO trivial (.inl (by subst hE; rfl))) .nil rfl) rfl) rfl) rfl rfl, ?_⟩
      refine SW.cons (SX.ifs (b := inside.contains one != inside.contains other) (PT.cmp (PE.cmp (PE.name (d := nD one) rfl hk) (PE.name (res_ptr rfl (look3_2 nd3)) hk) (CO.inNats hA') rfl) (PE.cmp (PE.name (d := nD other) rfl hk) (PE.name (res_ptr rfl (look3_2 nd3)) hk) (CO.inNats hA') rfl) CO.neB rfl) (fun q => ?_) fun q => SW.nil (SW.nil ⟨o, ?_, Le.of ⟨rfl, rfl, rfl, rfl, rfl, trivial⟩, ⟨fun _ h => h, nd3⟩⟩))
      · refine SW.cons (SX.insort (ls := o.map eL) (t := eL (pr, one, other)) gi (KP.keep G (by rfl)) (insort_ok (n := n + 1) G hA') hk rfl (by rw [map_eD]; exact look3_1) (PE.tup (.cons (PE.name rfl hk) (.cons (PE.name rfl hk) (.cons (PE.name rfl hk) .nil rfl) rfl) rfl) (by simp [eL])) (fun l hl => by obtain ⟨x, _, rfl⟩ := List.mem_map.mp hl; rfl) (by rw [List.length_map]; omega) (by decide) (by decide) rfl rfl rfl (by subst hE; rfl) rfl (SW.nil ?_))
        rw [own3_1 nd3, ← insE_map, ← map_eD]
        refine SW.nil ⟨insE o (pr, one, other), ?_, Le.of ⟨rfl, rfl, rfl, rfl, rfl, trivial⟩, ⟨fun _ h => h, nd3⟩⟩
        rw [hst, if_pos q]
      · rw [hst, if_neg (by simp only; rw [q]; decide)]
    rw [List.length_map, List.take_length] at hI
    have hI' : o = outOf es inside := hI
    refine SW.ownLe (SW.le ?_ hL) hO
    obtain ⟨e, rest, heo⟩ : ∃ e rest, o = e :: rest := by
      cases q : o with
      | nil => rw [q] at hI'; exact absurd hI'.symm hnek
      | cons e rest => exact ⟨e, rest, rfl⟩
    have hhd : (outOf es inside).headD (0, 0, 0) = e := by rw [← hI', heo]; rfl
    rw [hhd] at hstep
    subst heo
    obtain ⟨pr, one, other⟩ := e
    -- price, one, other = out[0]
    refine SW.cons (SX.assignT (d := eD (pr, one, other)) 1 (PE.itemL (PE.name (d := .lst (((pr, one, other) :: rest).map eD)) (res_ptr rfl look3_1) hk) PE.int (by decide) (by decide) rfl (fun _ _ _ => by with_unfolding_all rfl)) (flat_ints 0 _)
      (BT.tup hA'.hh (.cons (.name EO trivial (.inl (by subst hE; rfl))) (.cons (.name EO trivial (.inl (by subst hE; rfl))) (.cons (.name EO trivial (.inl (by subst hE; rfl))) .nil rfl) rfl) rfl) rfl rfl) rfl rfl ?_)
    -- taken.append((price, one, other))
    refine SW.cons (SX.append (d := eD (pr, one, other)) 1 hk rfl (look3_3 nd3) (PE.tup (.cons (PE.name rfl hk) (.cons (PE.name rfl hk) (.cons (PE.name rfl hk) .nil rfl) rfl) rfl) (by simp [eL])) (flat_ints 0 _) (by rw [List.length_map]; omega) (by decide) (by decide) rfl rfl rfl (by subst hE; rfl) rfl ?_)
    rw [own3_3 nd3]
    -- inside.append(..)
    refine SW.cons (SX.append (d := nD (if inside.contains one then other else one)) 0 hk rfl (look3_2 nd3) (PE.ite (b := inside.contains one) (PT.cmp (PE.name (d := nD one) rfl hk) (PE.name (res_ptr rfl (look3_2 nd3)) hk) (CO.inNats hA') rfl) (fun q => PE.eq (PE.name (d := nD other) rfl hk) (by rw [if_pos q])) fun q => PE.eq (PE.name (d := nD one) rfl hk) (by rw [if_neg (by rw [q]; decide)])) rfl (by rw [List.length_map]; omega) (by decide) (by decide) rfl rfl rfl (by subst hE; rfl) rfl (SW.nil ?_))
    rw [own3_2 nd3]
    refine ⟨⟨k + 1, a, b⟩, by simp only; omega, by simp only; omega, Le.of ⟨rfl, rfl, rfl, rfl, trivial⟩, ⟨fun p hp => ?_, nd'⟩⟩
    simp only [hstep, List.map_append, List.map_cons, List.map_nil] at hp
    simp only [List.mem_cons, List.not_mem_nil, or_false] at hp ⊢
    rcases hp with h | h
    · exact .inr (.inl h)
    · exact .inr (.inr h)
  · have : k = 3 := by
      have : ¬ ((inside.length : Nat) : Int) < 4 := by simpa using q
      omega
    subst this
    refine SW.ownLe (SW.le ?_ hL) hO
    refine SW.cons (SX.ret (PE.name (res_ptr rfl (look2_2 nd')) hk) ?_)
    rw [htk]
end
end Mine
namespace Mine
open PySem PySem.Calls PyProof.Rows PySem.W
theorem rng0 (n : Nat) : rng 0 n = (List.range n).map nD := by
  unfold rng; exact List.map_congr_left fun i _ => by rw [Int.zero_add]
def scTie (ns : List (Str × NameKind)) : Scope := { kind := .function, names := ns, isGenerator := false, isCoroutine := false, more := [] }
theorem flatMap_len1 {α β : Type} (f : α → List β) (h : ∀ a, (f a).length ≤ 1) : ∀ l : List α, (l.flatMap f).length ≤ l.length
  | [] => Nat.le_refl _
  | a :: r => by
    have h1 := flatMap_len1 f h r
    have h2 := h a
    rw [List.flatMap_cons, List.length_append, List.length_cons]; omega
theorem filter_nil_of {α : Type} {p : α → Bool} {l : List α} (h : ∀ a ∈ l, p a = false) : l.filter p = [] := by
  rw [List.filter_eq_nil_iff]; intro a ha; rw [h a ha]; decide
theorem contains_eL (l : List Ent) (x : Ent) : (l.map eL).contains (eL x) = l.contains x := by
  have inj : ∀ a b : Ent, eL a = eL b → a = b := fun a b h => by
    obtain ⟨a1, a2, a3⟩ := a
    obtain ⟨b1, b2, b3⟩ := b
    unfold eL at h
    simp only [List.cons.injEq, and_true] at h
    obtain ⟨h1, h2, h3⟩ := h
    rw [h1, Int.ofNat.inj h2, Int.ofNat.inj h3]
  rw [Bool.eq_iff_iff, List.contains_iff_mem, List.contains_iff_mem, List.mem_map]
  constructor
  · rintro ⟨y, hy, e⟩; rw [← inj _ _ e]; exact hy
  · intro h; exact ⟨x, h, rfl⟩
theorem bne_eL (x y : Ent) : (eL x != eL y) = (x != y) := by
  have := contains_eL [y] x
  simp only [List.map_cons, List.map_nil, List.contains_cons, List.contains_nil, Bool.or_false] at this
  unfold bne; rw [this]
section
variable {prog : Program} {wd : World} {H0 : Heap} {A : Around} {env : Env} {loc : Loc}
theorem CO.notInEnts {n : Nat} {x : Ent} {l : List Ent} (hA : AOk n A) : CO prog wd H0 A .NotIn (eD x) (.lst (l.map eD)) (!l.contains x) := by
  have := CO.notInTups (prog := prog) (wd := wd) (H0 := H0) (x := eL x) (l := l.map eL) hA
  rw [contains_eL, ← map_eD] at this
  exact this
theorem CO.neEnt {n : Nat} {x y : Ent} (hA : AOk n A) : CO prog wd H0 A .NotEq (eD x) (eD y) (x != y) := by
  have := CO.neTup (prog := prog) (wd := wd) (H0 := H0) (x := eL x) (y := eL y) hA
  rw [bne_eL] at this
  exact this
/-- [tie[0] for tie in ..] -/
theorem PE.heads {l : List Ent} {iter : Expr} {p1 p2 p3 p4 p5 : Pos} {k : Nat} {sc : Scope} (hsc : sc = scTie [(".0", .local), ("tie", .local)]) (hit : ITE prog wd H0 A env loc (.Name "tie" p1) iter (l.map eD)) (hs : ∀ x, foldedSetIterable iter env x = pure x) (hz : l.length ≤ 1000) :
    PE prog wd H0 A env loc (.ListComp (.Subscript (.Name "tie" p2) (.Constant (.int 0) k p3) p4) [⟨.Name "tie" p1, iter, [], 0⟩] sc p5) (.lst ((l.map (·.1)).map D.int)) := by
  subst hsc
  refine PE.eq (PE.compM ["tie"] (cl := []) l eD unE (fun e => [.int e.1]) rfl rfl rfl rfl trivial hs rfl (fun e _ => toInts_eL e) hit (by rw [flatMap_one, List.length_map]; omega)
    fun C E2 e he => TURN.all (BT.name E2 (by simp) (.inl rfl)) (Le.set rfl) rfl (CB.last rfl (PE.itemT (ds := (eL e).map D.int) (PE.name rfl rfl) PE.int (by decide) (by decide) (by simp [eL]; rfl) (j := 0) rfl (fun _ _ _ => by with_unfolding_all rfl)))) ?_
  rw [flatMap_one, List.map_map]; rfl
/-- [tie[1:] for tie in ..] -/
theorem PE.tails {l : List Ent} {iter : Expr} {p1 p2 p3 p4 p5 p6 : Pos} {k : Nat} {sc : Scope} (hsc : sc = scTie [(".0", .local), ("tie", .local)]) (hit : ITE prog wd H0 A env loc (.Name "tie" p1) iter (l.map eD)) (hs : ∀ x, foldedSetIterable iter env x = pure x) (hz : l.length ≤ 1000) :
    PE prog wd H0 A env loc (.ListComp (.Subscript (.Name "tie" p2) (.Slice (some (.Constant (.int 1) k p3)) Option.none Option.none p4) p5) [⟨.Name "tie" p1, iter, [], 0⟩] sc p6) (.lst ((l.map (·.2)).map tD)) := by
  subst hsc
  refine PE.eq (PE.compM ["tie"] (cl := []) l eD unE (fun e => [tD e.2]) rfl rfl rfl rfl trivial hs rfl (fun e _ => toInts_eL e) hit (by rw [flatMap_one, List.length_map]; omega)
    fun C E2 e he => TURN.all (BT.name E2 (by simp) (.inl rfl)) (Le.set rfl) rfl (CB.last rfl (PE.eq (PE.sliceT (ds := (eL e).map D.int) (k := 1) (PE.name rfl rfl) (by decide) (by simp [eL]) (by simp [eL]) (fun _ _ => rfl)) rfl))) ?_
  rw [flatMap_one, List.map_map]; rfl
/-- [tie[1:] for tie in .. if tie != out] -/
theorem PE.tailsBut_tie {n : Nat} (hA : AOk n A) {l : List Ent} {out : Ent} {co : Addr} {iter : Expr} {p1 p2 p3 p4 p5 p6 p7 p8 p9 : Pos} {k : Nat} {sc : Scope} (hsc : sc = scTie [(".0", .local), ("tie", .local), ("out", .free)]) (hit : ITE prog wd H0 A env loc (.Name "tie" p1) iter (l.map eD)) (hs : ∀ x, foldedSetIterable iter env x = pure x) (hz : l.length ≤ 1000)
    (hout : loc "out" = some (eD out)) (hco : env.cells.lookup ("out" : Str) = some co) (hko : env.kindOf ("out" : Str) = some .cell ∨ env.kindOf ("out" : Str) = some .free) (hcl : closureFor sc env = pure [(("out" : Str), co)]) :
    PE prog wd H0 A env loc (.ListComp (.Subscript (.Name "tie" p2) (.Slice (some (.Constant (.int 1) k p3)) Option.none Option.none p4) p5) [⟨.Name "tie" p1, iter, [.Compare (.Name "tie" p7) [.NotEq] [.Name "out" p8] p9], 0⟩] sc p6) (.lst (((l.filter (· != out)).map (·.2)).map tD)) := by
  subst hsc
  refine PE.eq (PE.compM ["tie"] (cl := [(("out" : Str), co)]) l eD unE (fun e => if e != out then [tD e.2] else []) hcl rfl rfl rfl ⟨⟨⟨_, hout⟩, hco, hko, rfl, rfl⟩, trivial⟩ hs rfl (fun e _ => toInts_eL e) hit (Nat.le_trans (flatMap_len1 _ (fun a => by split <;> simp) _) (by omega))
      fun C E2 e he => TURN.test (BT.name E2 (by simp) (.inl rfl)) (Le.set rfl) rfl (PT.cmp (PE.name rfl rfl) (PE.name (d := eD out) hout rfl) (CO.neEnt hA) rfl) fun _ => (CB.last rfl (PE.eq (PE.sliceT (ds := (eL e).map D.int) (k := 1) (PE.name rfl rfl) (by decide) (by simp [eL]) (by simp [eL]) (fun _ _ => rfl)) rfl))) ?_
  rw [flatMap_test (fun e : Ent => e != out), List.map_map]; rfl
/-- [one[1:] for one in .. if one != out] -/
theorem PE.tailsBut_one {n : Nat} (hA : AOk n A) {l : List Ent} {out : Ent} {co : Addr} {iter : Expr} {p1 p2 p3 p4 p5 p6 p7 p8 p9 : Pos} {k : Nat} {sc : Scope} (hsc : sc = scTie [(".0", .local), ("one", .local), ("out", .free)]) (hit : ITE prog wd H0 A env loc (.Name "one" p1) iter (l.map eD)) (hs : ∀ x, foldedSetIterable iter env x = pure x) (hz : l.length ≤ 1000)
    (hout : loc "out" = some (eD out)) (hco : env.cells.lookup ("out" : Str) = some co) (hko : env.kindOf ("out" : Str) = some .cell ∨ env.kindOf ("out" : Str) = some .free) (hcl : closureFor sc env = pure [(("out" : Str), co)]) :
    PE prog wd H0 A env loc (.ListComp (.Subscript (.Name "one" p2) (.Slice (some (.Constant (.int 1) k p3)) Option.none Option.none p4) p5) [⟨.Name "one" p1, iter, [.Compare (.Name "one" p7) [.NotEq] [.Name "out" p8] p9], 0⟩] sc p6) (.lst (((l.filter (· != out)).map (·.2)).map tD)) := by
  subst hsc
  refine PE.eq (PE.compM ["one"] (cl := [(("out" : Str), co)]) l eD unE (fun e => if e != out then [tD e.2] else []) hcl rfl rfl rfl ⟨⟨⟨_, hout⟩, hco, hko, rfl, rfl⟩, trivial⟩ hs rfl (fun e _ => toInts_eL e) hit (Nat.le_trans (flatMap_len1 _ (fun a => by split <;> simp) _) (by omega))
      fun C E2 e he => TURN.test (BT.name E2 (by simp) (.inl rfl)) (Le.set rfl) rfl (PT.cmp (PE.name rfl rfl) (PE.name (d := eD out) hout rfl) (CO.neEnt hA) rfl) fun _ => (CB.last rfl (PE.eq (PE.sliceT (ds := (eL e).map D.int) (k := 1) (PE.name rfl rfl) (by decide) (by simp [eL]) (by simp [eL]) (fun _ _ => rfl)) rfl))) ?_
  rw [flatMap_test (fun e : Ent => e != out), List.map_map]; rfl
end
end Mine
namespace Mine
open PySem PySem.Calls PyProof.Rows PySem.W
def mkE (p : Nat → Int) : List Ent := [(p 0, 0, 1), (p 1, 0, 2), (p 2, 1, 2), (p 3, 0, 3), (p 4, 1, 3), (p 5, 2, 3)]
def priceOf (script : List Int) (k : Nat) : Int := 1 + ((script ++ List.replicate 6 0).getD k 0).fmod 9
def lotsE (es : List Ent) : List (List Ent) := (List.range 6).flatMap fun a => (List.range a).flatMap fun b => (List.range b).flatMap fun c => [[es.getD a (0, 0, 0), es.getD b (0, 0, 0), es.getD c (0, 0, 0)]]
def goodE (es : List Ent) : List (List Ent) := (lotsE es).filter fun lot => pieces (lot.map (·.2)) == [0, 0, 0, 0]
def sumH (l : List Ent) : Int := (l.map (·.1)).sum
def maxL : List Int → Int
  | [] => 0
  | x :: r => r.foldl max x
def maxH (l : List Ent) : Int := maxL (l.map (·.1))
theorem foldl_max (r : List Int) : ∀ x : Int, (r.foldl max x = x ∨ r.foldl max x ∈ r) ∧ x ≤ r.foldl max x ∧ ∀ y ∈ r, y ≤ r.foldl max x := by
  induction r with
  | nil => intro x; exact ⟨.inl rfl, Int.le_refl _, fun _ h => nomatch h⟩
  | cons a r ih =>
    intro x
    obtain ⟨h1, h2, h3⟩ := ih (max x a)
    rw [List.foldl_cons]
    refine ⟨?_, by omega, fun y hy => ?_⟩
    · rcases h1 with h1 | h1
      · rcases Int.le_total x a with q | q
        · right; rw [h1, show max x a = a by omega]; exact .head _
        · left; rw [h1]; omega
      · exact .inr (.tail _ h1)
    · rcases List.mem_cons.mp hy with rfl | hy
      · omega
      · exact h3 y hy
theorem maxL_mem {l : List Int} (h : l ≠ []) : maxL l ∈ l := by
  cases l with
  | nil => exact absurd rfl h
  | cons x r =>
    rcases (foldl_max r x).1 with q | q
    · show r.foldl max x ∈ _
      rw [q]; exact .head _
    · exact .tail _ q
theorem maxL_ge {l : List Int} {x : Int} (h : x ∈ l) : x ≤ maxL l := by
  cases l with
  | nil => cases h
  | cons a r =>
    rcases List.mem_cons.mp h with rfl | h
    · exact (foldl_max r x).2.1
    · exact (foldl_max r a).2.2 x h
def connN (taken : List Ent) (out tie : Ent) : Bool := (dputs [] ((pieces (((taken.filter (· != out)).map (·.2)) ++ [tie.2])).map fun (h : Nat) => ((h : Int), (1 : Int)))).length == 1
def wayE (taken : List Ent) (tie : Ent) : List Ent := taken.filter fun out => connN taken out tie
def raiseE (es : List Ent) : List Ent := es.map fun e => (e.1 + 1, e.2)
abbrev sel3 : List (Nat × Int) := [(0, 1), (1, 1), (2, 1)]
abbrev Ok4 (l : List Ent) : Prop := ∀ e ∈ l, e.2.1 < 4 ∧ e.2.2 < 4
/-- what the law asks of the prices -/
structure Facts2 (es : List Ent) (first : Nat) : Prop where
  h4 : Ok4 es
  len : es.length = 6
  o4 : Ok4 (layE es)
  r4 : Ok4 (layE (raiseE es))
  olen : (layE es).length = 6
  osort : ∀ k a b, (layE es)[k]? = some a → (layE es)[k + 1]? = some b → csel sel3 (eL a) (eL b) < 0
  t4 : Ok4 (kru (layE es))
  tlen : (kru (layE es)).length = 3
  glen : (goodE es).length = 16
  min1 : ∃ lot ∈ goodE es, sumH lot = sumH (kru (layE es))
  min2 : ∀ lot ∈ goodE es, sumH (kru (layE es)) ≤ sumH lot
  max1 : ∃ lot ∈ goodE es, maxH lot = maxH (kru (layE es))
  max2 : ∀ lot ∈ goodE es, maxH (kru (layE es)) ≤ maxH lot
  pne : ∀ k, k < 3 → outOf es (primS es first k).1 ≠ []
  psum : sumH (primS es first 3).2 = sumH (kru (layE es))
  cut : ∀ out ∈ kru (layE es), ∀ t ∈ es, (pieces (((kru (layE es)).filter (· != out)).map (·.2))).getD t.2.1 0 ≠ (pieces (((kru (layE es)).filter (· != out)).map (·.2))).getD t.2.2 0 → out.1 ≤ t.1
  cyc : ∀ tie ∈ es, tie ∉ kru (layE es) → wayE (kru (layE es)) tie ≠ [] ∧ ∀ out ∈ wayE (kru (layE es)) tie, out.1 ≤ tie.1
  rsum : sumH (kru (layE (raiseE es))) = sumH (kru (layE es)) + 3
theorem sel3_lt {l : List Int} (h : l.length = 3) : ∀ p ∈ sel3, p.1 < l.length := by
  intro p hp
  rw [h]
  simp [sel3] at hp
  rcases hp with rfl | rfl | rfl <;> simp
noncomputable def lawFd (P : Params) : FuncData := match (hd.heap_39 P).lookup 82 with
  | some ⟨_, _, .func fd, _⟩ => fd
  | _ => default
noncomputable def lawScope (P : Params) : Scope := (lawFd P).scope
noncomputable def lawBody (P : Params) : List Stmt := match (lawFd P).body with
  | .stmts b => b
  | _ => []
noncomputable def lawEnv (P : Params) (L fa : Addr) (cd : Value) : Env := envOfC "law" (lawScope P) L fa cd
section
variable {prog : Program} {wd : World} {H0 : Heap} {A : Around} {P : Params}
theorem ITE.rangeN {env : Env} {loc : Loc} {t e : Expr} {x : Str} {p pos : Pos} {b : Nat} (hh : A.handled = none) (hn : GN prog wd H0 A env x (.type "range")) (hb : b < 1000) (ha : PE prog wd H0 A env loc e (nD b))
    (he : starEach [e] env = (false, eval e env) :: starEach [] env)
    (hc : eval (.Call (.Name x p) [e] [] pos) env = (do callWith pos (← eval (.Name x p) env) [] (backTo pos (starEach [e] env)) (backToKw pos (keywordEach [] env)))) :
    ITE prog wd H0 A env loc t (.Call (.Name x p) [e] [] pos) ((List.range b).map nD) := by
  have := ITE.range1 (t := t) hh hn (by omega) (by omega) ha he hc
  rw [Int.toNat_natCast, rng0] at this
  exact this
theorem CO.eqNats {n : Nat} {x y : List Nat} (hA : AOk n A) : CO prog wd H0 A .Eq (.lst (x.map nD)) (.lst (y.map nD)) (x == y) := by
  have e : ∀ l : List Nat, l.map nD = (l.map fun (n : Nat) => (n : Int)).map D.int := fun l => by rw [List.map_map]; rfl
  have := CO.eqLInts (prog := prog) (wd := wd) (H0 := H0) (x := x.map fun (n : Nat) => (n : Int)) (y := y.map fun (n : Nat) => (n : Int)) hA
  rw [← e, ← e] at this
  have q : ((x.map fun (n : Nat) => (n : Int)) == (y.map fun (n : Nat) => (n : Int))) = (x == y) := by
    rw [Bool.eq_iff_iff, beq_iff_eq, beq_iff_eq]
    constructor
    · intro h
      have inj : ∀ l m : List Nat, (l.map fun (n : Nat) => (n : Int)) = (m.map fun (n : Nat) => (n : Int)) → l = m := by
        intro l
        induction l with
        | nil => intro m h; cases m with | nil => rfl | cons _ _ => cases h
        | cons a l ih =>
          intro m h
          cases m with
          | nil => cases h
          | cons b m =>
            injection h with h1 h2
            rw [Int.ofNat.inj h1, ih m h2]
      exact inj x y h
    · intro h; rw [h]
  rw [q] at this; exact this
abbrev lotD (l : List Ent) : D := .lst (l.map eD)
def unL (d : D) : List Ent := d.toList.map unE
theorem unL_lotD (l : List Ent) : unL (lotD l) = l := by
  simp only [unL, D.toList, List.map_map]
  rw [show (unE ∘ eD) = id from funext toInts_eL, List.map_id]
theorem lotsE_mem {es : List Ent} (h : Ok4 es) (hl : es.length = 6) : ∀ lot ∈ lotsE es, lot.length = 3 ∧ Ok4 lot := fun lot hm => by
  simp only [lotsE, List.mem_flatMap, List.mem_range, List.mem_singleton] at hm
  obtain ⟨a, ha, b, hb, c, hc, rfl⟩ := hm
  have g : ∀ i, i < 6 → es.getD i (0, 0, 0) ∈ es := fun i hi => by
    have : i < es.length := by omega
    simp [this]
  refine ⟨rfl, fun e he => ?_⟩
  simp only [List.mem_cons, List.not_mem_nil, or_false] at he
  rcases he with rfl | rfl | rfl
  · exact h _ (g a ha)
  · exact h _ (g b (by omega))
  · exact h _ (g c (by omega))
end
end Mine
namespace Mine
open PySem PySem.Calls PyProof.Rows PySem.W
section
variable {prog : Program} {wd : World} {H0 : Heap} {A : Around} {P : Params}
set_option maxHeartbeats 8000000 in
theorem law2_c {n : Nat} (G : Gd (hd.heap_39 P) H0) (hA : AOk (n + 6) A) {L fa : Addr} {cd : Value} (EO : EnvOk (lawEnv P L fa cd) All) {script : List Int} (hz : script.length ≤ 63) {es order taken : List Ent} {first : Nat} (hf : (first : Int) = script.sum.fmod 4) (F : Facts2 es first) (ho : order = layE es) (ht : taken = kru (layE es)) :
    SW prog wd H0 A (lawEnv P L fa cd) All (locOf ["script", "priced", "order", "taken", "told", "whole", "good"] [.lst (script.map D.int), .lst (es.map eD), .lst (order.map eD), .lst (taken.map eD), .tc 56 (selD sel3), .int (sumH taken), .lst ((goodE es).map lotD)]) [] ((lawBody P).drop 8) (fun _ _ => False) (fun d => d = .bool true) := by
  have hk : (lawEnv P L fa cd).scope.kind = .function := rfl
  have gS : GN prog wd H0 A (lawEnv P L fa cd) "sum" (.builtin "sum") := GN.ofB G rfl (by decide +kernel) (by decide) rfl rfl rfl rfl (by decide)
  have gL : GN prog wd H0 A (lawEnv P L fa cd) "len" (.builtin "len") := GN.ofB G rfl (by decide +kernel) (by decide) rfl rfl rfl rfl (by decide)
  have gm : GN prog wd H0 A (lawEnv P L fa cd) "min" (.builtin "min") := GN.ofB G rfl (by decide +kernel) (by decide) rfl rfl rfl rfl (by decide)
  have gM : GN prog wd H0 A (lawEnv P L fa cd) "max" (.builtin "max") := GN.ofB G rfl (by decide +kernel) (by decide) rfl rfl rfl rfl (by decide)
  have gF : GN prog wd H0 A (lawEnv P L fa cd) "_law_from_a_place" (.ref 77) := GN.ofK G rfl rfl rfl rfl (by decide)
  have gB : GN prog wd H0 A (lawEnv P L fa cd) "_law_by_price" (.ref 70) := GN.ofK G rfl rfl rfl rfl (by decide)
  have gPi : GN prog wd H0 A (lawEnv P L fa cd) "_law_pieces" (.ref 65) := GN.ofK G rfl rfl rfl rfl (by decide)
  have hlen := F.len; have Ftlen := F.tlen; have Fmin1 := F.min1; have Fmin2 := F.min2; have Fmax1 := F.max1; have Fmax2 := F.max2; have Fpsum := F.psum; have Fcut := F.cut; have Fcyc := F.cyc; have Frsum := F.rsum; have Fglen := F.glen; have Ft4 := F.t4
  rw [← ht] at Ftlen Fmin1 Fmin2 Fmax1 Fmax2 Fpsum Fcut Fcyc Frsum Ft4
  have good3 : ∀ lot ∈ goodE es, lot.length = 3 ∧ Ok4 lot := fun lot h => lotsE_mem F.h4 hlen lot (List.mem_filter.mp h).1
  have tne : taken.map (·.1) ≠ [] := by intro e; rw [List.map_eq_nil_iff] at e; rw [e] at Ftlen; cases Ftlen
  -- if len(good) != 16 or len(taken) != 3 or whole != min(..)
  have lotsum : ∀ (f : List Ent → Int), PE prog wd H0 A (lawEnv P L fa cd) (locOf ["script", "priced", "order", "taken", "told", "whole", "good"] [.lst (script.map D.int), .lst (es.map eD), .lst (order.map eD), .lst (taken.map eD), .tc 56 (selD sel3), .int (sumH taken), .lst ((goodE es).map lotD)]) (.Name "good" ⟨0, 0, 0, 0⟩) (.lst ((goodE es).map lotD)) := fun _ => PE.name rfl hk
  refine SW.cons (SX.ifs (PT.or3 (PT.cmp (PE.call gL (KP.builtin _) (.cons (PE.name rfl hk) .nil rfl) (CF.lenM (f := lotD) (l := goodE es) (by omega)) rfl rfl rfl) PE.int CO.ne rfl) (fun _ => PT.cmp (PE.call gL (KP.builtin _) (.cons (PE.name rfl hk) .nil rfl) (CF.lenM (f := eD) (l := taken) (by omega)) rfl rfl rfl) PE.int CO.ne rfl)
    fun _ _ => PT.cmp (PE.name rfl hk) (PE.call gm (KP.builtin _) (.cons (PE.eq (c := .lst (((goodE es).map sumH).map D.int)) (PE.compM ["lot"] (cl := []) (goodE es) lotD unL (fun lot => [.int (sumH lot)]) rfl rfl rfl rfl trivial (fun _ => rfl) rfl (fun lot _ => unL_lotD lot) (ITE.list hA.hh (PE.name rfl hk)) (by rw [flatMap_one, List.length_map]; omega)
        (fun C E2 lot hlot => TURN.all (BT.name E2 (by simp) (.inl rfl)) (Le.set rfl) rfl (CB.last rfl (PE.call (GN.ofB G rfl (by decide +kernel) (by decide) rfl rfl rfl rfl (by decide)) (KP.builtin _) (.cons (PE.heads rfl (ITE.list hA.hh (PE.name rfl rfl)) (fun _ => rfl) (by rw [(good3 lot hlot).1]; decide)) .nil rfl) (CF.sum hA.hh) rfl rfl rfl)))) (by rw [flatMap_one, List.map_map]; rfl)) .nil rfl) (CF.minL (M := sumH taken) hA.hh ?_ ?_) rfl rfl rfl) CO.ne rfl) (fun e => absurd e ?_) fun _ => SW.nil ?_)
  · obtain ⟨lot, h1, h2⟩ := Fmin1
    exact List.mem_map.mpr ⟨lot, h1, h2⟩
  · intro a ha
    obtain ⟨lot, h1, rfl⟩ := List.mem_map.mp ha
    exact Fmin2 lot h1
  · rw [Fglen, Ftlen]; simp
  -- if max(..) != min(..)
  refine SW.cons (SX.ifs (PT.cmp (PE.call gM (KP.builtin _) (.cons (PE.heads rfl (ITE.list hA.hh (PE.name rfl hk)) (fun _ => rfl) (by omega)) .nil rfl) (CF.maxL (M := maxH taken) hA.hh (maxL_mem tne) (fun a ha => maxL_ge ha)) rfl rfl rfl)
    (PE.call gm (KP.builtin _) (.cons (PE.eq (c := .lst (((goodE es).map maxH).map D.int)) (PE.compM ["lot"] (cl := []) (goodE es) lotD unL (fun lot => [.int (maxH lot)]) rfl rfl rfl rfl trivial (fun _ => rfl) rfl (fun lot _ => unL_lotD lot) (ITE.list hA.hh (PE.name rfl hk)) (by rw [flatMap_one, List.length_map]; omega)
        (fun C E2 lot hlot => TURN.all (BT.name E2 (by simp) (.inl rfl)) (Le.set rfl) rfl (CB.last rfl (PE.call (GN.ofB G rfl (by decide +kernel) (by decide) rfl rfl rfl rfl (by decide)) (KP.builtin _) (.cons (PE.heads rfl (ITE.list hA.hh (PE.name rfl rfl)) (fun _ => rfl) (by rw [(good3 lot hlot).1]; decide)) .nil rfl) (CF.maxL (M := maxH lot) hA.hh (maxL_mem (by
          intro e; rw [List.map_eq_nil_iff] at e; have := (good3 lot hlot).1; rw [e] at this; cases this)) (fun a ha => maxL_ge ha)) rfl rfl rfl)))) (by rw [flatMap_one, List.map_map]; rfl)) .nil rfl) (CF.minL (M := maxH taken) hA.hh ?_ ?_) rfl rfl rfl) CO.ne rfl) (fun e => absurd e (by simp)) fun _ => SW.nil ?_)
  · obtain ⟨lot, h1, h2⟩ := Fmax1
    exact List.mem_map.mpr ⟨lot, h1, h2⟩
  · intro a ha
    obtain ⟨lot, h1, rfl⟩ := List.mem_map.mp ha
    exact Fmax2 lot h1
  -- if sum(.. _law_from_a_place ..) != whole
  refine SW.cons (SX.ifs (PT.cmp (PE.call gS (KP.builtin _) (.cons (PE.heads (l := (primS es first 3).2) rfl (ITE.list hA.hh (PE.call gF (KP.keep G (by rfl)) (.cons (PE.name rfl hk) (.cons (PE.eq (PE.bin (PE.call gS (KP.builtin _) (.cons (PE.name rfl hk) .nil rfl) (CF.sum hA.hh) rfl rfl rfl) PE.int (BO.mod (by decide))) (congrArg D.int hf.symm)) .nil rfl) rfl) (place_ok (n := n + 2) (first := first) G hA (by omega) F.pne) rfl rfl rfl)) (fun _ => rfl) (by rw [(primS_len es first 3).2]; decide)) .nil rfl) (CF.sum hA.hh) rfl rfl rfl) (PE.name rfl hk) CO.ne rfl) (fun e => absurd e ?_) fun _ => SW.nil ?_)
  · have : ((primS es first 3).2.map (·.1)).sum = sumH taken := Fpsum
    rw [this]; simp
  -- for out in taken
  refine SW.cons (SX.forC (σ := Unit) (fun _ => locOf ["script", "priced", "order", "taken", "told", "whole", "good"] [.lst (script.map D.int), .lst (es.map eD), .lst (order.map eD), .lst (taken.map eD), .tc 56 (selD sel3), .int (sumH taken), .lst ((goodE es).map lotD)]) (fun _ => []) (fun _ _ => True) () trivial (Le.refl _) ⟨fun _ h => h, List.nodup_nil⟩ (fun _ => rfl)
    (ITE.list hA.hh (PE.name rfl hk)) (fun i d x hd _ _ => ?_) fun x _ l o hL hO => SW.ownLe (SW.le ?_ hL) hO)
  · obtain ⟨out, hout, rfl⟩ := get_map hd
    have hom := List.mem_of_getElem? hout
    have hcut := Fcut out hom
    have hpl : (pieces ((taken.filter (· != out)).map (·.2))).length = 4 := by unfold pieces; rw [pieces_len]; rfl
    refine ⟨_, BT.name EO trivial (.inr rfl), ?_⟩
    refine SW.cons (SX.assign EO trivial (.inr rfl) (PE.call gPi (KP.keep G (by rfl)) (.cons (PE.tailsBut_tie (out := out) hA rfl (ITE.list hA.hh (PE.name rfl hk)) (fun _ => rfl) (by omega) rfl rfl (.inl rfl) rfl) .nil rfl) (pieces_ok (n := n + 5) G hA (fun t ht' => by obtain ⟨e, he, rfl⟩ := List.mem_map.mp ht'; exact Ft4 e (List.mem_filter.mp he).1)) rfl rfl rfl) rfl ?_)
    generalize pieces ((taken.filter (· != out)).map (·.2)) = piece at hcut hpl ⊢
    refine SW.cons (SX.ifs (PT.cmp (PE.compM ["price", "one", "other"] es eD unE (fun e => if (piece.getD e.2.1 0 != piece.getD e.2.2 0) && decide (e.1 < out.1) then [.int 1] else []) rfl rfl rfl rfl ⟨⟨⟨_, rfl⟩, rfl, .inl rfl, rfl, rfl⟩, ⟨⟨_, rfl⟩, rfl, .inl rfl, rfl, rfl⟩, trivial⟩ (fun _ => rfl) rfl (fun e _ => toInts_eL e) (ITE.list hA.hh (PE.name rfl hk)) (Nat.le_trans (flatMap_len1 _ (fun a => by split <;> simp) _) (by omega))
      fun C E2 e he => ?_) (PE.lst .nil (by simp)) (CO.neNil (k := 0) hA (fun d hd => ?_)) rfl) (fun q => absurd q ?_) fun _ => SW.nil (SW.nil ⟨(), trivial, Le.of ⟨rfl, rfl, rfl, rfl, rfl, rfl, rfl, trivial⟩, ⟨fun _ h => h, List.nodup_nil⟩⟩))
    · have he4 := F.h4 e he
      obtain ⟨pr, one, other⟩ := e
      simp only at he4
      exact TURN.test (BT.tup hA.hh (.cons (.name E2 (by simp) (.inl rfl)) (.cons (.name E2 (by simp) (.inl rfl)) (.cons (.name E2 (by simp) (.inl rfl)) .nil rfl) rfl) rfl) rfl rfl) ((Le.set rfl).trans ((Le.set rfl).trans (Le.set rfl))) rfl
        (PT.and2 (PT.eq (PT.cmp (PE.itemL (PE.name rfl rfl) (PE.name (d := nD one) rfl rfl) (by omega) (by omega) (item_nD (i := one) (by omega)) (fun _ _ _ => by with_unfolding_all rfl)) (PE.itemL (PE.name rfl rfl) (PE.name (d := nD other) rfl rfl) (by omega) (by omega) (item_nD (i := other) (by omega)) (fun _ _ _ => by with_unfolding_all rfl)) CO.ne rfl) (by rw [Bool.eq_iff_iff]; simp only [bne_iff_ne, ne_eq]; omega)) fun _ => PT.cmp (PE.name (d := .int pr) rfl rfl) (PE.itemT (ds := (eL out).map D.int) (d := .int out.1) (j := 0) (PE.name rfl rfl) PE.int (by decide) (by decide) (by simp [eL]; rfl) rfl (fun _ _ _ => by with_unfolding_all rfl)) CO.lt rfl) fun _ => CB.last rfl PE.int
    · obtain ⟨w, _, hd⟩ := List.mem_flatMap.mp hd
      split at hd
      · rw [List.mem_singleton.mp hd]; rfl
      · cases hd
    · have : (es.flatMap fun e => if (piece.getD e.2.1 0 != piece.getD e.2.2 0) && decide (e.1 < out.1) then [D.int 1] else []) = [] := by
        rw [flatMap_test (fun e : Ent => (piece.getD e.2.1 0 != piece.getD e.2.2 0) && decide (e.1 < out.1)), filter_nil_of, List.map_nil]
        intro e he
        by_cases c : piece.getD e.2.1 0 = piece.getD e.2.2 0
        · rw [c]; simp
        · have := hcut e he c
          rw [show decide (e.1 < out.1) = false by simp only [decide_eq_false_iff_not]; omega, Bool.and_false]
      rw [this]; decide
  -- for tie in priced
  refine SW.cons (SX.forC (σ := Unit) (fun _ => locOf ["script", "priced", "order", "taken", "told", "whole", "good"] [.lst (script.map D.int), .lst (es.map eD), .lst (order.map eD), .lst (taken.map eD), .tc 56 (selD sel3), .int (sumH taken), .lst ((goodE es).map lotD)]) (fun _ => []) (fun _ _ => True) () trivial (Le.refl _) ⟨fun _ h => h, List.nodup_nil⟩ (fun _ => rfl)
    (ITE.list hA.hh (PE.name rfl hk)) (fun i d x hd _ _ => ?_) fun x _ l o hL hO => SW.ownLe (SW.le ?_ hL) hO)
  · obtain ⟨tie, htie, rfl⟩ := get_map hd
    have htm := List.mem_of_getElem? htie
    have ht4 := F.h4 tie htm
    refine ⟨_, BT.name EO trivial (.inr rfl), ?_⟩
    refine SW.cons (SX.ifs (PT.cmp (PE.name rfl hk) (PE.name rfl hk) (CO.notInEnts hA) rfl) (fun q => ?_) fun q => SW.nil (SW.nil ⟨(), trivial, Le.of ⟨rfl, rfl, rfl, rfl, rfl, rfl, rfl, trivial⟩, ⟨fun _ h => h, List.nodup_nil⟩⟩))
    obtain ⟨hw1, hw2⟩ := Fcyc tie htm (by simpa using q)
    -- way
    refine SW.cons (SX.assignComp ["out"] taken eD unE (fun out => if connN taken out tie then [eD out] else []) EO trivial (.inl rfl) rfl rfl rfl rfl ⟨⟨⟨_, rfl⟩, rfl, .inl rfl, rfl, rfl⟩, ⟨⟨_, rfl⟩, rfl, .inl rfl, rfl, rfl⟩, trivial⟩ (fun _ => rfl) rfl (fun e _ => toInts_eL e) (ITE.list hA.hh (PE.name rfl hk)) (Nat.le_trans (flatMap_len1 _ (fun a => by split <;> simp) _) (by omega))
      (fun C E2 out hout => ?_) rfl ?_)
    · have hpl : (pieces (((taken.filter (· != out)).map (·.2)) ++ [tie.2])).length = 4 := by unfold pieces; rw [pieces_len]; rfl
      refine TURN.test (BT.name E2 (by simp) (.inr rfl)) (Le.set rfl) rfl (PT.eq (PT.cmp (PE.call (GN.ofB G rfl (by decide +kernel) (by decide) rfl rfl rfl rfl (by decide)) (KP.builtin _) (.cons (PE.call (GN.ofB G rfl (by decide +kernel) (by decide) rfl rfl rfl rfl (by decide)) (KP.type _) (.cons (PE.eq (c := .lst (((pieces (((taken.filter (· != out)).map (·.2)) ++ [tie.2])).map fun (h : Nat) => ((h : Int), (1 : Int))).map fun p => .tup [.int p.1, .int p.2])) (PE.compM ["here"] (cl := []) (pieces (((taken.filter (· != out)).map (·.2)) ++ [tie.2])) nD unN (fun h => [.tup [nD h, .int 1]]) rfl rfl rfl rfl trivial (fun _ => rfl) rfl (fun a _ => by simp [unN, D.toInt])
          (ITE.list hA.hh (PE.call (GN.ofK G rfl rfl rfl rfl (by decide)) (KP.keep G (by rfl)) (.cons (PE.eq (c := .lst ((((taken.filter (· != out)).map (·.2)) ++ [tie.2]).map tD)) (PE.bin (PE.tailsBut_one (out := out) hA rfl (ITE.list hA.hh (PE.name rfl rfl)) (fun _ => rfl) (by omega) rfl rfl (.inl rfl) rfl) (PE.lst (.cons (PE.sliceT (ds := (eL tie).map D.int) (k := 1) (PE.name rfl rfl) (by decide) (by simp [eL]) (by simp [eL]) (fun _ _ => rfl)) .nil rfl) (by simp)) (BO.addL ?_)) ?_) .nil rfl) (pieces_ok (n := n + 5) G hA ?_) rfl rfl rfl))
          (by rw [flatMap_one, List.length_map, hpl]; decide)
          (fun C3 E3 h hh => TURN.all (BT.name E3 (by simp) (.inl rfl)) (Le.set rfl) rfl (CB.last rfl (PE.tup (.cons (PE.name rfl rfl) (.cons PE.int .nil rfl) rfl) (by simp))))) ?_) .nil rfl) (CF.dict hA.hh G.lim (by rw [List.length_map, hpl]; decide)) rfl rfl rfl) .nil rfl) (CF.lenD ?_) rfl rfl rfl) PE.int CO.eq rfl) ?_) fun _ => CB.last rfl (PE.name rfl rfl)
      · simp only [List.length_map, List.length_cons, List.length_nil]
        have := List.length_filter_le (· != out) taken
        omega
      · simp [List.map_append, tL, eL]
      · intro t ht'
        rcases List.mem_append.mp ht' with h | h
        · obtain ⟨e, he, rfl⟩ := List.mem_map.mp h
          exact Ft4 e (List.mem_filter.mp he).1
        · rw [List.mem_singleton.mp h]; exact ht4
      · rw [flatMap_one, List.map_map]; rfl
      · have key : ∀ (ps l : List (Int × Int)), (dputs l ps).length ≤ l.length + ps.length := by
          intro ps
          induction ps with
          | nil => intro l; exact Nat.le_refl _
          | cons p r ih =>
            intro l
            have h1 := ih (dput l p.1 p.2)
            have h2 := dput_len l p.1 p.2
            have h3 : dputs l (p :: r) = dputs (dput l p.1 p.2) r := rfl
            rw [h3, List.length_cons]; omega
        have := key ((pieces (((taken.filter (· != out)).map (·.2)) ++ [tie.2])).map fun (h : Nat) => ((h : Int), (1 : Int))) []
        rw [List.length_map, hpl] at this
        simp only [List.length_nil] at this; omega
      · unfold connN
        rw [Bool.eq_iff_iff]; simp only [beq_iff_eq]; omega
    rw [flatMap_test (fun out : Ent => connN taken out tie), show (taken.filter fun out => connN taken out tie) = wayE taken tie from rfl]
    generalize hwy : wayE taken tie = way at hw1 hw2 ⊢
    have hwl : way.length ≤ 3 := by rw [← hwy, ← Ftlen]; exact List.length_filter_le ..
    -- if way == [] or [..] != []
    refine SW.cons (SX.ifs (PT.or2 (PT.cmp (PE.name rfl hk) (PE.lst .nil (by simp)) (CO.eqNil (k := 1) hA (fun d hd => by obtain ⟨e, _, rfl⟩ := List.mem_map.mp hd; exact plain_ints 0 _)) rfl) fun _ => PT.cmp (PE.compM ["out"] way eD unE (fun out => if decide (tie.1 < out.1) then [eD out] else []) rfl rfl rfl rfl ⟨⟨⟨_, rfl⟩, rfl, .inl rfl, rfl, rfl⟩, trivial⟩ (fun _ => rfl) rfl (fun e _ => toInts_eL e) (ITE.list hA.hh (PE.name rfl hk)) (Nat.le_trans (flatMap_len1 _ (fun a => by split <;> simp) _) (by omega))
      fun C E2 out hout => TURN.test (BT.name E2 (by simp) (.inl rfl)) (Le.set rfl) rfl (PT.cmp (PE.itemT (ds := (eL out).map D.int) (d := .int out.1) (j := 0) (PE.name rfl rfl) PE.int (by decide) (by decide) (by simp [eL]; rfl) rfl (fun _ _ _ => by with_unfolding_all rfl)) (PE.itemT (ds := (eL tie).map D.int) (d := .int tie.1) (j := 0) (PE.name rfl rfl) PE.int (by decide) (by decide) (by simp [eL]; rfl) rfl (fun _ _ _ => by with_unfolding_all rfl)) CO.gt rfl) fun _ => CB.last rfl (PE.name rfl rfl)) (PE.lst .nil (by simp)) (CO.neNil (k := 1) hA (fun d hd => ?_)) rfl) (fun q => absurd q ?_) fun _ => SW.nil (SW.nil (SW.nil ⟨(), trivial, Le.of ⟨rfl, rfl, rfl, rfl, rfl, rfl, rfl, trivial⟩, ⟨fun _ h => h, List.nodup_nil⟩⟩)))
    · obtain ⟨w, _, hd⟩ := List.mem_flatMap.mp hd
      split at hd
      · rw [List.mem_singleton.mp hd]; exact plain_ints 0 _
      · cases hd
    · have : (way.flatMap fun out => if decide (tie.1 < out.1) then [eD out] else []) = [] := by
        rw [flatMap_test (fun out : Ent => decide (tie.1 < out.1)), filter_nil_of, List.map_nil]
        intro e he
        have := hw2 e he
        simp only [decide_eq_false_iff_not]; omega
      rw [this]
      cases way with
      | nil => exact absurd rfl hw1
      | cons _ _ => simp
  -- raised
  refine SW.cons (SX.assignComp ["price", "one", "other"] (cl := []) es eD unE (fun e => [eD (e.1 + 1, e.2)]) EO trivial (.inl rfl) rfl rfl rfl rfl trivial (fun _ => rfl) rfl (fun e _ => toInts_eL e) (ITE.list hA.hh (PE.name rfl hk)) (by rw [flatMap_one, List.length_map]; omega)
    (fun C E2 e he => TURN.all (BT.tup hA.hh (.cons (.name E2 (by simp) (.inl rfl)) (.cons (.name E2 (by simp) (.inl rfl)) (.cons (.name E2 (by simp) (.inl rfl)) .nil rfl) rfl) rfl) rfl rfl) ((Le.set rfl).trans ((Le.set rfl).trans (Le.set rfl))) rfl (CB.last rfl (PE.tup (.cons (PE.bin (PE.name (d := .int e.1) rfl rfl) PE.int BO.add) (.cons (PE.name rfl rfl) (.cons (PE.name rfl rfl) .nil rfl) rfl) rfl) (by simp [eL])))) rfl ?_)
  rw [flatMap_one, show es.map (fun e => eD (e.1 + 1, e.2)) = (raiseE es).map eD by unfold raiseE; rw [List.map_map]; rfl]
  have r4 : Ok4 (raiseE es) := fun e he => by
    obtain ⟨e', he', rfl⟩ := List.mem_map.mp he
    exact F.h4 e' he'
  have rl : (raiseE es).length = 6 := by unfold raiseE; rw [List.length_map]; exact hlen
  -- return
  refine SW.cons (SX.ret (PE.cmp (PE.call gS (KP.builtin _) (.cons (PE.heads (l := kru (layE (raiseE es))) rfl (ITE.list hA.hh (PE.itemT (PE.call gB (KP.keep G (by rfl)) (.cons (PE.name rfl hk) .nil rfl) (price_ok (n := n + 2) G hA r4 (by omega) F.r4) rfl rfl rfl) PE.int (by decide) (by decide) (j := 1) rfl rfl (fun _ _ _ => by with_unfolding_all rfl))) (fun _ => rfl) ?_) .nil rfl) (CF.sum hA.hh) rfl rfl rfl) (PE.bin (PE.name rfl hk) PE.int BO.add) CO.eq rfl) ?_)
  · have h1 := kru_len (layE (raiseE es)) []
    have h2 := layE_len (raiseE es) []
    simp only [List.length_nil] at h1 h2
    unfold layE at h1 ⊢
    unfold kru
    omega
  · have : ((kru (layE (raiseE es))).map (·.1)).sum = sumH taken + 3 := Frsum
    rw [this]; simp
end
end Mine
namespace Mine
open PySem PySem.Calls PyProof.Rows PySem.W
section
variable {prog : Program} {wd : World} {H0 : Heap} {A : Around} {P : Params}
set_option maxHeartbeats 8000000 in
theorem law2_b {n : Nat} (G : Gd (hd.heap_39 P) H0) (hA : AOk (n + 6) A) {L fa : Addr} {cd : Value} (EO : EnvOk (lawEnv P L fa cd) All) {script : List Int} (hz : script.length ≤ 63) {es : List Ent} {first : Nat} (hf : (first : Int) = script.sum.fmod 4) (F : Facts2 es first) :
    SW prog wd H0 A (lawEnv P L fa cd) All (locOf ["script", "priced"] [.lst (script.map D.int), .lst (es.map eD)]) [] ((lawBody P).drop 2) (fun _ _ => False) (fun d => d = .bool true) := by
  have hk : (lawEnv P L fa cd).scope.kind = .function := rfl
  have hlen := F.len
  have gB : GN prog wd H0 A (lawEnv P L fa cd) "_law_by_price" (.ref 70) := GN.ofK G rfl rfl rfl rfl (by decide)
  have gC : GN prog wd H0 A (lawEnv P L fa cd) "TupleComp" (.ref 56) := GN.ofK G rfl rfl rfl rfl (by decide)
  have gS : GN prog wd H0 A (lawEnv P L fa cd) "sum" (.builtin "sum") := GN.ofB G rfl (by decide +kernel) (by decide) rfl rfl rfl rfl (by decide)
  have gR : GN prog wd H0 A (lawEnv P L fa cd) "range" (.type "range") := GN.ofB G rfl (by decide +kernel) (by decide) rfl rfl rfl rfl (by decide)
  -- order, taken
  refine SW.cons (SX.assignTF (PE.call gB (KP.keep G (by rfl)) (.cons (PE.name rfl hk) .nil rfl) (price_ok (n := n + 2) G hA F.h4 (by omega) F.o4) rfl rfl rfl) (BT.tup hA.hh (.cons (.name EO trivial (.inr rfl)) (.cons (.name EO trivial (.inr rfl)) .nil rfl) rfl) rfl rfl) rfl rfl ?_)
  have Folen := F.olen; have Fosort := F.osort; have Ftlen := F.tlen
  have law2_c' := @law2_c prog wd H0 A P n G hA L fa cd EO script hz es _ _ first hf F rfl rfl
  generalize kru (layE es) = taken at *
  generalize layE es = order at *
  -- told
  refine SW.cons (SX.assign EO trivial (.inr rfl) (PE.call gC (KP.keep G (by rfl)) (.cons (PE.lst (.cons (PE.tup (.cons PE.int (.cons PE.int .nil rfl) rfl) (by simp)) (.cons (PE.tup (.cons PE.int (.cons PE.int .nil rfl) rfl) (by simp)) (.cons (PE.tup (.cons PE.int (.cons PE.int .nil rfl) rfl) (by simp)) .nil rfl) rfl) rfl) (by simp)) .nil rfl) (make_ok G hA) rfl rfl rfl) rfl ?_)
  refine SW.le (loc' := locOf ["script", "priced", "order", "taken", "told"] [.lst (script.map D.int), .lst (es.map eD), .lst (order.map eD), .lst (taken.map eD), .tc 56 (selD sel3)]) ?_ (Le.of ⟨rfl, rfl, rfl, rfl, rfl, trivial⟩)
  -- if [k for k in range(1, 6) if told.compare(order[k - 1], order[k]) >= 0] != []
  have go : ∀ i : Nat, i < 6 → (order.map eD)[i]? = some (eD (order.getD i (0, 0, 0))) := fun i hi => by
    rw [List.getElem?_map]; simp [show i < order.length by omega]
  refine SW.cons (SX.ifs (PT.cmp (PE.compM ["k"] (List.range 5) (fun i => .int (1 + (i : Int))) (fun d => (d.toInt - 1).toNat) (fun i => if decide (0 ≤ csel sel3 (eL (order.getD i (0, 0, 0))) (eL (order.getD (i + 1) (0, 0, 0)))) then [.int (1 + (i : Int))] else []) rfl rfl rfl rfl ⟨⟨⟨_, rfl⟩, rfl, .inl rfl, rfl, rfl⟩, ⟨⟨_, rfl⟩, rfl, .inl rfl, rfl, rfl⟩, trivial⟩ (fun _ => rfl) rfl (fun i _ => by simp only [D.toInt]; omega)
    (ITE.eq (ITE.range2 (a := 1) (b := 6) hA.hh gR (by decide) (by decide) (by decide) (by decide) PE.int PE.int rfl rfl rfl rfl) rfl) (Nat.le_trans (flatMap_len1 _ (fun a => by split <;> simp) _) (by simp))
    fun C E2 i hi => ?_) (PE.lst .nil (by simp)) (CO.neNil (k := 0) hA (fun d hd => ?_)) rfl) (fun e => absurd e ?_) fun _ => SW.nil ?_)
  · have hi5 : i < 5 := List.mem_range.mp hi
    refine TURN.test (BT.name E2 (by simp) (.inl rfl)) (Le.set rfl) rfl (PT.cmp (PE.meth G cls_ok (by rfl) (PE.name rfl rfl) (.cons (PE.itemL (PE.name rfl rfl) (PE.bin (PE.name (d := .int (1 + (i : Int))) rfl rfl) PE.int BO.sub) (by omega) (by omega) (d := eD (order.getD i (0, 0, 0))) ?_ (fun _ _ _ => by with_unfolding_all rfl)) (.cons (PE.itemL (PE.name rfl rfl) (PE.name (d := .int (1 + (i : Int))) rfl rfl) (by omega) (by omega) (d := eD (order.getD (i + 1) (0, 0, 0))) ?_ (fun _ _ _ => by with_unfolding_all rfl)) .nil rfl) rfl) (compare_ok (n := n + 5) G hA (sel3_lt rfl) rfl (by simp [eL])) rfl rfl rfl) PE.int CO.ge rfl) fun _ => CB.last rfl (PE.name rfl rfl)
    · rw [show ((1 : Int) + i - 1).toNat = i by omega]; exact go i (by omega)
    · rw [show ((1 : Int) + i).toNat = i + 1 by omega]; exact go (i + 1) (by omega)
  · obtain ⟨w, _, hd⟩ := List.mem_flatMap.mp hd
    split at hd
    · rw [List.mem_singleton.mp hd]; rfl
    · cases hd
  · have : ((List.range 5).flatMap fun i => if decide (0 ≤ csel sel3 (eL (order.getD i (0, 0, 0))) (eL (order.getD (i + 1) (0, 0, 0)))) then [D.int (1 + (i : Int))] else []) = [] := by
      rw [flatMap_test (fun i : Nat => decide (0 ≤ csel sel3 (eL (order.getD i (0, 0, 0))) (eL (order.getD (i + 1) (0, 0, 0))))), filter_nil_of, List.map_nil]
      intro i hi
      have hi5 : i < 5 := List.mem_range.mp hi
      have ga : ∀ i, i < 6 → order[i]? = some (order.getD i (0, 0, 0)) := fun i hi => by simp [show i < order.length by omega]
      have := Fosort i _ _ (ga i (by omega)) (ga (i + 1) (by omega))
      simp only [decide_eq_false_iff_not]; omega
    rw [this]; decide
  -- whole
  refine SW.cons (SX.assign EO trivial (.inl rfl) (PE.call gS (KP.builtin _) (.cons (PE.heads rfl (ITE.list hA.hh (PE.name rfl hk)) (fun _ => rfl) (by omega)) .nil rfl) (CF.sum hA.hh) rfl rfl rfl) rfl ?_)
  -- lots
  have gp : ∀ i : Nat, i < 6 → (es.map eD)[((i : Int)).toNat]? = some (eD (es.getD i (0, 0, 0))) := fun i hi => by
    rw [Int.toNat_natCast, List.getElem?_map]; simp [show i < es.length by omega]
  have eL' : ((List.range 6).flatMap fun a => (List.range a).flatMap fun b => (List.range b).flatMap fun c => [lotD [es.getD a (0, 0, 0), es.getD b (0, 0, 0), es.getD c (0, 0, 0)]]) = (lotsE es).map lotD := rfl
  refine SW.cons (SX.assignComp ["a", "b", "c"] (List.range 6) nD unN (fun a => (List.range a).flatMap fun b => (List.range b).flatMap fun c => [lotD [es.getD a (0, 0, 0), es.getD b (0, 0, 0), es.getD c (0, 0, 0)]]) EO trivial (.inl rfl) rfl rfl rfl rfl ⟨⟨⟨_, rfl⟩, rfl, .inl rfl, rfl, rfl⟩, trivial⟩ (fun _ => rfl) rfl (fun a _ => by simp [unN, D.toInt])
    (ITE.rangeN (b := 6) hA.hh gR (by decide) PE.int rfl rfl) (by rw [eL', List.length_map]; exact Nat.le_of_ble_eq_true rfl)
    (fun C E2 a ha => TURN.all (BT.name E2 (by simp) (.inl rfl)) (Le.set rfl) rfl (CB.nextM (List.range a) nD unN (fun b => (List.range b).flatMap fun c => [lotD [es.getD a (0, 0, 0), es.getD b (0, 0, 0), es.getD c (0, 0, 0)]]) rfl rfl (fun _ => rfl) (fun a _ => by simp [unN, D.toInt])
      (ITE.rangeN hA.hh (GN.ofB G rfl (by decide +kernel) (by decide) rfl rfl rfl rfl (by decide)) (by have := List.mem_range.mp ha; omega) (PE.name rfl rfl) rfl rfl)
      fun b hb => TURN.all (BT.name E2 (by simp) (.inl rfl)) (Le.set rfl) rfl (CB.nextM (List.range b) nD unN (fun c => [lotD [es.getD a (0, 0, 0), es.getD b (0, 0, 0), es.getD c (0, 0, 0)]]) rfl rfl (fun _ => rfl) (fun a _ => by simp [unN, D.toInt])
        (ITE.rangeN hA.hh (GN.ofB G rfl (by decide +kernel) (by decide) rfl rfl rfl rfl (by decide)) (by have := List.mem_range.mp ha; have := List.mem_range.mp hb; omega) (PE.name rfl rfl) rfl rfl)
        fun c hc => TURN.all (BT.name E2 (by simp) (.inl rfl)) (Le.set rfl) rfl (CB.last rfl (PE.lst (.cons (PE.itemL (PE.name rfl rfl) (PE.name (d := nD a) rfl rfl) (by omega) (by have := List.mem_range.mp ha; omega) (gp a (List.mem_range.mp ha)) (fun _ _ _ => by with_unfolding_all rfl)) (.cons (PE.itemL (PE.name rfl rfl) (PE.name (d := nD b) rfl rfl) (by omega) (by have := List.mem_range.mp ha; have := List.mem_range.mp hb; omega) (gp b (by have := List.mem_range.mp ha; have := List.mem_range.mp hb; omega)) (fun _ _ _ => by with_unfolding_all rfl)) (.cons (PE.itemL (PE.name rfl rfl) (PE.name (d := nD c) rfl rfl) (by omega) (by have := List.mem_range.mp ha; have := List.mem_range.mp hb; have := List.mem_range.mp hc; omega) (gp c (by have := List.mem_range.mp ha; have := List.mem_range.mp hb; have := List.mem_range.mp hc; omega)) (fun _ _ _ => by with_unfolding_all rfl)) .nil rfl) rfl) rfl) (by simp)))))) rfl ?_)
  rw [eL']
  -- good
  have lot3 := lotsE_mem F.h4 hlen
  have gl20 : (lotsE es).length = 20 := rfl
  refine SW.cons (SX.assignComp ["lot"] (cl := []) (lotsE es) lotD unL (fun lot => if pieces (lot.map (·.2)) == [0, 0, 0, 0] then [lotD lot] else []) EO trivial (.inl rfl) rfl rfl rfl rfl trivial (fun _ => rfl) rfl (fun lot _ => unL_lotD lot)
    (ITE.list hA.hh (PE.name rfl hk)) (Nat.le_trans (flatMap_len1 _ (fun a => by split <;> simp) _) (by rw [gl20]; decide))
    (fun C E2 lot hlot => TURN.test (BT.name E2 (by simp) (.inl rfl)) (Le.set rfl) rfl (PT.cmp (PE.call (GN.ofK G rfl rfl rfl rfl (by decide)) (KP.keep G (by rfl)) (.cons (PE.tails rfl (ITE.list hA.hh (PE.name rfl rfl)) (fun _ => rfl) (by rw [(lot3 lot hlot).1]; decide)) .nil rfl) (pieces_ok (n := n + 5) G hA (fun t ht => by obtain ⟨e, he, rfl⟩ := List.mem_map.mp ht; exact (lot3 lot hlot).2 e he)) rfl rfl rfl) (PE.lst (.cons PE.int (.cons PE.int (.cons PE.int (.cons PE.int .nil rfl) rfl) rfl) rfl) (by simp)) (CO.eqNats (y := [0, 0, 0, 0]) hA) rfl) fun _ => CB.last rfl (PE.name rfl rfl)) rfl ?_)
  rw [flatMap_test (fun lot : List Ent => pieces (lot.map (·.2)) == [0, 0, 0, 0]), show (lotsE es).filter (fun lot => pieces (lot.map (·.2)) == [0, 0, 0, 0]) = goodE es from rfl]
  exact SW.le law2_c' (Le.of ⟨rfl, rfl, rfl, rfl, rfl, rfl, rfl, trivial⟩)
set_option maxHeartbeats 8000000 in
theorem law2_sw {n : Nat} (G : Gd (hd.heap_39 P) H0) (hA : AOk (n + 6) A) {L fa : Addr} {cd : Value} (EO : EnvOk (lawEnv P L fa cd) All) {script : List Int} (hz : script.length ≤ 63) {es : List Ent} {first : Nat} (he : es = mkE (priceOf script)) (hf : (first : Int) = script.sum.fmod 4) (F : Facts2 es first) :
    SW prog wd H0 A (lawEnv P L fa cd) All (locOf ["script"] [.lst (script.map D.int)]) [] (lawBody P) (fun _ _ => False) (fun d => d = .bool true) := by
  have hk : (lawEnv P L fa cd).scope.kind = .function := rfl
  have gE : GN prog wd H0 A (lawEnv P L fa cd) "enumerate" (.type "enumerate") := GN.ofB G rfl (by decide +kernel) (by decide) rfl rfl rfl rfl (by decide)
  have gR : GN prog wd H0 A (lawEnv P L fa cd) "range" (.type "range") := GN.ofB G rfl (by decide +kernel) (by decide) rfl rfl rfl rfl (by decide)
  -- pairs
  have eP : ((List.range 4).flatMap fun other => (List.range other).flatMap fun one => [tD (one, other)]) = [tD (0, 1), tD (0, 2), tD (1, 2), tD (0, 3), tD (1, 3), tD (2, 3)] := rfl
  refine SW.cons (SX.assignComp ["other", "one"] (cl := []) (List.range 4) nD unN (fun other => (List.range other).flatMap fun one => [tD (one, other)]) EO trivial (.inl rfl) rfl rfl rfl rfl trivial (fun _ => rfl) rfl (fun a _ => by simp [unN, D.toInt])
    (ITE.rangeN (b := 4) hA.hh gR (by decide) PE.int rfl rfl) (by rw [eP]; decide)
    (fun C E2 other ho => TURN.all (BT.name E2 (by simp) (.inl rfl)) (Le.set rfl) rfl (CB.nextM (List.range other) nD unN (fun one => [tD (one, other)]) rfl rfl (fun _ => rfl) (fun a _ => by simp [unN, D.toInt])
      (ITE.rangeN hA.hh (GN.ofB G rfl (by decide +kernel) (by decide) rfl rfl rfl rfl (by decide)) (by have := List.mem_range.mp ho; omega) (PE.name rfl rfl) rfl rfl)
      fun one ho1 => TURN.all (BT.name E2 (by simp) (.inl rfl)) (Le.set rfl) rfl (CB.last rfl (PE.tup (.cons (PE.name rfl rfl) (.cons (PE.name rfl rfl) .nil rfl) rfl) (by simp [tL]))))) rfl ?_)
  rw [eP]
  -- priced
  have gk : ∀ k : Nat, k < 6 → (script.map D.int ++ List.replicate 6 (D.int 0))[((k : Nat) : Int).toNat]? = some (.int ((script ++ List.replicate 6 0).getD k 0)) := fun k hk6 => by
    have e : script.map D.int ++ List.replicate 6 (D.int 0) = (script ++ List.replicate 6 0).map D.int := by simp
    rw [e, Int.toNat_natCast, List.getElem?_map]
    have : k < (script ++ List.replicate 6 (0 : Int)).length := by simp; omega
    rw [List.getElem?_eq_getElem this, Option.map_some, List.getD_eq_getElem?_getD, List.getElem?_eq_getElem this]; rfl
  refine SW.cons (SX.assign EO trivial (.inr rfl) (PE.eq (c := .lst (es.map eD)) (PE.compM ["k", "one", "other"] ([(0, 0, 1), (1, 0, 2), (2, 1, 2), (3, 0, 3), (4, 1, 3), (5, 2, 3)] : List (Nat × Nat × Nat)) (fun x => .tup [nD x.1, tD x.2]) (fun d => (((d.toList.getD 0 .none).toInt).toNat, unT (d.toList.getD 1 .none))) (fun x => [eD (priceOf script x.1, x.2)]) rfl rfl rfl rfl ⟨⟨⟨_, rfl⟩, rfl, .inl rfl, rfl, rfl⟩, trivial⟩ (fun _ => rfl) rfl
    (fun x _ => by
      have := toInts_tL x.2
      simp only [D.toList, List.getD_cons_zero, List.getD_cons_succ, this, D.toInt, Int.toNat_natCast])
    (ITE.eq (ITE.enum (xs := [tD (0, 1), tD (0, 2), tD (1, 2), tD (0, 3), tD (1, 3), tD (2, 3)]) hA.hh gE (PE.name rfl hk) rfl rfl) rfl) (by rw [flatMap_one, List.length_map]; decide)
    (fun C E2 x hx => TURN.all (BT.tup hA.hh (.cons (.name E2 (by simp) (.inl rfl)) (.cons (BT.tup hA.hh (.cons (.name E2 (by simp) (.inl rfl)) (.cons (.name E2 (by simp) (.inl rfl)) .nil rfl) rfl) rfl rfl) .nil rfl) rfl) rfl rfl) ((Le.set rfl).trans ((Le.set rfl).trans (Le.set rfl))) rfl (CB.last rfl (PE.tup (.cons (PE.bin PE.int (PE.bin (PE.itemL (PE.bin (PE.name rfl rfl) (PE.bin (PE.lst (.cons PE.int .nil rfl) (by simp)) PE.int (BO.mulL (n := 6) (by decide))) (BO.addL (by simp; omega))) (PE.name (d := nD x.1) rfl rfl) (by omega) ?_ (gk x.1 ?_) (fun _ _ _ => by with_unfolding_all rfl)) PE.int (BO.mod (by decide))) BO.add) (.cons (PE.name (d := nD x.2.1) rfl rfl) (.cons (PE.name (d := nD x.2.2) rfl rfl) .nil rfl) rfl) rfl) (by simp [eL])))))
    (by rw [flatMap_one, he]; rfl)) rfl ?_)
  · have : x.1 < 6 := by
      simp only [List.mem_cons, List.not_mem_nil, or_false] at hx
      rcases hx with rfl | rfl | rfl | rfl | rfl | rfl <;> simp
    omega
  · simp only [List.mem_cons, List.not_mem_nil, or_false] at hx
    rcases hx with rfl | rfl | rfl | rfl | rfl | rfl <;> simp
  · exact SW.le (law2_b G hA EO hz hf F) (Le.of ⟨rfl, rfl, trivial⟩)
end
end Mine
namespace Mine
open PySem PySem.Calls PyProof.Rows PySem.W
section
variable (p : Nat → Int)
def gE (i : Nat) : Ent := (p i, tieN i)
theorem mkE_is : mkE p = (List.range 6).map (gE p) := rfl
theorem insAt_map {α β : Type} (f : α → β) (l : List α) (k : Nat) (x : α) : (insAt l k x).map f = insAt (l.map f) k (f x) := by
  simp [insAt, List.map_take, List.map_drop]
/-- the order laid is one of all orders -/
theorem lay_order : ∀ n, ∃ o ∈ allOrders n, ((List.range n).map (gE p)).foldl insE [] = o.map (gE p)
  | 0 => ⟨[], by simp [allOrders], rfl⟩
  | n + 1 => by
    obtain ⟨o, ho, e⟩ := lay_order n
    have hol : o.length = n := by
      have := congrArg List.length e
      rw [layE_len, List.length_map, List.length_map, List.length_range] at this
      simpa using this.symm
    rw [List.range_succ, List.map_append, List.foldl_append, e]
    refine ⟨insAt o (bis ((o.map (gE p)).map eL) (eL (gE p n)) 0 (o.map (gE p)).length) n, ?_, ?_⟩
    · rw [allOrders, List.mem_flatMap]
      refine ⟨o, ho, List.mem_map.mpr ⟨_, List.mem_range.mpr ?_, rfl⟩⟩
      have := bis_le ((o.map (gE p)).map eL) (eL (gE p n)) 0 (o.map (gE p)).length (Nat.zero_le _)
      rw [List.length_map, hol] at this
      rw [List.length_map, hol]; omega
    · rw [insAt_map]; rfl
theorem eL_len (e : Ent) : (eL e).length = 3 := rfl
theorem lay_srt : ∀ (l o : List Ent), Srt (o.map eL) → Srt ((l.foldl insE o).map eL)
  | [], o, h => h
  | e :: r, o, h => by
    rw [List.foldl_cons]
    refine lay_srt r _ ?_
    rw [insE_map]
    exact insL_srt h fun l hl => by obtain ⟨x, _, rfl⟩ := List.mem_map.mp hl; rfl
theorem lay_mem (l : List Ent) : ∀ (o : List Ent) (x : Ent), x ∈ l.foldl insE o ↔ x ∈ l ∨ x ∈ o := by
  have one : ∀ (o : List Ent) (t x : Ent), x ∈ insE o t ↔ x = t ∨ x ∈ o := fun o t x => by
    unfold insE insAt
    generalize bis _ _ _ _ = k
    have : x ∈ o ↔ x ∈ o.take k ∨ x ∈ o.drop k := by rw [← List.mem_append, List.take_append_drop]
    rw [List.mem_append, List.mem_cons, this]
    constructor
    · rintro (h | h | h)
      · exact .inr (.inl h)
      · exact .inl h
      · exact .inr (.inr h)
    · rintro (h | h | h)
      · exact .inr (.inl h)
      · exact .inl h
      · exact .inr (.inr h)
  induction l with
  | nil => intro o x; simp
  | cons e r ih =>
    intro o x
    rw [List.foldl_cons, ih, one, List.mem_cons]
    constructor
    · rintro (h | h | h)
      · exact .inl (.inr h)
      · exact .inl (.inl h)
      · exact .inr h
    · rintro ((h | h) | h)
      · exact .inr (.inl h)
      · exact .inl h
      · exact .inr (.inr h)
/-- by index -/
theorem kru_map : ∀ (o T : List Nat), (o.map (gE p)).foldl kstep (T.map (gE p)) = (o.foldl kstepI T).map (gE p)
  | [], _ => rfl
  | i :: r, T => by
    rw [List.map_cons, List.foldl_cons, List.foldl_cons]
    have e : kstep (T.map (gE p)) (gE p i) = (kstepI T i).map (gE p) := by
      have e1 : (T.map (gE p)).map (·.2) = T.map tieN := by rw [List.map_map]; rfl
      unfold kstep kstepI
      rw [e1]
      show (if ((pieces (T.map tieN)).getD (tieN i).1 0 != (pieces (T.map tieN)).getD (tieN i).2 0) = true then T.map (gE p) ++ [gE p i] else T.map (gE p)) = _
      split
      · rw [List.map_append]; rfl
      · rfl
    rw [e, kru_map r]
theorem lots_map : lotsE (mkE p) = lotsI.map fun l => l.map (gE p) := rfl
theorem good_map : goodE (mkE p) = goodI.map fun l => l.map (gE p) := by
  unfold goodE goodI
  rw [lots_map, List.filter_map]
  congr 1
theorem leI_le {r : Nat → Nat → Prop} (hr : ∀ i, r i i) : ∀ {o : List Nat}, o.Pairwise r → ∀ {t s : Nat}, leI o t s = true → r t s
  | [], _, t, s, h => by simp [leI] at h
  | x :: l, hp, t, s, h => by
    obtain ⟨h1, h2⟩ := List.pairwise_cons.mp hp
    unfold leI at h
    split at h
    · rename_i e
      rw [← beq_iff_eq.mp e]
      rcases Bool.or_eq_true_iff.mp h with q | q
      · rw [← beq_iff_eq.mp q]; exact hr x
      · exact h1 s (List.contains_iff_mem.mp q)
    · split at h
      · cases h
      · exact leI_le hr h2 h
theorem sumH_map (l : List Nat) : sumH (l.map (gE p)) = (l.map p).sum := by
  unfold sumH; rw [List.map_map]; rfl
theorem sum_perm {l m : List Nat} (h : l.Perm m) : (l.map p).sum = (m.map p).sum := by
  induction h with
  | nil => rfl
  | cons x _ ih => simp [ih]
  | swap x y l => simp; omega
  | trans _ _ ih1 ih2 => rw [ih1, ih2]

theorem tie4 (i : Nat) : (tieN i).1 < 4 ∧ (tieN i).2 < 4 := by
  match i with
  | 0 => decide
  | 1 => decide
  | 2 => decide
  | 3 => decide
  | 4 => decide
  | 5 => decide
  | n + 6 => simp [tieN]
theorem tie_inj : ∀ i, i < 6 → ∀ j, j < 6 → tieN i = tieN j → i = j := by decide
theorem gE_inj {i j : Nat} (hi : i < 6) (hj : j < 6) (h : gE p i = gE p j) : i = j := tie_inj i hi j hj (congrArg (·.2) h)
theorem ok4_map (l : List Nat) : Ok4 (l.map (gE p)) := fun e he => by
  obtain ⟨i, _, rfl⟩ := List.mem_map.mp he
  exact tie4 i
theorem lex_head {a b : Int} {x y : List Int} (h : lexlt (a :: x) (b :: y) = false) : b ≤ a := by
  unfold lexlt at h
  split at h
  · omega
  · simp only [decide_eq_false_iff_not] at h; omega
theorem csel3 {x1 x2 x3 y1 y2 y3 : Int} (h : lexlt [x1, x2, x3] [y1, y2, y3] = true) : csel sel3 [x1, x2, x3] [y1, y2, y3] < 0 := by
  simp only [csel, List.getD_cons_zero, List.getD_cons_succ]
  unfold lexlt at h
  split at h
  · unfold lexlt at h
    split at h
    · unfold lexlt at h
      split at h
      · simp [lexlt] at h
      · simp only [decide_eq_true_eq] at h
        rw [if_neg (by omega), if_neg (by omega), if_neg (by omega), if_neg (by omega), if_pos h]; decide
    · simp only [decide_eq_true_eq] at h
      rw [if_neg (by omega), if_neg (by omega), if_pos h]; decide
  · simp only [decide_eq_true_eq] at h
    rw [if_pos h]; decide
theorem maxL_same {l m : List Int} (hl : l ≠ []) (hm : m ≠ []) (h : ∀ x, x ∈ l ↔ x ∈ m) : maxL l = maxL m := by
  have h1 := maxL_ge ((h _).mp (maxL_mem hl))
  have h2 := maxL_ge ((h _).mpr (maxL_mem hm))
  omega
/-- what is known of the order laid -/
structure OFacts (o T : List Nat) : Prop where
  lay : layE (mkE p) = o.map (gE p)
  kru : kru (layE (mkE p)) = T.map (gE p)
  nd : o.Nodup
  mem : ∀ i, i ∈ o ↔ i < 6
  len : o.length = 6
  srt : o.Pairwise fun i j => lexlt (eL (gE p j)) (eL (gE p i)) = false
  mono : o.Pairwise fun i j => p i ≤ p j
  tmem : ∀ i ∈ T, i < 6
  c1 : T.length = 3 ∧ (∃ l ∈ goodL, l.Perm T) ∧ ∀ l ∈ goodL, domI o T l = true
  c2 : chk2 o = true
  c3 : chk3 o = true
  c4 : chk4 o = true
  isT : T = kruI o
theorem goodL_lt : ∀ l ∈ goodL, ∀ i ∈ l, i < 6 := by decide
theorem ofacts : ∃ o T, OFacts p o T := by
  obtain ⟨o, ho, e⟩ := lay_order p 6
  have hc := chk_all o ho
  unfold chk at hc
  obtain ⟨c0, hc⟩ := Bool.and_eq_true_iff.mp hc
  obtain ⟨c1, hc⟩ := Bool.and_eq_true_iff.mp hc
  obtain ⟨c2, hc⟩ := Bool.and_eq_true_iff.mp hc
  obtain ⟨c3, c4⟩ := Bool.and_eq_true_iff.mp hc
  obtain ⟨a1, a2⟩ := Bool.and_eq_true_iff.mp c0
  have hp : o.Perm [0, 1, 2, 3, 4, 5] := List.isPerm_iff.mp a2
  have e' : layE (mkE p) = o.map (gE p) := e
  have hs : o.Pairwise fun i j => lexlt (eL (gE p j)) (eL (gE p i)) = false := by
    have : Srt ((layE (mkE p)).map eL) := lay_srt _ _ (by simp)
    rw [e', List.map_map] at this
    exact List.pairwise_map.mp this
  unfold chk1 at c1
  obtain ⟨c11, c12⟩ := Bool.and_eq_true_iff.mp c1
  obtain ⟨c13, c14⟩ := Bool.and_eq_true_iff.mp c11
  obtain ⟨l, hl, hlT⟩ := List.any_eq_true.mp c14
  have hlT' : l.Perm (kruI o) := List.isPerm_iff.mp hlT
  refine ⟨o, kruI o, e', ?_, hp.nodup_iff.mpr (by decide), fun i => ?_, by simpa using a1, hs, hs.imp fun h => lex_head h, fun i hi => goodL_lt l hl i (hlT'.mem_iff.mpr hi), ⟨by simpa using c13, ⟨l, hl, hlT'⟩, fun l hl => List.all_eq_true.mp c12 l hl⟩, c2, c3, c4, rfl⟩
  · rw [e']; exact kru_map p o []
  · rw [hp.mem_iff]; simp; omega
theorem min_ok {o T : List Nat} (F : OFacts p o T) : (∃ lot ∈ goodE (mkE p), sumH lot = sumH (kru (layE (mkE p)))) ∧ ∀ lot ∈ goodE (mkE p), sumH (kru (layE (mkE p))) ≤ sumH lot := by
  rw [F.kru, good_map, goodI_is]
  obtain ⟨_, ⟨l, hl, hlT⟩, hd⟩ := F.c1
  refine ⟨⟨l.map (gE p), List.mem_map.mpr ⟨l, hl, rfl⟩, ?_⟩, fun lot hlot => ?_⟩
  · rw [sumH_map, sumH_map, sum_perm p hlT]
  · obtain ⟨l, hl, rfl⟩ := List.mem_map.mp hlot
    rw [sumH_map, sumH_map]
    have h := hd l hl
    have le : ∀ t s, leI o t s = true → p t ≤ p s := fun t s q => leI_le (r := fun i j => p i ≤ p j) (fun _ => Int.le_refl _) F.mono q
    have d3 : ∀ t1 t2 t3 x y z, dom3 o t1 t2 t3 x y z = true → p t1 ≤ p x ∧ p t2 ≤ p y ∧ p t3 ≤ p z := fun t1 t2 t3 x y z q => by
      obtain ⟨q1, q⟩ := Bool.and_eq_true_iff.mp q
      obtain ⟨q2, q3⟩ := Bool.and_eq_true_iff.mp q
      exact ⟨le _ _ q1, le _ _ q2, le _ _ q3⟩
    unfold domI at h
    split at h
    · simp only [Bool.or_eq_true] at h
      simp only [List.map_cons, List.map_nil, List.sum_cons, List.sum_nil]
      rcases h with ((((h | h) | h) | h) | h) | h <;> (obtain ⟨h1, h2, h3⟩ := d3 _ _ _ _ _ _ h; omega)
    · cases h
theorem max_ok {o T : List Nat} (F : OFacts p o T) : (∃ lot ∈ goodE (mkE p), maxH lot = maxH (kru (layE (mkE p)))) ∧ ∀ lot ∈ goodE (mkE p), maxH (kru (layE (mkE p))) ≤ maxH lot := by
  rw [F.kru, good_map, goodI_is]
  obtain ⟨hT3, ⟨l, hl, hlT⟩, hd⟩ := F.c1
  have mh : ∀ l : List Nat, maxH (l.map (gE p)) = maxL (l.map p) := fun l => by unfold maxH; rw [List.map_map]; rfl
  have ne : ∀ l : List Nat, l.length = 3 → l.map p ≠ [] := fun l hl e => by
    rw [List.map_eq_nil_iff] at e; rw [e] at hl; cases hl
  refine ⟨⟨l.map (gE p), List.mem_map.mpr ⟨l, hl, rfl⟩, ?_⟩, fun lot hlot => ?_⟩
  · rw [mh, mh]
    refine maxL_same (ne l (hlT.length_eq.trans hT3)) (ne T hT3) fun x => ?_
    rw [List.mem_map, List.mem_map]
    constructor
    · rintro ⟨i, hi, e⟩; exact ⟨i, hlT.mem_iff.mp hi, e⟩
    · rintro ⟨i, hi, e⟩; exact ⟨i, hlT.mem_iff.mpr hi, e⟩
  · obtain ⟨l, hl, rfl⟩ := List.mem_map.mp hlot
    rw [mh, mh]
    have h := hd l hl
    have le : ∀ t s, leI o t s = true → p t ≤ p s := fun t s q => leI_le (r := fun i j => p i ≤ p j) (fun _ => Int.le_refl _) F.mono q
    have d3 : ∀ t1 t2 t3 x y z, dom3 o t1 t2 t3 x y z = true → p t1 ≤ p x ∧ p t2 ≤ p y ∧ p t3 ≤ p z := fun t1 t2 t3 x y z q => by
      obtain ⟨q1, q⟩ := Bool.and_eq_true_iff.mp q
      obtain ⟨q2, q3⟩ := Bool.and_eq_true_iff.mp q
      exact ⟨le _ _ q1, le _ _ q2, le _ _ q3⟩
    have hm := maxL_mem (ne T hT3)
    generalize maxL (T.map p) = M at hm ⊢
    unfold domI at h
    split at h
    · rename_i t1 t2 t3 a b c
      have m1 : p a ≤ maxL ([a, b, c].map p) := maxL_ge (by simp)
      have m2 : p b ≤ maxL ([a, b, c].map p) := maxL_ge (by simp)
      have m3 : p c ≤ maxL ([a, b, c].map p) := maxL_ge (by simp)
      generalize maxL ([a, b, c].map p) = M2 at m1 m2 m3 ⊢
      simp only [List.map_cons, List.map_nil, List.mem_cons, List.not_mem_nil, or_false] at hm
      simp only [Bool.or_eq_true] at h
      rcases h with ((((h | h) | h) | h) | h) | h <;> (obtain ⟨h1, h2, h3⟩ := d3 _ _ _ _ _ _ h; omega)
    · cases h
end
end Mine
namespace Mine
open PySem PySem.Calls PyProof.Rows PySem.W
section
variable (p : Nat → Int)
theorem gE_ne {i j : Nat} (hi : i < 6) (hj : j < 6) : (gE p i != gE p j) = (i != j) := by
  rw [Bool.eq_iff_iff, bne_iff_ne, bne_iff_ne]
  exact ⟨fun h e => h (e ▸ rfl), fun h e => h (gE_inj p hi hj e)⟩
theorem mem_mkE {e : Ent} : e ∈ mkE p ↔ ∃ i, i < 6 ∧ e = gE p i := by
  rw [mkE_is, List.mem_map]
  constructor
  · rintro ⟨i, hi, rfl⟩; exact ⟨i, List.mem_range.mp hi, rfl⟩
  · rintro ⟨i, hi, rfl⟩; exact ⟨i, List.mem_range.mpr hi, rfl⟩
theorem filter_ne {T : List Nat} (hT : ∀ i ∈ T, i < 6) {t : Nat} (ht : t < 6) : (((T.map (gE p)).filter (· != gE p t)).map (·.2)) = (T.filter (· != t)).map tieN := by
  rw [List.filter_map, List.map_map]
  have : T.filter ((fun x => x != gE p t) ∘ gE p) = T.filter (· != t) := List.filter_congr fun i hi => gE_ne p (hT i hi) ht
  rw [this]; rfl
theorem cut_ok {o T : List Nat} (F : OFacts p o T) : ∀ out ∈ kru (layE (mkE p)), ∀ t ∈ mkE p, (pieces (((kru (layE (mkE p))).filter (· != out)).map (·.2))).getD t.2.1 0 ≠ (pieces (((kru (layE (mkE p))).filter (· != out)).map (·.2))).getD t.2.2 0 → out.1 ≤ t.1 := by
  rw [F.kru]
  intro out hout t ht hne
  obtain ⟨j, hj, rfl⟩ := List.mem_map.mp hout
  obtain ⟨i, hi, rfl⟩ := (mem_mkE p).mp ht
  rw [filter_ne p F.tmem (F.tmem j hj)] at hne
  have c := F.c2
  unfold chk2 at c
  rw [← F.isT] at c
  have c := List.all_eq_true.mp c j hj
  have c := List.all_eq_true.mp c i (List.mem_range.mpr hi)
  rcases Bool.or_eq_true_iff.mp c with q | q
  · exact absurd (beq_iff_eq.mp q) hne
  · exact leI_le (r := fun i j => p i ≤ p j) (fun _ => Int.le_refl _) F.mono q
theorem way_map {T : List Nat} (hT : ∀ i ∈ T, i < 6) (i : Nat) : wayE (T.map (gE p)) (gE p i) = (T.filter fun out => connI T out i).map (gE p) := by
  unfold wayE
  rw [List.filter_map]
  congr 1
  refine List.filter_congr fun j hj => ?_
  show connN (T.map (gE p)) (gE p j) (gE p i) = connI T j i
  unfold connN connI
  rw [filter_ne p hT (hT j hj)]; rfl
theorem cyc_ok {o T : List Nat} (F : OFacts p o T) : ∀ tie ∈ mkE p, tie ∉ kru (layE (mkE p)) → wayE (kru (layE (mkE p))) tie ≠ [] ∧ ∀ out ∈ wayE (kru (layE (mkE p))) tie, out.1 ≤ tie.1 := by
  rw [F.kru]
  intro tie htie hnot
  obtain ⟨i, hi, rfl⟩ := (mem_mkE p).mp htie
  have hn : T.contains i = false := by
    rw [← Bool.not_eq_true, List.contains_iff_mem]
    exact fun h => hnot (List.mem_map.mpr ⟨i, h, rfl⟩)
  have c := F.c3
  unfold chk3 at c
  rw [← F.isT] at c
  have c := List.all_eq_true.mp c i (List.mem_range.mpr hi)
  rw [hn, Bool.false_or] at c
  obtain ⟨c1, c2⟩ := Bool.and_eq_true_iff.mp c
  rw [way_map p F.tmem]
  refine ⟨fun e => ?_, fun out hout => ?_⟩
  · rw [List.map_eq_nil_iff] at e
    rw [e] at c1; cases c1
  · obtain ⟨j, hj, rfl⟩ := List.mem_map.mp hout
    exact leI_le (r := fun i j => p i ≤ p j) (fun _ => Int.le_refl _) F.mono (List.all_eq_true.mp c2 j hj)
theorem out_head {o T : List Nat} (F : OFacts p o T) {inside : List Nat} {i : Nat} {r : List Nat} (h : o.filter (crI inside) = i :: r) : outOf (mkE p) inside ≠ [] ∧ (outOf (mkE p) inside).headD (0, 0, 0) = gE p i := by
  have hi : i ∈ o.filter (crI inside) := by rw [h]; exact .head _
  obtain ⟨hio, hic⟩ := List.mem_filter.mp hi
  have hi6 := (F.mem i).mp hio
  have ef : (mkE p).filter (fun e => inside.contains e.2.1 != inside.contains e.2.2) = ((List.range 6).filter (crI inside)).map (gE p) := by
    rw [mkE_is, List.filter_map]; rfl
  have hiF : i ∈ (List.range 6).filter (crI inside) := List.mem_filter.mpr ⟨List.mem_range.mpr hi6, hic⟩
  have hmem : ∀ x, x ∈ outOf (mkE p) inside ↔ ∃ j, j < 6 ∧ crI inside j = true ∧ x = gE p j := fun x => by
    unfold outOf layE
    rw [ef, lay_mem]
    simp only [List.not_mem_nil, or_false, List.mem_map, List.mem_filter, List.mem_range]
    constructor
    · rintro ⟨j, ⟨h1, h2⟩, rfl⟩; exact ⟨j, h1, h2, rfl⟩
    · rintro ⟨j, h1, h2, rfl⟩; exact ⟨j, ⟨h1, h2⟩, rfl⟩
  have hs : Srt ((outOf (mkE p) inside).map eL) := lay_srt _ _ (by simp)
  have hin : gE p i ∈ outOf (mkE p) inside := (hmem _).mpr ⟨i, hi6, hic, rfl⟩
  cases q : outOf (mkE p) inside with
  | nil => rw [q] at hin; cases hin
  | cons e rest =>
    refine ⟨by simp, ?_⟩
    show e = gE p i
    obtain ⟨j, hj6, hjc, rfl⟩ := (hmem e).mp (by rw [q]; exact .head _)
    by_cases hji : j = i
    · rw [hji]
    · -- e is first in the laid list: no less than it is g i
      have l1 : lexlt (eL (gE p i)) (eL (gE p j)) = false := by
        rw [q] at hs hin
        rw [List.map_cons] at hs
        rcases List.mem_cons.mp hin with e | e
        · rw [e]; exact lexlt_irrefl _
        · exact (List.pairwise_cons.mp hs).1 _ (List.mem_map.mpr ⟨_, e, rfl⟩)
      have l2 : lexlt (eL (gE p j)) (eL (gE p i)) = false := by
        have hjF : j ∈ o.filter (crI inside) := List.mem_filter.mpr ⟨(F.mem j).mpr hj6, hjc⟩
        have hsub : (o.filter (crI inside)).Pairwise fun i j => lexlt (eL (gE p j)) (eL (gE p i)) = false := F.srt.filter _
        rw [h] at hjF hsub
        rcases List.mem_cons.mp hjF with e | e
        · exact absurd e hji
        · exact (List.pairwise_cons.mp hsub).1 j e
      have := lexlt_total _ _ (by rw [eL_len, eL_len]) l2 l1
      have hh := congrArg (fun l => ((l.getD 1 0).toNat, (l.getD 2 0).toNat)) this
      simp only [eL, List.getD_cons_succ, List.getD_cons_zero, Int.toNat_natCast] at hh
      exact absurd (tie_inj j hj6 i hi6 hh) hji
theorem prim_run {o T : List Nat} (F : OFacts p o T) (first : Nat) : ∀ (n k : Nat) (inside taken : List Nat), k + n = 3 → primS (mkE p) first k = (inside, taken.map (gE p)) → primI o T n inside taken = true →
    (∀ j, k ≤ j → j < 3 → outOf (mkE p) (primS (mkE p) first j).1 ≠ []) ∧ ∃ tk : List Nat, (primS (mkE p) first 3).2 = tk.map (gE p) ∧ tk.Perm T
  | 0, k, inside, taken, hk, hs, hp => by
    have : k = 3 := by omega
    subst this
    unfold primI at hp
    exact ⟨fun j h1 h2 => by omega, taken, by rw [hs], List.isPerm_iff.mp hp⟩
  | n + 1, k, inside, taken, hk, hs, hp => by
    unfold primI at hp
    split at hp
    · cases hp
    · rename_i i r hf
      obtain ⟨h1, h2⟩ := out_head p F hf
      have hst : primS (mkE p) first (k + 1) = (inside ++ [if inside.contains (tieN i).1 then (tieN i).2 else (tieN i).1], (taken ++ [i]).map (gE p)) := by
        unfold primS
        rw [hs]
        simp only [h2, List.map_append, List.map_cons, List.map_nil]
        rfl
      obtain ⟨a, b⟩ := prim_run F first n (k + 1) _ _ (by omega) hst hp
      refine ⟨fun j hj1 hj2 => ?_, b⟩
      by_cases e : j = k
      · subst e; rw [hs]; exact h1
      · exact a j (by omega) hj2
theorem facts2_of {first : Nat} (hf : first < 4) : Facts2 (mkE p) first := by
  obtain ⟨o, T, F⟩ := ofacts p
  obtain ⟨o', T', F'⟩ := ofacts fun i => p i + 1
  have er : raiseE (mkE p) = mkE fun i => p i + 1 := rfl
  have hp : primI o T 3 [first] [] = true := by
    have c := F.c4
    unfold chk4 at c
    rw [← F.isT] at c
    exact List.all_eq_true.mp c first (List.mem_range.mpr hf)
  obtain ⟨pne, tk, hpt, hperm⟩ := prim_run p F first 3 0 [first] [] rfl rfl hp
  obtain ⟨m1, m2⟩ := min_ok p F
  obtain ⟨m1', m2'⟩ := min_ok (fun i => p i + 1) F'
  obtain ⟨x1, x2⟩ := max_ok p F
  have raise_sum : ∀ l : List Nat, (l.map fun i => p i + 1).sum = (l.map p).sum + l.length := fun l => by
    induction l with
    | nil => rfl
    | cons a l ih => simp only [List.map_cons, List.sum_cons, List.length_cons, ih]; omega
  have goodlen : ∀ l ∈ goodL, l.length = 3 := by decide
  refine ⟨fun e he => ?_, rfl, ?_, ?_, ?_, fun k a b ha hb => ?_, ?_, ?_, ?_, m1, m2, x1, x2, fun k hk => pne k (Nat.zero_le _) hk, ?_, cut_ok p F, cyc_ok p F, ?_⟩
  · obtain ⟨i, _, rfl⟩ := (mem_mkE p).mp he
    exact tie4 i
  · rw [F.lay]; exact ok4_map p o
  · rw [er, F'.lay]; exact ok4_map _ o'
  · rw [F.lay, List.length_map]; exact F.len
  · rw [F.lay, List.getElem?_map] at ha hb
    cases qa : o[k]? with
    | none => rw [qa] at ha; cases ha
    | some i =>
      cases qb : o[k + 1]? with
      | none => rw [qb] at hb; cases hb
      | some j =>
        rw [qa] at ha; rw [qb] at hb
        cases ha; cases hb
        obtain ⟨h1, e1⟩ := List.getElem?_eq_some_iff.mp qa
        obtain ⟨h2, e2⟩ := List.getElem?_eq_some_iff.mp qb
        have hs := List.pairwise_iff_getElem.mp F.srt k (k + 1) h1 h2 (by omega)
        rw [e1, e2] at hs
        have hij : i ≠ j := by
          have := List.pairwise_iff_getElem.mp F.nd k (k + 1) h1 h2 (by omega)
          rw [e1, e2] at this; exact this
        have hi6 := (F.mem i).mp (List.mem_of_getElem? qa)
        have hj6 := (F.mem j).mp (List.mem_of_getElem? qb)
        refine csel3 ?_
        cases q : lexlt (eL (gE p i)) (eL (gE p j)) with
        | true => exact q
        | false =>
          have := lexlt_total _ _ (by rw [eL_len, eL_len]) q hs
          have hh := congrArg (fun l => ((l.getD 1 0).toNat, (l.getD 2 0).toNat)) this
          simp only [eL, List.getD_cons_succ, List.getD_cons_zero, Int.toNat_natCast] at hh
          exact absurd (tie_inj i hi6 j hj6 hh) hij
  · rw [F.kru]; exact ok4_map p T
  · rw [F.kru, List.length_map]; exact F.c1.1
  · rw [good_map, goodI_is]; rfl
  · rw [hpt, F.kru, sumH_map, sumH_map, sum_perm p hperm]
  · rw [er]
    obtain ⟨lot, h1, h2⟩ := m1
    obtain ⟨lot', h1', h2'⟩ := m1'
    rw [good_map, goodI_is] at h1 h1'
    obtain ⟨l, hl, rfl⟩ := List.mem_map.mp h1
    obtain ⟨l', hl', rfl⟩ := List.mem_map.mp h1'
    have a1 := m2' (l.map (gE fun i => p i + 1)) (by rw [good_map, goodI_is]; exact List.mem_map.mpr ⟨l, hl, rfl⟩)
    have a2 := m2 (l'.map (gE p)) (by rw [good_map, goodI_is]; exact List.mem_map.mpr ⟨l', hl', rfl⟩)
    rw [sumH_map] at h2 h2' a1 a2
    rw [raise_sum, goodlen l hl] at a1
    rw [raise_sum, goodlen l' hl'] at h2'
    omega
end
end Mine
open PySem PySem.Calls PyProof.Rows PySem.W Mine
set_option maxHeartbeats 8000000 in
theorem PySem.Challenge.cw_gj0002_02_holds : PySem.Challenge.rw_gj0002_02.Holds :=
  Mine.hd (by
  k_go0
  rename_i wd s₀ s₁ mg mb G Y fa o pm doc ho hg KX X V GL T B TE TW q1 q2 M q3 q4 hcd script hs hlay0 hL1 hr1 hl2 a1 a2 la vs a3 hL ra w1 r0 hI hr hc1 hc2 K0 hD h₁ tk₁ F o7 o6 o5 o4 o3 o2 o1 o0 e7 e6 e5 e4 e3 e2 e1 e0 N0 X0
  have Gr : Gd (Mine.hd.heap_39 wd.params) s₁.heap := ⟨KX, ⟨mg, T.g⟩, ⟨mb, T.b, T.builtins⟩, T.nolimit⟩
  have hz : script.length ≤ 63 := by omega
  have n8 := N0 _ (.head _)
  have n7 := N0 _ (.tail _ (.head _))
  have n6 := N0 _ (.tail _ (.tail _ (.head _)))
  have n5 := N0 _ (.tail _ (.tail _ (.tail _ (.head _))))
  have n4 := N0 _ (.tail _ (.tail _ (.tail _ (.tail _ (.head _)))))
  have n3 := N0 _ (.tail _ (.tail _ (.tail _ (.tail _ (.tail _ (.head _))))))
  have n2 := N0 _ (.tail _ (.tail _ (.tail _ (.tail _ (.tail _ (.tail _ (.head _)))))))
  have n1 := N0 _ (.tail _ (.tail _ (.tail _ (.tail _ (.tail _ (.tail _ (.tail _ (.head _))))))))
  have SIM := law_simC (prog := PySem.Challenge.rw_gj0002_02.row.prog) (wd := wd) (name := "law") (scope := lawScope wd.params) (fa := fa) (cd := .ref q3) (tk := tk₁) (c₀ := s₁.heap.objs.size + 1) F w1 rfl rfl ⟨o0, n1.1, e0⟩ (fun x hx => ?_)
  · have hmod : 0 ≤ script.sum.fmod 4 ∧ script.sum.fmod 4 < 4 := ⟨Int.fmod_nonneg_of_pos _ (by decide), Int.fmod_lt_of_pos _ (by decide)⟩
    obtain ⟨first, hfirst⟩ : ∃ first : Nat, (first : Int) = script.sum.fmod 4 := ⟨(script.sum.fmod 4).toNat, by omega⟩
    have SW := law2_sw (prog := PySem.Challenge.rw_gj0002_02.row.prog) (wd := wd) (H0 := s₁.heap) (A := callerA.deeper (lawEnv wd.params s₁.heap.objs.size fa (.ref q3))) (n := 0) Gr ⟨rfl, Nat.le_of_ble_eq_true rfl, Nat.le_of_ble_eq_true rfl⟩ (L := s₁.heap.objs.size) (fa := fa) (cd := .ref q3) (envOk_law rfl) hz rfl hfirst (facts2_of (priceOf script) (by omega))
    refine wpAny_mono (SW _ _ _ _ _ SIM) (fun fl s' h => ?_) fun _ _ f => f.elim
    cases fl with
    | next => obtain ⟨_, _, _, _, q⟩ := h; exact q.elim
    | ret v =>
      obtain ⟨d, ⟨w', h1, h2, h3, h4, h5, h6, rv⟩, rfl⟩ := h
      cases rv
      exact ⟨.inl ⟨_, _, _, rfl, fun _ => rfl, ReadsW.bool true, post_true, fun _ => ⟨List.nodup_nil, fun _ q => nomatch q⟩⟩, h4, h5, h6.trans hg⟩
    | brk => exact h.elim
    | cont => exact h.elim
  · have hm : (x, NameKind.cell) ∈ (lawScope wd.params).names := mem_of_lookup hx
    have hx8 : x = "script" ∨ x = "priced" ∨ x = "order" ∨ x = "taken" ∨ x = "told" ∨ x = "tie" ∨ x = "out" ∨ x = "piece" := by
      have : ((lawScope wd.params).names.all fun p => !(p.2 == .cell) || (p.1 == "script" || p.1 == "priced" || p.1 == "order" || p.1 == "taken" || p.1 == "told" || p.1 == "tie" || p.1 == "out" || p.1 == "piece")) = true := rfl
      have := List.all_eq_true.mp this _ hm
      simpa [or_assoc] using this
    rcases hx8 with rfl | rfl | rfl | rfl | rfl | rfl | rfl | rfl
    · exact ⟨_, rfl, ⟨_, _, n1.1, e0⟩, n1.2.2⟩
    · exact ⟨_, rfl, ⟨_, _, n2.1, e1⟩, n2.2.2⟩
    · exact ⟨_, rfl, ⟨_, _, n3.1, e2⟩, n3.2.2⟩
    · exact ⟨_, rfl, ⟨_, _, n4.1, e3⟩, n4.2.2⟩
    · exact ⟨_, rfl, ⟨_, _, n5.1, e4⟩, n5.2.2⟩
    · exact ⟨_, rfl, ⟨_, _, n6.1, e5⟩, n6.2.2⟩
    · exact ⟨_, rfl, ⟨_, _, n7.1, e6⟩, n7.2.2⟩
    · exact ⟨_, rfl, ⟨_, _, n8.1, e7⟩, n8.2.2⟩)
