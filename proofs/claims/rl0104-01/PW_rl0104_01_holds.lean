import PyProof.Rows.All
import Wide.All
import KE.KItem
import OpenK.AllK
import PySem.Challenge.RW_rl0104_01
set_option Elab.async false
set_option maxRecDepth 100000
set_option linter.unusedSimpArgs false
set_option linter.unusedVariables false
set_option linter.unusedSectionVars false
namespace Mine
open PySem PySem.Calls PyProof.Rows
theorem nn {α : Type} {d : α} {C : Prop} (e : (none : Option α) = some d) : C := nomatch e

/-! plain data -/
inductive D where
  | undef | none
  | bool (b : Bool)
  | int (i : Int)
  | flt (x : UInt64)
  | str (s : Str)
  | list (xs : List D)
  | tup (xs : List D)
  | rng (a b : Int)
  | own (xs : List D)

noncomputable def D.plain : D → Bool
  | .undef => false
  | .own _ => false
  | _ => true

noncomputable abbrev LObj (vs : Array Value) (n : Nat) : Obj := { cls := .type "list", dict := none, data := .seq vs n, slots := #[] }
noncomputable abbrev TObj (vs : Array Value) (n : Nat) : Obj := { cls := .type "tuple", dict := none, data := .seq vs n, slots := #[] }
noncomputable abbrev RObj (lo hi : Int) (t1 t2 t3 : Tok) : Obj := { cls := .type "range", dict := none, data := .fields #[.int lo t1, .int hi t2, .int 1 t3], slots := #[] }

mutual
inductive Rep (P : Addr → Prop) (h : Heap) : Value → D → Prop
  | none : Rep P h .none .none
  | bool (b : Bool) : Rep P h (.bool b) (.bool b)
  | int (i : Int) (t : Tok) : Rep P h (.int i t) (.int i)
  | flt (x : UInt64) (t : Tok) (ht : t ≠ 0) : Rep P h (.float x t) (.flt x)
  | str (s : Str) (t : Tok) : Rep P h (.str s t) (.str s)
  | list {a : Addr} {vs : Array Value} {n : Nat} {xs : List D} (p : P a) (hl : h.get? a = some (LObj vs n)) (r : RepL P h vs.toList xs) : Rep P h (.ref a) (.list xs)
  | tup {a : Addr} {vs : Array Value} {n : Nat} {xs : List D} (p : P a) (hl : h.get? a = some (TObj vs n)) (r : RepL P h vs.toList xs) : Rep P h (.ref a) (.tup xs)
  | rng {a : Addr} {lo hi : Int} {t1 t2 t3 : Tok} (p : P a) (hr : h.get? a = some (RObj lo hi t1 t2 t3)) : Rep P h (.ref a) (.rng lo hi)
inductive RepL (P : Addr → Prop) (h : Heap) : List Value → List D → Prop
  | nil : RepL P h [] []
  | cons {v : Value} {d : D} {vs : List Value} {ds : List D} (r : Rep P h v d) (rs : RepL P h vs ds) : RepL P h (v :: vs) (d :: ds)
end

noncomputable def Ext (h h' : Heap) : Prop := ∀ b o, h.get? b = some o → h'.get? b = some o
theorem Ext.refl (h : Heap) : Ext h h := fun _ _ e => e
theorem Ext.trans {a b c : Heap} (x : Ext a b) (y : Ext b c) : Ext a c := fun b o e => y b o (x b o e)
theorem Ext.push (h : Heap) (o : Obj) : Ext h (h.push o) := fun _ _ e => Heap.get?_push_of_some o e
theorem Ext.dead {h h' : Heap} (x : Ext h h') {b : Addr} (e : h'.get? b = none) : h.get? b = none := by
  cases hb : h.get? b with
  | none => rfl
  | some o => rw [x b o hb] at e; cases e
theorem dead_size (h : Heap) : h.get? h.objs.size = none := by
  cases hb : h.get? h.objs.size with
  | none => rfl
  | some o => exact absurd (Heap.lt_size hb) (Nat.lt_irrefl _)

mutual
theorem Rep.mono {P P' : Addr → Prop} {h h' : Heap} (hk : ∀ b o, P b → h.get? b = some o → h'.get? b = some o) (hp : ∀ b o, h.get? b = some o → P b → P' b) : ∀ {v d}, Rep P h v d → Rep P' h' v d
  | _, _, .none => .none
  | _, _, .bool b => .bool b
  | _, _, .int i t => .int i t
  | _, _, .flt i t ht => .flt i t ht
  | _, _, .str i t => .str i t
  | _, _, .list p ho r => .list (hp _ _ ho p) (hk _ _ p ho) (RepL.mono hk hp r)
  | _, _, .tup p ho r => .tup (hp _ _ ho p) (hk _ _ p ho) (RepL.mono hk hp r)
  | _, _, .rng p ho => .rng (hp _ _ ho p) (hk _ _ p ho)
theorem RepL.mono {P P' : Addr → Prop} {h h' : Heap} (hk : ∀ b o, P b → h.get? b = some o → h'.get? b = some o) (hp : ∀ b o, h.get? b = some o → P b → P' b) : ∀ {vs ds}, RepL P h vs ds → RepL P' h' vs ds
  | _, _, .nil => .nil
  | _, _, .cons r rs => .cons (Rep.mono hk hp r) (RepL.mono hk hp rs)
end
theorem Rep.ext {P : Addr → Prop} {h h' : Heap} {v d} (r : Rep P h v d) (x : Ext h h') : Rep P h' v d := r.mono (fun b o _ e => x b o e) fun _ _ _ p => p
theorem RepL.ext {P : Addr → Prop} {h h' : Heap} {v d} (r : RepL P h v d) (x : Ext h h') : RepL P h' v d := r.mono (fun b o _ e => x b o e) fun _ _ _ p => p
theorem Rep.weak {P P' : Addr → Prop} {h : Heap} {v d} (r : Rep P h v d) (hp : ∀ b, P b → P' b) : Rep P' h v d := r.mono (fun _ _ _ e => e) fun b _ _ p => hp b p
theorem RepL.weak {P P' : Addr → Prop} {h : Heap} {v d} (r : RepL P h v d) (hp : ∀ b, P b → P' b) : RepL P' h v d := r.mono (fun _ _ _ e => e) fun b _ _ p => hp b p

theorem RepL.length {P : Addr → Prop} {h : Heap} : ∀ {vs ds}, RepL P h vs ds → vs.length = ds.length
  | _, _, .nil => rfl
  | _, _, .cons _ rs => congrArg (· + 1) rs.length
theorem RepL.get {P : Addr → Prop} {h : Heap} : ∀ {vs ds}, RepL P h vs ds → ∀ (i : Nat) (d : D), ds[i]? = some d → ∃ v, vs[i]? = some v ∧ Rep P h v d
  | _, _, .cons r _, 0, d, e => by simp only [List.getElem?_cons_zero, Option.some.injEq] at e ⊢; subst e; exact ⟨_, rfl, r⟩
  | _, _, .cons _ rs, i + 1, d, e => by simp only [List.getElem?_cons_succ] at e ⊢; exact rs.get i d e
theorem RepL.append {P : Addr → Prop} {h : Heap} : ∀ {vs ds vs' ds'}, RepL P h vs ds → RepL P h vs' ds' → RepL P h (vs ++ vs') (ds ++ ds')
  | _, _, _, _, .nil, r => r
  | _, _, _, _, .cons a b, r => .cons a (b.append r)
theorem RepL.take {P : Addr → Prop} {h : Heap} : ∀ {vs ds}, RepL P h vs ds → ∀ n, RepL P h (vs.take n) (ds.take n)
  | _, _, .nil, _ => by simp only [List.take_nil]; exact .nil
  | _, _, .cons _ _, 0 => .nil
  | _, _, .cons a b, n + 1 => .cons a (b.take n)
theorem RepL.drop {P : Addr → Prop} {h : Heap} : ∀ {vs ds}, RepL P h vs ds → ∀ n, RepL P h (vs.drop n) (ds.drop n)
  | _, _, .nil, _ => by simp only [List.drop_nil]; exact .nil
  | _, _, .cons a b, 0 => .cons a b
  | _, _, .cons _ b, n + 1 => b.drop n
theorem RepL.set {P : Addr → Prop} {h : Heap} {v : Value} {d : D} (r : Rep P h v d) : ∀ {vs ds}, RepL P h vs ds → ∀ n, RepL P h (vs.set n v) (ds.set n d)
  | _, _, .nil, _ => .nil
  | _, _, .cons _ b, 0 => .cons r b
  | _, _, .cons a b, n + 1 => .cons a (b.set r n)

/-! reading a name -/
noncomputable def Rd (env : Env) (h : Heap) (x : Str) (v : Value) : Prop :=
  (env.kindOf x = some .local ∧ ∃ m, h.Ns env.locals m ∧ m x = some v) ∨
  ((env.kindOf x = some .cell ∨ (env.kindOf x = some .free ∧ (x == ("__classdict__" : Str)) = false)) ∧ ∃ c, env.cells.lookup x = some c ∧ h.IsCell c (some v))

theorem Rd.load {M : Model} {A : Around} {E : Value → Shared → Prop} {s : Shared} {env : Env} {x : Str} {v : Value} {Q : Value → Shared → Prop}
    (r : Rd env s.heap x v) (hk : env.scope.kind = .function) (h : Q v s) : wpAny M A (loadName env x) Q E s := by
  rcases r with ⟨hl, m, hn, hv⟩ | ⟨hc | ⟨hf, hne⟩, c, hl, hv⟩
  · exact wpAny_loadName_local hk hl hn hv h
  · exact wpAny_loadName_cell hk hc hl hv h
  · exact wpAny_loadName_free hk hf hl hv h hne
theorem Rd.ext {env : Env} {h h' : Heap} {x : Str} {v : Value} (r : Rd env h x v) (e : Ext h h') : Rd env h' x v := by
  rcases r with ⟨hl, m, hn, hv⟩ | ⟨k, c, hl, hv⟩
  · exact .inl ⟨hl, m, hn.keeps e, hv⟩
  · exact .inr ⟨k, c, hl, hv.keeps e⟩

/-! what the top left -/
noncomputable abbrev prog : Program := PySem.Challenge.pw_rl0104_01
structure Tops where
  defs : List DefItem
  names : List Str
  tabs : List (Str × List (PyData × PyData))
  sets : List (Str × (Int → Bool))
structure TopAt (t : Tops) (w : World) (N : Nat) (mg mb : Str → Option Value) (h : Heap) : Prop where
  G : Glob N mg mb t.defs [] [] t.names h
  S : h.Ns cStatics (fun _ => none)
  tabs : ∀ p ∈ t.tabs, ∃ a, mg p.1 = some (.ref a) ∧ IntTab prog w h a p.2
  sets : ∀ p ∈ t.sets, ∃ a n, mg p.1 = some (.ref a) ∧ h.SetOf (intKind prog w) a p.2 n
theorem TopAt.keeps {t : Tops} {w : World} {N : Nat} {mg mb : Str → Option Value} {h h' : Heap} (x : TopAt t w N mg mb h) (hk : ∀ b o, h.get? b = some o → h'.get? b = some o) : TopAt t w N mg mb h' :=
  ⟨x.G.keeps hk, x.S.keeps hk, fun p hp => let ⟨a, e, T⟩ := x.tabs p hp; ⟨a, e, T.keep hk⟩, fun p hp => let ⟨a, n, e, o, es, ep, t, h1, r⟩ := x.sets p hp; ⟨a, n, e, o, es, ep, t, hk _ _ h1, r⟩⟩

structure Room (B : Nat) (A : Around) : Prop where
  depth : A.depth ≤ B
  units : A.units ≤ 10 * B
  handled : A.handled = none
theorem Room.mono {B B' : Nat} {A : Around} (r : Room B A) (h : B ≤ B') : Room B' A := ⟨Nat.le_trans r.1 h, Nat.le_trans r.2 (Nat.mul_le_mul_left _ h), r.3⟩
theorem Room.deeper {B : Nat} {A : Around} {e : Env} (r : Room B A) : Room (B + 1) (A.deeper e) :=
  ⟨Nat.succ_le_succ r.1, by rw [Around.deeper_units]; have := r.2; omega, r.3⟩

structure Sc where
  gl : List Str
  cp : List Str
structure Ctx (t : Tops) (w : World) (vars : List Str) (gls : Sc) (env : Env) (P : Addr → Prop) (ds : List D) (h : Heap) : Prop where
  top : ∃ N mg mb, TopAt t w N mg mb h
  kind : env.scope.kind = .function
  glob : env.globals = mainGlobals
  blt : env.builtins = builtinsNs
  rd : ∀ (k : Nat) (x : Str) (d : D), vars[k]? = some x → ds[k]? = some d → d.plain = true → ∃ v, Rd env h x v ∧ Rep P h v d
  gl : ∀ x ∈ gls.gl, env.kindOf x = some .globalImplicit
  fresh : ∀ b, h.get? b = none → P b
  cp : ∀ x ∈ gls.cp, env.kindOf x = some .cell ∧ ∃ q, env.cells.lookup x = some q

theorem Ctx.ext {t : Tops} {w : World} {vars : List Str} {gls : Sc} {env : Env} {P : Addr → Prop} {ds : List D} {h h' : Heap} (c : Ctx t w vars gls env P ds h) (e : Ext h h') : Ctx t w vars gls env P ds h' :=
  ⟨let ⟨N, mg, mb, g⟩ := c.top; ⟨N, mg, mb, g.keeps e⟩, c.kind, c.glob, c.blt, fun k x d h1 h2 h3 => let ⟨v, r, p⟩ := c.rd k x d h1 h2 h3; ⟨v, r.ext e, p.ext e⟩, c.gl, fun b hb => c.fresh b (e.dead hb), c.cp⟩

noncomputable abbrev NoE : Value → Shared → Prop := fun _ _ => False
noncomputable abbrev Shared.at (s : Shared) (h : Heap) (tk : Nat) : Shared := { s with heap := h, toks := tk }

/-- an expression's meaning -/
noncomputable def DenE (t : Tops) (B : Nat) (vars : List Str) (gls : Sc) (x : Expr) (f : List D → Option D) : Prop :=
  ∀ (w : World) (A : Around) (s : Shared) (env : Env) (P : Addr → Prop) (ds : List D) (d : D) (Q : Value → Shared → Prop),
    Room B A → 0 < s.toks → Ctx t w vars gls env P ds s.heap → f ds = some d →
    (∀ v h' tk, 0 < tk → Ext s.heap h' → Rep P h' v d → Q v { s with heap := h', toks := tk }) →
    wpAny (model prog w) A (eval x env) Q NoE s

/-- a test's meaning -/
noncomputable def DenT (t : Tops) (B : Nat) (vars : List Str) (gls : Sc) (x : Expr) (f : List D → Option Bool) : Prop :=
  ∀ (w : World) (A : Around) (s : Shared) (env : Env) (P : Addr → Prop) (ds : List D) (b : Bool) (Q : Bool → Shared → Prop),
    Room B A → 0 < s.toks → Ctx t w vars gls env P ds s.heap → f ds = some b →
    (∀ h' tk, 0 < tk → Ext s.heap h' → Q b { s with heap := h', toks := tk }) →
    wpAny (model prog w) A (isTrue x env (eval x env)) Q NoE s

/-- a list of expressions (arguments, items of a display) -/
noncomputable def DenL (t : Tops) (B : Nat) (vars : List Str) (gls : Sc) (xs : List Expr) (f : List D → Option (List D)) : Prop :=
  ∀ (w : World) (A : Around) (s : Shared) (env : Env) (P : Addr → Prop) (pos : Pos) (ds : List D) (es : List D) (Q : List Value → Shared → Prop),
    Room B A → 0 < s.toks → Ctx t w vars gls env P ds s.heap → f ds = some es →
    (∀ vs h' tk, 0 < tk → Ext s.heap h' → RepL P h' vs es → Q vs { s with heap := h', toks := tk }) →
    wpAny (model prog w) A (spliced (backTo pos (starEach xs env))) Q NoE s

section
variable {t : Tops} {B : Nat} {vars : List Str} {gls : Sc}
noncomputable abbrev eVar (k : Nat) : List D → Option D := fun ds => match ds[k]? with
  | some d => if d.plain then some d else none
  | none => none
theorem den_var (k : Nat) {x : Str} {pos : Pos} (hx : vars[k]? = some x) (hd : (x == ("__debug__" : Str)) = false := by decide +kernel) : DenE t B vars gls (.Name x pos) (eVar k) := by
  intro w A s env P ds d Q _ htk c e h
  unfold eVar at e
  cases hk : ds[k]? with
  | none => rw [hk] at e; cases e
  | some d' =>
    rw [hk] at e
    dsimp only at e
    cases hp : d'.plain with
    | false => rw [hp] at e; cases e
    | true =>
      rw [hp] at e
      cases e
      obtain ⟨v, r, p⟩ := c.rd k x d hx hk hp
      exact wpAny_Name (r.load c.kind (h v s.heap s.toks htk (Ext.refl _) p)) hd

theorem den_int (i : Int) {k : Nat} {pos : Pos} : DenE t B vars gls (.Constant (.int i) k pos) (fun _ => some (.int i)) := by
  intro w A s env P ds d Q _ htk c e h
  cases e
  exact wpAny_Constant_int (h _ s.heap _ (Nat.succ_pos _) (Ext.refl _) (.int i _))
theorem den_flt (x : UInt64) {k : Nat} {pos : Pos} : DenE t B vars gls (.Constant (.float x) k pos) (fun _ => some (.flt x)) := by
  intro w A s env P ds d Q _ htk c e h
  cases e
  rw [eval_Constant]
  exact wpAny_mkFloat (h _ s.heap _ (Nat.succ_pos _) (Ext.refl _) (.flt x _ (Nat.ne_of_gt htk)))
theorem den_str (x : Str) {k : Nat} {pos : Pos} : DenE t B vars gls (.Constant (.str x) k pos) (fun _ => some (.str x)) := by
  intro w A s env P ds d Q _ htk c e h
  cases e
  rw [eval_Constant]
  exact wpAny_mkText (h _ s.heap _ (Nat.succ_pos _) (Ext.refl _) (.str x _))
theorem den_bool (x : Bool) {k : Nat} {pos : Pos} : DenE t B vars gls (.Constant (.bool x) k pos) (fun _ => some (.bool x)) := by
  intro w A s env P ds d Q _ htk c e h
  cases e
  rw [eval_Constant]
  exact wpAny_pure (h _ s.heap s.toks htk (Ext.refl _) (.bool x))
theorem den_none {k : Nat} {pos : Pos} : DenE t B vars gls (.Constant .none k pos) (fun _ => some .none) := by
  intro w A s env P ds d Q _ htk c e h
  cases e
  rw [eval_Constant]
  exact wpAny_pure (h _ s.heap s.toks htk (Ext.refl _) .none)

/-- an operation on two values -/
noncomputable def Op2 (t : Tops) (op : Value → Value → Sem Value) (f : D → D → Option D) : Prop :=
  ∀ (w : World) (A : Around) (s : Shared) (B : Nat) (P : Addr → Prop) (a b : Value) (x y d : D) (Q : Value → Shared → Prop),
    Room B A → B ≤ 900 → 0 < s.toks → (∃ N mg mb, TopAt t w N mg mb s.heap) → (∀ b, s.heap.get? b = none → P b) → Rep P s.heap a x → Rep P s.heap b y → f x y = some d →
    (∀ v h' tk, 0 < tk → Ext s.heap h' → Rep P h' v d → Q v { s with heap := h', toks := tk }) →
    wpAny (model prog w) A (op a b) Q NoE s

noncomputable abbrev eBin (g : D → D → Option D) (f1 f2 : List D → Option D) : List D → Option D := fun ds => match f1 ds with
  | some x => match f2 ds with
    | some y => g x y
    | none => none
  | none => none
theorem eBin_inv {g : D → D → Option D} {f1 f2 : List D → Option D} {ds : List D} {d : D} (e : eBin g f1 f2 ds = some d) : ∃ x y, f1 ds = some x ∧ f2 ds = some y ∧ g x y = some d := by
  unfold eBin at e
  cases h1 : f1 ds with
  | none => rw [h1] at e; cases e
  | some x =>
    rw [h1] at e; dsimp only at e
    cases h2 : f2 ds with
    | none => rw [h2] at e; cases e
    | some y => rw [h2] at e; exact ⟨x, y, rfl, rfl, e⟩

theorem den_bin {l r : Expr} {op : Operator} {pos : Pos} {g : D → D → Option D} {f1 f2 : List D → Option D} (hop : Op2 t (binaryOp op) g) (h1 : DenE t B vars gls l f1) (h2 : DenE t B vars gls r f2) (hB : B ≤ 900 := by decide) :
    DenE t B vars gls (.BinOp l op r pos) (eBin g f1 f2) := by
  intro w A s env P ds d Q rm htk c e h
  obtain ⟨x, y, e1, e2, e3⟩ := eBin_inv e
  refine wpAny_BinOp (h1 w A s env P ds x _ rm htk c e1 fun a ha ta ka xa ra => ?_)
  refine h2 w A _ env P ds y _ rm ka (c.ext xa) e2 fun b hb tb kb xb rb => ?_
  exact hop w A _ B P a b x y d Q rm hB kb (c.ext (xa.trans xb)).top (fun b hb' => c.fresh b ((xa.trans xb).dead hb')) (ra.ext xb) rb e3 fun v h' tk kv xv rv => h v h' tk kv ((xa.trans xb).trans xv) rv

theorem den_cmp {l r : Expr} {op : CmpOp} {pos : Pos} {g : D → D → Option D} {f1 f2 : List D → Option D} (hop : Op2 t (compareOp op) g) (h1 : DenE t B vars gls l f1) (h2 : DenE t B vars gls r f2)
    (hm : behindInMarks op r = false := by with_unfolding_all rfl) (hB : B ≤ 900 := by decide) :
    DenE t B vars gls (.Compare l [op] [r] pos) (eBin g f1 f2) := by
  intro w A s env P ds d Q rm htk c e h
  obtain ⟨x, y, e1, e2, e3⟩ := eBin_inv e
  refine wpAny_Compare1 (h1 w A s env P ds x _ rm htk c e1 fun a ha ta ka xa ra => ?_) hm
  refine h2 w A _ env P ds y _ rm ka (c.ext xa) e2 fun b hb tb kb xb rb => ?_
  exact hop w A _ B P a b x y d Q rm hB kb (c.ext (xa.trans xb)).top (fun b hb' => c.fresh b ((xa.trans xb).dead hb')) (ra.ext xb) rb e3 fun v h' tk kv xv rv => h v h' tk kv ((xa.trans xb).trans xv) rv
end
end Mine

namespace Mine
open PySem PySem.Calls PyProof.Rows

theorem IsList_of {h : Heap} {a : Addr} {vs : Array Value} {n : Nat} (e : h.get? a = some (LObj vs n)) : h.IsList a vs := ⟨_, e, rfl, n, rfl⟩
theorem IsTuple_of {h : Heap} {a : Addr} {vs : Array Value} {n : Nat} (e : h.get? a = some (TObj vs n)) : h.IsTuple a vs := ⟨_, e, rfl, n, rfl⟩

noncomputable abbrev dFlt (x : UInt64) : Option D := some (.flt x)
noncomputable abbrev fits (b : Int) : Bool := !Float64.isInf (Float64.ofInt b)

noncomputable def dAdd : D → D → Option D
  | .int a, .int b => some (.int (a + b))
  | .flt a, .flt b => some (.flt (Float64.add a b))
  | .flt a, .int b => if fits b then some (.flt (Float64.add a (Float64.ofInt b))) else none
  | .list xs, .list ys => if xs.length + ys.length ≤ 65536 then some (.list (xs ++ ys)) else none
  | _, _ => none
noncomputable def dSub : D → D → Option D
  | .int a, .int b => some (.int (a - b))
  | .flt a, .flt b => some (.flt (Float64.sub a b))
  | .flt a, .int b => if fits b then some (.flt (Float64.sub a (Float64.ofInt b))) else none
  | _, _ => none
noncomputable def dMul : D → D → Option D
  | .int a, .int b => if a.natAbs < 2 ^ 60 then some (.int (a * b)) else none
  | .flt a, .flt b => some (.flt (Float64.mul a b))
  | .flt a, .int b => if fits b then some (.flt (Float64.mul a (Float64.ofInt b))) else none
  | .list xs, .int b => if 0 ≤ b ∧ b ≤ 65536 ∧ xs.length = 1 then some (.list (List.replicate b.toNat xs).flatten) else none
  | _, _ => none
noncomputable def dDiv : D → D → Option D
  | .int a, .int b => if b ≠ 0 ∧ Float64.isInf (Float64.ofFrac (decide (a < 0) != decide (b < 0)) a.natAbs b.natAbs) = false then some (.flt (Float64.ofFrac (decide (a < 0) != decide (b < 0)) a.natAbs b.natAbs)) else none
  | .flt a, .flt b => if Float64.isZero b then none else some (.flt (Float64.div a b))
  | _, _ => none
noncomputable def dFloorDiv : D → D → Option D
  | .int a, .int b => if b ≠ 0 ∧ b.natAbs < 1073741824 then some (.int (a.fdiv b)) else none
  | _, _ => none
noncomputable def dFloorDivBig : D → D → Option D := dFloorDiv
noncomputable def dMod : D → D → Option D
  | .int a, .int b => if b ≠ 0 then some (.int (a.fmod b)) else none
  | .flt a, .flt b => if Float64.isZero b then none else some (.flt (Float64.divmod a b).snd)
  | _, _ => none
noncomputable def dPow : D → D → Option D
  | .int a, .int n => if 0 ≤ n ∧ (Builtin.Int.intBits a : Int) * n ≤ 2 ^ 27 then some (.int (a ^ n.toNat)) else none
  | _, _ => none
noncomputable def dLShift : D → D → Option D
  | .int a, .int n => if 0 ≤ n ∧ (Builtin.Int.intBits a : Int) + n ≤ 2 ^ 27 then some (.int (a * 2 ^ n.toNat)) else none
  | _, _ => none
noncomputable def dRShift : D → D → Option D
  | .int a, .int n => if 0 ≤ n then some (.int (a.fdiv (2 ^ n.toNat))) else none
  | _, _ => none
noncomputable def dAnd : D → D → Option D
  | .int a, .int b => some (.int (Builtin.bitAnd a b))
  | _, _ => none
noncomputable def dXor : D → D → Option D
  | .int a, .int b => some (.int (Builtin.bitXor a b))
  | _, _ => none

section
variable {w : World} {A : Around} {s : Shared} {P : Addr → Prop} {Q : Value → Shared → Prop} {E : Value → Shared → Prop}

theorem op_add {t : Tops} : Op2 t (binaryOp .Add) dAdd := by
  intro w A s B P a b x y d Q rm hB htk htop fr ra rb e h
  cases ra <;> first | exact nn e | (cases rb <;> first | exact nn e | (delta dAdd at e; simp only [Option.some.injEq, reduceCtorEq] at e))
  case int.int i _ j _ => subst e; exact wpAny_add_int (h _ s.heap _ (Nat.succ_pos _) (Ext.refl _) (.int _ _))
  case flt.int x _ _ j _ =>
    split at e
    · cases e; rename_i hf; exact AutoFloatOps.add_fi_1 (by simpa using hf) (h _ s.heap _ (Nat.succ_pos _) (Ext.refl _) (.flt _ _ (Nat.ne_of_gt htk)))
    · cases e
  case flt.flt x _ _ y _ _ => subst e; exact AutoFloatOps.add_0 (h _ s.heap _ (Nat.succ_pos _) (Ext.refl _) (.flt _ _ (Nat.ne_of_gt htk)))
  case list.list a vs n xs p hl r a' vs' n' ys p' hl' r' =>
    split at e
    · cases e
      rename_i hz
      have l1 : vs.size = xs.length := by rw [← r.length, Array.length_toList]
      have l2 : vs'.size = ys.length := by rw [← r'.length, Array.length_toList]
      refine PySem.P.add_list hl hl' (h _ _ s.toks htk (Ext.push _ _) (.list (fr _ (dead_size _)) (Heap.get?_push_size _ rfl) ?_)) (by rw [l1, l2, sizeLine_eq]; omega)
      rw [Array.toList_append]
      exact (r.append r').ext (Ext.push _ _)
    · cases e
theorem op_sub {t : Tops} : Op2 t (binaryOp .Sub) dSub := by
  intro w A s B P a b x y d Q rm hB htk htop fr ra rb e h
  cases ra <;> first | exact nn e | (cases rb <;> first | exact nn e | (delta dSub at e; simp only [Option.some.injEq, reduceCtorEq] at e))
  case int.int i _ j _ => subst e; exact sub_int (h _ s.heap _ (Nat.succ_pos _) (Ext.refl _) (.int _ _))
  case flt.int x _ _ j _ =>
    split at e
    · cases e; rename_i hf; exact AutoFloatOps.sub_fi_1 (by simpa using hf) (h _ s.heap _ (Nat.succ_pos _) (Ext.refl _) (.flt _ _ (Nat.ne_of_gt htk)))
    · cases e
  case flt.flt x _ _ y _ _ => subst e; exact AutoFloatOps.sub_0 (h _ s.heap _ (Nat.succ_pos _) (Ext.refl _) (.flt _ _ (Nat.ne_of_gt htk)))
theorem bits_small {a : Int} (h : a.natAbs < 2 ^ 60) : Builtin.Int.intBits a ≤ 64 := by
  unfold Builtin.Int.intBits
  split
  · omega
  · rename_i h0
    have : a.natAbs.log2 < 60 := (Nat.log2_lt (by intro e; apply h0; simp [Int.natAbs_eq_zero.mp e])).mpr h
    omega
theorem replicate_flat {α : Type} (v : α) : ∀ (n : Nat) (acc : Array α), (List.foldl (fun x1 x2 => x1 ++ x2) acc (List.replicate n #[v])).toList = acc.toList ++ (List.replicate n [v]).flatten
  | 0, acc => by simp
  | n + 1, acc => by
    rw [List.replicate_succ, List.foldl_cons, replicate_flat v n, List.replicate_succ, List.flatten_cons]
    simp
theorem repL_replicate {P : Addr → Prop} {h : Heap} {v : Value} {d : D} (r : Rep P h v d) : ∀ n, RepL P h (List.replicate n [v]).flatten (List.replicate n [d]).flatten
  | 0 => .nil
  | n + 1 => .cons r (repL_replicate r n)

theorem op_mul {t : Tops} : Op2 t (binaryOp .Mult) dMul := by
  intro w A s B P a b x y d Q rm hB htk htop fr ra rb e h
  cases ra <;> first | exact nn e | (cases rb <;> first | exact nn e | (delta dMul at e; simp only [Option.some.injEq, reduceCtorEq] at e))
  case int.int i _ j _ =>
    split at e
    · cases e; rename_i hz; exact mul_int (h _ s.heap _ (Nat.succ_pos _) (Ext.refl _) (.int _ _)) (IntMulOk.of_left (bits_small hz))
    · cases e
  case flt.int x _ _ j _ =>
    split at e
    · cases e; rename_i hf; exact AutoFloatOps.mul_fi_1 (by simpa using hf) (h _ s.heap _ (Nat.succ_pos _) (Ext.refl _) (.flt _ _ (Nat.ne_of_gt htk)))
    · cases e
  case flt.flt x _ _ y _ _ => subst e; exact AutoFloatOps.mul_0 (h _ s.heap _ (Nat.succ_pos _) (Ext.refl _) (.flt _ _ (Nat.ne_of_gt htk)))
  case list.int a vs n xs p hl r j ju =>
    split at e
    · cases e
      rename_i hz
      obtain ⟨h0, h1, h2⟩ := hz
      cases r' : xs with
      | nil => rw [r'] at h2; cases h2
      | cons x xs' =>
        cases xs' with
        | cons _ _ => rw [r'] at h2; cases h2
        | nil =>
          subst r'
          obtain ⟨vl⟩ := vs
          cases r with
          | cons rv rn =>
            cases rn
            rename_i v
            have hlong : ¬ Builtin.List.listTooLong ((#[v] : Array Value).size * j.toNat) = true := by
              have e1 : (#[v] : Array Value).size = 1 := rfl
              rw [e1]
              simp [Builtin.List.listTooLong, sizeLine]
              omega
            refine wpAny_binaryOp_repeat_ref (T := "list") (U := "int") (by decide) ⟨_, hl, rfl⟩ (fun s' => typeIs_int s' j ju) noFill_list_mul F.fills_int_mul F.slot_int_rmul repeat_list F.slot_int_index.lookup
              (call_meets F.slot_int_rmul (typeIs_int s j ju) F.entry_int_rmul (F.args_int_rmul_2 _ _) (int___rmul___int_list j ju a #[v] n)
                ⟨hl, rfl, ⟨_, hl, rfl⟩, call_meets F.slot_list_mul ⟨_, hl, rfl⟩ F.entry_list_mul (F.args_list_mul_2 _ _)
                  (AutoListH.list___mul___list_int_3 a #[v] n j ju (by simp [Builtin.List.listFitsIndex]; omega) (by have e1 : (#[v] : Array Value).size = 1 := rfl; rw [e1]; omega) hlong)
                  ⟨hl, h _ _ s.toks htk (Ext.push _ _) (.list (fr _ (dead_size _)) (Heap.get?_push_size _ rfl) ?_)⟩⟩)
            have e1 : (if (#[v] : Array Value).isEmpty = true then 0 else j.toNat) = j.toNat := rfl
            rw [e1, replicate_flat]
            exact (repL_replicate (rv.ext (Ext.push _ _)) j.toNat)
    · cases e
theorem op_div {t : Tops} : Op2 t (binaryOp .Div) dDiv := by
  intro w A s B P a b x y d Q rm hB htk htop fr ra rb e h
  cases ra <;> first | exact nn e | (cases rb <;> first | exact nn e | (delta dDiv at e; simp only [Option.some.injEq, reduceCtorEq] at e))
  case int.int i _ j _ =>
    split at e
    · cases e; rename_i hz; exact AutoIntOps.truediv_2 (by simpa using hz.1) (by rw [hz.2]; decide) (h _ s.heap _ (Nat.succ_pos _) (Ext.refl _) (.flt _ _ (Nat.ne_of_gt htk)))
    · cases e
  case flt.flt x _ _ y _ _ =>
    split at e
    · cases e
    · cases e; rename_i hz; exact AutoFloatOps.truediv_1 hz (h _ s.heap _ (Nat.succ_pos _) (Ext.refl _) (.flt _ _ (Nat.ne_of_gt htk)))
theorem op_floordiv {t : Tops} : Op2 t (binaryOp .FloorDiv) dFloorDiv := by
  intro w A s B P a b x y d Q rm hB htk htop fr ra rb e h
  cases ra <;> first | exact nn e | (cases rb <;> first | exact nn e | (delta dFloorDiv at e; simp only [Option.some.injEq, reduceCtorEq] at e))
  case int.int i _ j _ =>
    split at e
    · cases e; rename_i hz; exact floordiv_int hz.1 (h _ s.heap _ (Nat.succ_pos _) (Ext.refl _) (.int _ _)) (.inl (PyProof.noPylong_small hz.2))
    · cases e
theorem op_mod {t : Tops} : Op2 t (binaryOp .Mod) dMod := by
  intro w A s B P a b x y d Q rm hB htk htop fr ra rb e h
  cases ra <;> first | exact nn e | (cases rb <;> first | exact nn e | (delta dMod at e; simp only [Option.some.injEq, reduceCtorEq] at e))
  case int.int i _ j _ =>
    split at e
    · cases e; rename_i hz; exact mod_int hz (h _ s.heap _ (Nat.succ_pos _) (Ext.refl _) (.int _ _))
    · cases e
  case flt.flt x _ _ y _ _ =>
    split at e
    · cases e
    · cases e; rename_i hz; exact AutoFloatOps.mod_1 hz (h _ s.heap _ (Nat.succ_pos _) (Ext.refl _) (.flt _ _ (Nat.ne_of_gt htk)))
theorem op_pow {t : Tops} : Op2 t (binaryOp .Pow) dPow := by
  intro w A s B P a b x y d Q rm hB htk htop fr ra rb e h
  cases ra <;> first | exact nn e | (cases rb <;> first | exact nn e | (delta dPow at e; simp only [Option.some.injEq, reduceCtorEq] at e))
  case int.int i _ j _ =>
    split at e
    · cases e; rename_i hz; exact pow_int hz.1 hz.2 (h _ s.heap _ (Nat.succ_pos _) (Ext.refl _) (.int _ _))
    · cases e
theorem op_lshift {t : Tops} : Op2 t (binaryOp .LShift) dLShift := by
  intro w A s B P a b x y d Q rm hB htk htop fr ra rb e h
  cases ra <;> first | exact nn e | (cases rb <;> first | exact nn e | (delta dLShift at e; simp only [Option.some.injEq, reduceCtorEq] at e))
  case int.int i _ j _ =>
    split at e
    · cases e; rename_i hz; exact lshift_int hz.1 hz.2 (h _ s.heap _ (Nat.succ_pos _) (Ext.refl _) (.int _ _))
    · cases e
theorem op_rshift {t : Tops} : Op2 t (binaryOp .RShift) dRShift := by
  intro w A s B P a b x y d Q rm hB htk htop fr ra rb e h
  cases ra <;> first | exact nn e | (cases rb <;> first | exact nn e | (delta dRShift at e; simp only [Option.some.injEq, reduceCtorEq] at e))
  case int.int i _ j _ =>
    split at e
    · cases e; rename_i hz; exact rshift_int hz (h _ s.heap _ (Nat.succ_pos _) (Ext.refl _) (.int _ _))
    · cases e
theorem op_and {t : Tops} : Op2 t (binaryOp .BitAnd) dAnd := by
  intro w A s B P a b x y d Q rm hB htk htop fr ra rb e h
  cases ra <;> first | exact nn e | (cases rb <;> first | exact nn e | (delta dAnd at e; simp only [Option.some.injEq, reduceCtorEq] at e))
  case int.int i _ j _ => subst e; exact and_int (h _ s.heap _ (Nat.succ_pos _) (Ext.refl _) (.int _ _))
theorem op_ixor {t : Tops} : Op2 t (inplaceOp .BitXor) dXor := by
  intro w A s B P a b x y d Q rm hB htk htop fr ra rb e h
  cases ra <;> first | exact nn e | (cases rb <;> first | exact nn e | (delta dXor at e; simp only [Option.some.injEq, reduceCtorEq] at e))
  case int.int i _ j _ => subst e; exact ixor_int (h _ s.heap _ (Nat.succ_pos _) (Ext.refl _) (.int _ _))
noncomputable def dIAdd : D → D → Option D
  | .int a, .int b => some (.int (a + b))
  | .str a, .str b => if a.length + b.length ≤ 65536 then some (.str (a ++ b)) else none
  | _, _ => none
theorem op_iadd {t : Tops} : Op2 t (inplaceOp .Add) dIAdd := by
  intro w A s B P a b x y d Q rm hB htk htop fr ra rb e h
  cases ra <;> first | exact nn e | (cases rb <;> first | exact nn e | (delta dIAdd at e; simp only [Option.some.injEq, reduceCtorEq] at e))
  case int.int i _ j _ => subst e; exact iadd_int (h _ s.heap _ (Nat.succ_pos _) (Ext.refl _) (.int _ _))
  case str.str i _ j _ =>
    split at e
    · cases e; rename_i hz; exact wpAny_with_toks htk (iadd_str (fun _ _ k => h _ s.heap _ k (Ext.refl _) (.str _ _)) (by rw [sizeLine_eq]; omega))
    · cases e
end
end Mine

namespace Mine
open PySem PySem.Calls PyProof.Rows

/-! equality -/
noncomputable def sEq : D → D → Option Bool
  | .int a, .int b => some (a == b)
  | .str a, .str b => some (a == b)
  | .bool a, .bool b => some (a == b)
  | .flt a, .flt b => if a == b && !Float64.isNaN a && (Float64.cmp a b == some Ordering.eq) then some true else none
  | _, _ => none
noncomputable def lEq : List D → List D → Option Bool
  | [], [] => some true
  | x :: xs, y :: ys => match sEq x y with
    | some b => match lEq xs ys with
      | some c => some (b && c)
      | none => none
    | none => none
  | _, _ => none
noncomputable def dEqL (xs ys : List D) : Option Bool := if xs.length = ys.length then lEq xs ys else some false

theorem wpAny_isSame_flt {M : Model} {A : Around} {E : Value → Shared → Prop} {s : Shared} {x : UInt64} {t u : Tok} {R : Bool → Shared → Prop} (ht : t ≠ 0) (hu : u ≠ 0) (hn : Float64.isNaN x = false)
    (hs : s.heap.Ns cStatics (fun _ => none)) (h : ∀ b, R b s) : wpAny M A (isSame (.float x t) (.float x u)) R E s := by
  unfold isSame isSame.created
  have h0 : (t == 0 || u == 0) = false := by simp [ht, hu]
  have hx : (x == x && !Float64.isNaN x) = true := by simp [hn]
  simp only [h0, hx, Bool.false_eq_true, if_false, Bool.not_true]
  cases htu : t == u with
  | true => simp only [if_true]; exact wpAny_pure (h true)
  | false =>
    simp only [Bool.false_eq_true, if_false]
    refine wpAny_bind ?_
    unfold sharingNotTold
    refine wpAny_bind (wpAny_nsGet hs ?_)
    refine wpAny_pure ?_
    simp only [Bool.false_eq_true, if_false]
    refine wpAny_bind (wpAny_bind (wpAny_nsGet hs ?_))
    refine wpAny_pure ?_
    simp only [Bool.false_eq_true, if_false]
    refine wpAny_bind (wpAny_rule ?_)
    exact fun _ _ _ => h _

theorem eqAt_flt {A : Around} {s : Shared} {x : UInt64} {t u : Tok} (ht : t ≠ 0) (hu : u ≠ 0) (hn : Float64.isNaN x = false) (hc : (Float64.cmp x x == some Ordering.eq) = true)
    (hs : s.heap.Ns cStatics (fun _ => none)) : SeqAt.EqAt A s (.float x t) (.float x u) true := fun prog w E Q h => by
  unfold eqBool
  show wpAny _ _ (if (Value.float x t == Value.float x u) = true then _ else _) Q E s
  by_cases hab : (Value.float x t == Value.float x u) = true
  · rw [if_pos hab]
    exact wpAny_bind (wpAny_rule (wpAny_pure h))
  · rw [if_neg hab]
    refine wpAny_bind (wpAny_isSame_flt ht hu hn hs fun b => ?_)
    cases b with
    | true => exact wpAny_pure h
    | false =>
      refine wpAny_bind (m := richCompare CmpOp.Eq (Value.float x t) (Value.float x u)) ?_
      exact AutoFloatOps.eq_0 (by rw [hc]; exact wpAny_truthy_bool h)

theorem eqAt_s {A : Around} {s : Shared} {P : Addr → Prop} {a b : Value} {x y : D} {k : Bool} (hs : s.heap.Ns cStatics (fun _ => none)) (ra : Rep P s.heap a x) (rb : Rep P s.heap b y) (e : sEq x y = some k) : SeqAt.EqAt A s a b k := by
  cases ra <;> first | exact nn e | (cases rb <;> first | exact nn e | (delta sEq at e; simp only [Option.some.injEq, reduceCtorEq] at e))
  case bool.bool => subst e; exact SeqAt.EqAt.bool_bool _ _
  case int.int => subst e; exact SeqAt.EqAt.int_int _ _ _ _
  case flt.flt x t ht y u hu =>
    split at e
    · cases e
      rename_i hz
      simp only [Bool.and_eq_true, beq_iff_eq, Bool.not_eq_true'] at hz
      obtain ⟨⟨rfl, hn⟩, hc⟩ := hz
      exact eqAt_flt ht hu hn (by rw [hc]; rfl) hs
    · cases e
  case str.str => subst e; exact SeqAt.EqAt.str_str _ _ _ _

noncomputable def eFun (xs ys : List D) (j : Nat) : Bool := match xs[j]?, ys[j]? with
  | some x, some y => (sEq x y).getD false
  | _, _ => false
theorem lEq_all : ∀ (xs ys : List D) (k : Bool), lEq xs ys = some k →
    (∀ (j : Nat) (x y : D), xs[j]? = some x → ys[j]? = some y → ∃ b, sEq x y = some b) ∧ (List.range xs.length).all (eFun xs ys) = k ∧ xs.length = ys.length
  | [], [], k, e => by cases e; exact ⟨fun j x y h => by simp at h, rfl, rfl⟩
  | [], _ :: _, k, e => by cases e
  | _ :: _, [], k, e => by cases e
  | x :: xs, y :: ys, k, e => by
    unfold lEq at e
    cases h1 : sEq x y with
    | none => rw [h1] at e; cases e
    | some b =>
      rw [h1] at e; dsimp only at e
      cases h2 : lEq xs ys with
      | none => rw [h2] at e; cases e
      | some c =>
        rw [h2] at e; cases e
        obtain ⟨i1, i2, i3⟩ := lEq_all xs ys c h2
        refine ⟨fun j x' y' hx hy => ?_, ?_, by simp [i3]⟩
        · cases j with
          | zero => simp at hx hy; subst hx hy; exact ⟨b, h1⟩
          | succ j => simp at hx hy; exact i1 j x' y' hx hy
        · rw [List.length_cons, List.range_succ_eq_map, List.all_cons, List.all_map]
          have : (eFun (x :: xs) (y :: ys)) ∘ Nat.succ = eFun xs ys := by funext j; simp [eFun]
          rw [this, i2]
          simp [eFun, h1]
theorem eqAt_items {A : Around} {s : Shared} {P : Addr → Prop} {as bs : Array Value} {xs ys : List D} (hs : s.heap.Ns cStatics (fun _ => none)) (ra : RepL P s.heap as.toList xs) (rb : RepL P s.heap bs.toList ys)
    (e : ∀ (j : Nat) (x y : D), xs[j]? = some x → ys[j]? = some y → ∃ b, sEq x y = some b) :
    ∀ j (h1 : j < as.size) (h2 : j < bs.size), SeqAt.EqAt A s as[j] bs[j] (eFun xs ys j) := by
  intro j h1 h2
  have l1 := ra.length; have l2 := rb.length
  rw [Array.length_toList] at l1 l2
  have hx : xs[j]? = some (xs[j]'(by omega)) := List.getElem?_eq_getElem _
  have hy : ys[j]? = some (ys[j]'(by omega)) := List.getElem?_eq_getElem _
  obtain ⟨b, hb⟩ := e j _ _ hx hy
  obtain ⟨v, hv, rv⟩ := ra.get j _ hx
  obtain ⟨u, hu, ru⟩ := rb.get j _ hy
  have ev : as[j] = v := by rw [Array.getElem?_toList] at hv; exact Option.some.inj ((Array.getElem?_eq_getElem h1).symm.trans hv)
  have eu : bs[j] = u := by rw [Array.getElem?_toList] at hu; exact Option.some.inj ((Array.getElem?_eq_getElem h2).symm.trans hu)
  have ee : eFun xs ys j = b := by simp only [eFun, hx, hy, hb]; rfl
  rw [ev, eu, ee]
  exact eqAt_s hs rv ru hb

noncomputable def dEq : D → D → Option D
  | .int a, .int b => some (.bool (a == b))
  | .flt a, .flt b => some (.bool (Float64.cmp a b == some Ordering.eq))
  | .str a, .str b => some (.bool (a == b))
  | _, _ => none
noncomputable def dNe : D → D → Option D
  | .int a, .int b => some (.bool (a != b))
  | .str a, .str b => some (.bool (a != b))
  | .list xs, .list ys => match dEqL xs ys with | some b => some (.bool (!b)) | none => none
  | .tup xs, .tup ys => match lEq xs ys with | some b => some (.bool (!b)) | none => none
  | _, _ => none
noncomputable def dLe : D → D → Option D
  | .flt a, .flt b => some (.bool (Float64.cmp a b == some Ordering.lt || Float64.cmp a b == some Ordering.eq))
  | .str a, .str b => some (.bool (!decide (b.cps.toList < a.cps.toList)))
  | _, _ => none

theorem str_beq (a b : Str) : (a.cps.toList == b.cps.toList) = (a == b) := by
  cases h : a == b with
  | true => rw [beq_iff_eq] at h; subst h; simp
  | false =>
    rw [beq_eq_false_iff_ne] at h ⊢
    intro e; apply h
    obtain ⟨⟨x⟩⟩ := a; obtain ⟨⟨y⟩⟩ := b
    simp at e; subst e; rfl

theorem op_eq {t : Tops} : Op2 t (compareOp .Eq) dEq := by
  intro w A s B P a b x y d Q rm hB htk htop fr ra rb e h
  cases ra <;> first | exact nn e | (cases rb <;> first | exact nn e | (delta dEq at e; simp only [Option.some.injEq, reduceCtorEq] at e))
  case int.int => subst e; exact eq_int (h _ s.heap s.toks htk (Ext.refl _) (.bool _))
  case flt.flt => subst e; exact AutoFloatOps.eq_0 (h _ s.heap s.toks htk (Ext.refl _) (.bool _))
  case str.str => subst e; exact PySem.P.eq_str (by rw [str_beq]; exact h _ s.heap s.toks htk (Ext.refl _) (.bool _))
theorem op_ne {t : Tops} : Op2 t (compareOp .NotEq) dNe := by
  intro w A s B P a b x y d Q rm hB htk htop fr ra rb e h
  obtain ⟨N, mg, mb, hT⟩ := htop
  have hu : A.units < cLine := by have := rm.units; unfold cLine; omega
  cases ra <;> first | exact nn e | (cases rb <;> first | exact nn e | (delta dNe at e; simp only [Option.some.injEq, reduceCtorEq] at e))
  case int.int => subst e; exact ne_int (h _ s.heap s.toks htk (Ext.refl _) (.bool _))
  case str.str i _ j _ => subst e; exact PySem.P.ne_str (by have := str_beq i j; rw [bne, this]; exact h _ s.heap s.toks htk (Ext.refl _) (.bool _))
  case list.list a vs n xs p hl r a' vs' n' ys p' hl' r' =>
    have l1 : vs.size = xs.length := by rw [← r.length, Array.length_toList]
    have l2 : vs'.size = ys.length := by rw [← r'.length, Array.length_toList]
    unfold dEqL at e
    by_cases hlen : xs.length = ys.length
    · rw [if_pos hlen] at e
      cases h1 : lEq xs ys with
      | none => rw [h1] at e; cases e
      | some k =>
        rw [h1] at e; cases e
        obtain ⟨i1, i2, i3⟩ := lEq_all xs ys k h1
        refine SeqAt.RcNeAt.lists (IsList_of hl) (IsList_of hl') (by omega) hu (eqAt_items hT.S r r' i1) prog w NoE Q ?_
        rw [l1, i2]
        exact h _ s.heap s.toks htk (Ext.refl _) (.bool _)
    · rw [if_neg hlen] at e
      cases e
      exact SeqAt.RcNeAt.lists_lengths (IsList_of hl) (IsList_of hl') (by simp; omega) hu prog w NoE Q (h _ s.heap s.toks htk (Ext.refl _) (.bool true))
  case tup.tup a vs n xs p hl r a' vs' n' ys p' hl' r' =>
    have l1 : vs.size = xs.length := by rw [← r.length, Array.length_toList]
    have l2 : vs'.size = ys.length := by rw [← r'.length, Array.length_toList]
    cases h1 : lEq xs ys with
    | none => rw [h1] at e; cases e
    | some k =>
      rw [h1] at e; cases e
      obtain ⟨i1, i2, i3⟩ := lEq_all xs ys k h1
      refine SeqAt.RcNeAt.tuples (IsTuple_of hl) (IsTuple_of hl') hu (eqAt_items hT.S r r' i1) prog w NoE Q ?_
      rw [l1, l2, ← i3, Nat.min_self, i2]
      simpa using h _ s.heap s.toks htk (Ext.refl _) (.bool (!k))
theorem op_le {t : Tops} : Op2 t (compareOp .LtE) dLe := by
  intro w A s B P a b x y d Q rm hB htk htop fr ra rb e h
  cases ra <;> first | exact nn e | (cases rb <;> first | exact nn e | (delta dLe at e; simp only [Option.some.injEq, reduceCtorEq] at e))
  case flt.flt => subst e; exact AutoFloatOps.le_0 (h _ s.heap s.toks htk (Ext.refl _) (.bool _))
  case str.str => subst e; exact PySem.P.le_str (h _ s.heap s.toks htk (Ext.refl _) (.bool _))

/-! in, is -/
noncomputable def valE : D → Value → Bool
  | .int i, .int a _ => a == i
  | .str i, .str a _ => a == i
  | _, _ => false
noncomputable def dInAll (k : D) : List D → Option Bool
  | [] => some false
  | y :: ys => match sEq y k with
    | some b => match dInAll k ys with
      | some c => some (b || c)
      | none => none
    | none => none
noncomputable def dKey : D → Bool
  | .int _ => true
  | .str _ => true
  | _ => false
theorem inAll_ok {A : Around} {s : Shared} {P : Addr → Prop} {kv : Value} {k : D} (hk : dKey k = true) (rk : Rep P s.heap kv k) : ∀ {vs : List Value} {ys : List D} {b : Bool}, RepL P s.heap vs ys → dInAll k ys = some b →
    (∀ y, y ∈ vs → SeqAt.EqAt A s y kv (valE k y)) ∧ vs.any (valE k) = b
  | _, _, b, .nil, e => by cases e; exact ⟨fun y h => by simp at h, rfl⟩
  | _, _, b, .cons (v := v) (d := d) (vs := vs) (ds := ds) r rs, e => by
    unfold dInAll at e
    cases h1 : sEq d k with
    | none => rw [h1] at e; cases e
    | some b1 =>
      rw [h1] at e; dsimp only at e
      cases h2 : dInAll k ds with
      | none => rw [h2] at e; cases e
      | some c =>
        rw [h2] at e; cases e
        obtain ⟨i1, i2⟩ := inAll_ok hk rk rs h2
        have hv : SeqAt.EqAt A s v kv (valE k v) ∧ valE k v = b1 := by
          cases rk <;> simp only [dKey, Bool.false_eq_true] at hk <;> cases r <;> (delta sEq at h1; simp only [Option.some.injEq, reduceCtorEq] at h1)
          · subst h1; exact ⟨SeqAt.EqAt.int_int _ _ _ _, rfl⟩
          · subst h1; exact ⟨SeqAt.EqAt.str_str _ _ _ _, rfl⟩
        refine ⟨fun y hy => ?_, ?_⟩
        · rcases List.mem_cons.mp hy with rfl | hy
          · exact hv.1
          · exact i1 y hy
        · rw [List.any_cons, hv.2, i2]
noncomputable def dIn : D → D → Option D
  | k, .list ys => if dKey k then match dInAll k ys with | some b => some (.bool b) | none => none else none
  | _, _ => none
noncomputable def dNotIn : D → D → Option D
  | k, .list ys => if dKey k then match dInAll k ys with | some b => some (.bool (!b)) | none => none else none
  | _, _ => none
theorem op_in {t : Tops} : Op2 t (compareOp .In) dIn := by
  intro w A s B P a b x y d Q rm hB htk htop fr ra rb e h
  cases rb <;> first | exact nn e | (delta dIn at e; simp only [Option.some.injEq, reduceCtorEq] at e)
  case list l vs n ys p hl r =>
    split at e
    · rename_i hk
      cases h1 : dInAll x ys with
      | none => rw [h1] at e; cases e
      | some k =>
        rw [h1] at e; cases e
        obtain ⟨i1, i2⟩ := inAll_ok (A := A.in1) hk ra r h1
        refine SeqAt.in_listAt (valE x) (IsList_of hl) (fun y hy => i1 y (Array.mem_toList_iff.mpr hy)) ?_
        rw [← Array.any_toList, i2]
        exact h _ s.heap s.toks htk (Ext.refl _) (.bool k)
    · cases e
theorem op_notin {t : Tops} : Op2 t (compareOp .NotIn) dNotIn := by
  intro w A s B P a b x y d Q rm hB htk htop fr ra rb e h
  cases rb <;> first | exact nn e | (delta dNotIn at e; simp only [Option.some.injEq, reduceCtorEq] at e)
  case list l vs n ys p hl r =>
    split at e
    · rename_i hk
      cases h1 : dInAll x ys with
      | none => rw [h1] at e; cases e
      | some k =>
        rw [h1] at e; cases e
        obtain ⟨i1, i2⟩ := inAll_ok (A := A.in1) hk ra r h1
        refine SeqAt.notIn_listAt (valE x) (IsList_of hl) (fun y hy => i1 y (Array.mem_toList_iff.mpr hy)) ?_
        rw [← Array.any_toList, i2]
        exact h _ s.heap s.toks htk (Ext.refl _) (.bool _)
    · cases e
noncomputable def dIsNot : D → D → Option D
  | .bool a, .bool b => some (.bool (a != b))
  | .none, .none => some (.bool false)
  | .str _, .none => some (.bool true)
  | _, _ => none
theorem op_isnot {t : Tops} : Op2 t (compareOp .IsNot) dIsNot := by
  intro w A s B P a b x y d Q rm hB htk htop fr ra rb e h
  cases ra <;> first | exact nn e | (cases rb <;> first | exact nn e | (delta dIsNot at e; simp only [Option.some.injEq, reduceCtorEq] at e))
  case none.none => subst e; exact wpAny_isNot_self rfl (h _ s.heap s.toks htk (Ext.refl _) (.bool _))
  case bool.bool p q =>
    subst e
    refine wpAny_isNot_plain rfl ?_
    have : (!(Value.bool p == Value.bool q)) = (p != q) := by cases p <;> cases q <;> rfl
    rw [this]
    exact h _ s.heap s.toks htk (Ext.refl _) (.bool _)
  case str.none => subst e; exact wpAny_isNot_other rfl (by simp) (h _ s.heap s.toks htk (Ext.refl _) (.bool _))

/-! tests -/
section
variable {t : Tops} {B : Nat} {vars : List Str} {gls : Sc}
noncomputable def dTruth : D → Option Bool
  | .bool b => some b
  | .int a => some (a != 0)
  | _ => none
theorem truth_of {w : World} {A : Around} {s : Shared} {P : Addr → Prop} {v : Value} {d : D} {b : Bool} {Q : Bool → Shared → Prop} (r : Rep P s.heap v d) (e : dTruth d = some b) (h : Q b s) : wpAny (model prog w) A (truthy v) Q NoE s := by
  cases r <;> first | exact nn e | (delta dTruth at e; simp only [Option.some.injEq, reduceCtorEq] at e)
  · subst e; exact wpAny_truthy_bool h
  · subst e; exact truthy_int h

noncomputable abbrev tOf (f : List D → Option D) : List D → Option Bool := fun ds => match f ds with
  | some d => dTruth d
  | none => none
theorem tOf_inv {f : List D → Option D} {ds : List D} {b : Bool} (e : tOf f ds = some b) : ∃ d, f ds = some d ∧ dTruth d = some b := by
  unfold tOf at e
  cases h : f ds with
  | none => rw [h] at e; cases e
  | some d => rw [h] at e; exact ⟨d, rfl, e⟩
theorem den_tplain {x : Expr} {f : List D → Option D} (hx : DenE t B vars gls x f)
    (he : ∀ (env : Env) (whole : Sem Value), isTrue x env whole = (do let v ← whole; standAt x.pos; holding [v] (truthy v)) := by intro _ _; rfl) : DenT t B vars gls x (tOf f) := by
  intro w A s env P ds b Q rm htk c e h
  obtain ⟨d, e1, e2⟩ := tOf_inv e
  refine isTrue_plain (hx w A s env P ds d _ rm htk c e1 fun v h' tk k xv rv => ?_) (he _ _)
  exact truth_of rv e2 (h h' tk k xv)
theorem den_tcmp {l r : Expr} {op : CmpOp} {pos : Pos} {g : D → D → Option D} {f1 f2 : List D → Option D} (hop : Op2 t (compareOp op) g) (h1 : DenE t B vars gls l f1) (h2 : DenE t B vars gls r f2)
    (hm : behindInMarks op r = false := by with_unfolding_all rfl) (hB : B ≤ 900 := by decide) :
    DenT t B vars gls (.Compare l [op] [r] pos) (tOf (eBin g f1 f2)) := by
  intro w A s env P ds b Q rm htk c e h
  obtain ⟨d, e0, e4⟩ := tOf_inv e
  obtain ⟨x, y, e1, e2, e3⟩ := eBin_inv e0
  refine wpAny_isTrue_Compare1 (h1 w A s env P ds x _ rm htk c e1 fun a ha ta ka xa ra => ?_) hm
  refine h2 w A _ env P ds y _ rm ka (c.ext xa) e2 fun b hb tb kb xb rb => ?_
  exact hop w A _ B P a b x y d _ rm hB kb (c.ext (xa.trans xb)).top (fun b hb' => c.fresh b ((xa.trans xb).dead hb')) (ra.ext xb) rb e3 fun v h' tk kv xv rv => truth_of rv e4 (h h' tk kv ((xa.trans xb).trans xv))
noncomputable abbrev tNot (f : List D → Option Bool) : List D → Option Bool := fun ds => match f ds with
  | some b => some (!b)
  | none => none
theorem den_tnot {x : Expr} {pos : Pos} {f : List D → Option Bool} (hx : DenT t B vars gls x f) : DenT t B vars gls (.UnaryOp .Not x pos) (tNot f) := by
  intro w A s env P ds b Q rm htk c e h
  unfold tNot at e
  cases h1 : f ds with
  | none => rw [h1] at e; cases e
  | some b' =>
    rw [h1] at e; cases e
    exact isTrue_not (hx w A s env P ds b' _ rm htk c h1 fun h' tk k xv => h h' tk k xv)
noncomputable abbrev tOr (f g : List D → Option Bool) : List D → Option Bool := fun ds => match f ds with
  | some true => some true
  | some false => g ds
  | none => none
theorem den_tor {x y : Expr} {pos : Pos} {f g : List D → Option Bool} (hx : DenT t B vars gls x f) (hy : DenT t B vars gls y g) : DenT t B vars gls (.BoolOp .Or [x, y] pos) (tOr f g) := by
  intro w A s env P ds b Q rm htk c e h
  unfold tOr at e
  cases h1 : f ds with
  | none => rw [h1] at e; cases e
  | some b' =>
    rw [h1] at e
    refine isTrue_or (hx w A s env P ds b' _ rm htk c h1 fun h' tk k xv => ?_)
    cases b' with
    | true => cases e; exact h h' tk k xv
    | false =>
      refine isTrue_or (hy w A _ env P ds b _ rm k (c.ext xv) e fun h'' tk' k' xv' => ?_)
      cases b with
      | true => exact h h'' tk' k' (xv.trans xv')
      | false => exact isTrue_or_nil (h h'' tk' k' (xv.trans xv'))
noncomputable abbrev tChain (g1 g2 : D → D → Option D) (f1 f2 f3 : List D → Option D) : List D → Option Bool := fun ds => match f1 ds, f2 ds with
  | some x, some y => match g1 x y with
    | some d => match dTruth d with
      | some true => match f3 ds with
        | some z => match g2 y z with
          | some d' => dTruth d'
          | none => none
        | none => none
      | some false => some false
      | none => none
    | none => none
  | _, _ => none
theorem den_tchain {l m r : Expr} {op1 op2 : CmpOp} {pos : Pos} {g1 g2 : D → D → Option D} {f1 f2 f3 : List D → Option D} (hop1 : Op2 t (compareOp op1) g1) (hop2 : Op2 t (compareOp op2) g2)
    (h1 : DenE t B vars gls l f1) (h2 : DenE t B vars gls m f2) (h3 : DenE t B vars gls r f3)
    (hm : lastMarks [op1, op2] [m, r] = false := by with_unfolding_all rfl) (hB : B ≤ 900 := by decide) :
    DenT t B vars gls (.Compare l [op1, op2] [m, r] pos) (tChain g1 g2 f1 f2 f3) := by
  intro w A s env P ds b Q rm htk c e h
  unfold tChain at e
  cases e1 : f1 ds with
  | none => rw [e1] at e; cases e
  | some x =>
  cases e2 : f2 ds with
  | none => rw [e1, e2] at e; cases e
  | some y =>
  rw [e1, e2] at e; dsimp only at e
  cases e3 : g1 x y with
  | none => rw [e3] at e; cases e
  | some d =>
  rw [e3] at e; dsimp only at e
  cases e4 : dTruth d with
  | none => rw [e4] at e; cases e
  | some k =>
  rw [e4] at e
  refine isTrue_chain (h1 w A s env P ds x _ rm htk c e1 fun a ha ta ka xa ra => ?_) hm
  refine test_link (h2 w A _ env P ds y _ rm ka (c.ext xa) e2 fun b' hb tb kb xb rb => ?_)
  refine hop1 w A _ B P a b' x y d _ rm hB kb (c.ext (xa.trans xb)).top (fun b hb' => c.fresh b ((xa.trans xb).dead hb')) (ra.ext xb) rb e3 fun v h' tk kv xv rv => ?_
  refine truth_of rv e4 ?_
  cases k with
  | false => cases e; exact h h' tk kv ((xa.trans xb).trans xv)
  | true =>
    dsimp only at e
    have x3 := (xa.trans xb).trans xv
    cases e5 : f3 ds with
    | none => rw [e5] at e; cases e
    | some z =>
    rw [e5] at e; dsimp only at e
    cases e6 : g2 y z with
    | none => rw [e6] at e; cases e
    | some d' =>
    rw [e6] at e
    refine test_last (h3 w A _ env P ds z _ rm kv (c.ext x3) e5 fun u hu tu ku xu ru => ?_)
    exact hop2 w A _ B P b' u y z d' _ rm hB ku (c.ext (x3.trans xu)).top (fun b hb' => c.fresh b ((x3.trans xu).dead hb')) ((rb.ext xv).ext xu) ru e6
      fun v' h'' tk' kv' xv' rv' => truth_of rv' e (h h'' tk' kv' ((x3.trans xu).trans xv'))
end
end Mine

namespace Mine
open PySem PySem.Calls PyProof.Rows

section
variable {t : Tops} {B : Nat} {vars : List Str} {gls : Sc}

/-! lists of expressions -/
noncomputable abbrev lNil : List D → Option (List D) := fun _ => some []
noncomputable abbrev lCons (f : List D → Option D) (g : List D → Option (List D)) : List D → Option (List D) := fun ds => match f ds with
  | some x => match g ds with
    | some xs => some (x :: xs)
    | none => none
  | none => none
theorem den_lnil : DenL t B vars gls [] lNil := by
  intro w A s env P pos ds es Q rm htk c e h
  cases e
  exact args_nil (h [] s.heap s.toks htk (Ext.refl _) .nil)
theorem den_lcons {e : Expr} {rest : List Expr} {f : List D → Option D} {g : List D → Option (List D)} (h1 : DenE t B vars gls e f) (h2 : DenL t B vars gls rest g)
    (he : ∀ env, starEach (e :: rest) env = (false, eval e env) :: starEach rest env := by intro _; rfl) : DenL t B vars gls (e :: rest) (lCons f g) := by
  intro w A s env P pos ds es Q rm htk c e h
  unfold lCons at e
  cases e1 : f ds with
  | none => rw [e1] at e; cases e
  | some x =>
  rw [e1] at e; dsimp only at e
  cases e2 : g ds with
  | none => rw [e2] at e; cases e
  | some xs =>
  rw [e2] at e; cases e
  refine args_cons (h1 w A s env P ds x _ rm htk c e1 fun v h' tk k xv rv => ?_) (he env)
  exact h2 w A _ env P pos ds xs _ rm k (c.ext xv) e2 fun vs h'' tk' k' xs' rs => h (v :: vs) h'' tk' k' (xv.trans xs') (.cons (rv.ext xs') rs)

/-! displays -/
noncomputable abbrev eList (g : List D → Option (List D)) : List D → Option D := fun ds => match g ds with
  | some xs => if xs.length ≤ 65536 then some (.list xs) else none
  | none => none
theorem eList_inv {g : List D → Option (List D)} {ds : List D} {d : D} (e : eList g ds = some d) : ∃ xs, g ds = some xs ∧ xs.length ≤ 65536 ∧ d = .list xs := by
  unfold eList at e
  cases h : g ds with
  | none => rw [h] at e; cases e
  | some xs =>
    rw [h] at e; dsimp only at e
    split at e
    · cases e; exact ⟨xs, rfl, by assumption, rfl⟩
    · cases e
theorem den_list {elts : List Expr} {pos : Pos} {g : List D → Option (List D)} (hg : DenL t B vars gls elts g) : DenE t B vars gls (.List elts pos) (eList g) := by
  intro w A s env P ds d Q rm htk c e h
  obtain ⟨xs, e1, hz, rfl⟩ := eList_inv e
  refine List_ (hg w A s env P pos ds xs _ rm htk c e1 fun vs h' tk k xv rv => ?_)
  refine wpAny_newList (h _ _ tk k (xv.trans (Ext.push _ _)) (.list (c.fresh _ (xv.dead (dead_size _))) (Heap.get?_push_size _ rfl) ?_)) (by rw [rv.length, sizeLine_eq]; omega)
  exact rv.ext (Ext.push _ _)
noncomputable abbrev eTup (g : List D → Option (List D)) : List D → Option D := fun ds => match g ds with
  | some xs => if xs.length ≤ 65536 then some (.tup xs) else none
  | none => none
theorem den_tup {elts : List Expr} {k : Nat} {pos : Pos} {g : List D → Option (List D)} (hg : DenL t B vars gls elts g) : DenE t B vars gls (.Tuple elts k pos) (eTup g) := by
  intro w A s env P ds d Q rm htk c e h
  unfold eTup at e
  cases e1 : g ds with
  | none => rw [e1] at e; cases e
  | some xs =>
  rw [e1] at e; dsimp only at e
  split at e
  · cases e
    refine Tuple_ (hg w A s env P pos ds xs _ rm htk c e1 fun vs h' tk k xv rv => ?_)
    refine wpAny_newTuple (h _ _ tk k (xv.trans (Ext.push _ _)) (.tup (c.fresh _ (xv.dead (dead_size _))) (Heap.get?_push_size _ rfl) ?_)) (by rw [rv.length, sizeLine_eq]; omega)
    exact rv.ext (Ext.push _ _)
  · cases e

/-! items and slices -/
noncomputable def dIdx : D → D → Option D
  | .list xs, .int i => if 0 ≤ i ∧ i < 65536 then xs[i.toNat]? else none
  | .tup xs, .int i => if 0 ≤ i ∧ i < 65536 then xs[i.toNat]? else none
  | _, _ => none
theorem den_idx {value slice : Expr} {pos : Pos} {f1 f2 : List D → Option D} (h1 : DenE t B vars gls value f1) (h2 : DenE t B vars gls slice f2)
    (hs : ∀ o i, subscripted slice false o i = operate [o, i] (getItem o i) := by intro _ _; rfl) : DenE t B vars gls (.Subscript value slice pos) (eBin dIdx f1 f2) := by
  intro w A s env P ds d Q rm htk c e h
  obtain ⟨x, y, e1, e2, e3⟩ := eBin_inv e
  refine Subscript_ (h1 w A s env P ds x _ rm htk c e1 fun a ha ta ka xa ra => ?_)
  refine h2 w A _ env P ds y _ rm ka (c.ext xa) e2 fun b hb tb kb xb rb => ?_
  have ra' := ra.ext xb
  cases ra' <;> first | exact nn e3 | (cases rb <;> first | exact nn e3 | (delta dIdx at e3; simp only [reduceCtorEq] at e3))
  case list.int l vs n xs p hl r i u =>
    split at e3
    · rename_i hi
      obtain ⟨v, hv, rv⟩ := r.get _ _ e3
      rw [Array.getElem?_toList] at hv
      exact tail_any (T := "list") ⟨_, hl, rfl⟩ slot_list_getitem.lookup (wpAny_getItem_list (IsList_of hl) hi.1 (by omega) hv (h v hb tb kb (xa.trans xb) rv)) (hs _ _)
    · cases e3
  case tup.int l vs n xs p hl r i u =>
    split at e3
    · rename_i hi
      obtain ⟨v, hv, rv⟩ := r.get _ _ e3
      rw [Array.getElem?_toList] at hv
      have hlt : i.toNat < vs.size := by
        rcases Nat.lt_or_ge i.toNat vs.size with h | h
        · exact h
        · rw [Array.getElem?_eq_none h] at hv; cases hv
      have hj : seqIndex? i vs.size = some i.toNat := by
        unfold seqIndex?
        have h0 : ¬ i < 0 := by omega
        simp only [h0, if_false]
        rw [if_pos (by simp; omega)]
      have ht : IsTup hb l vs := ⟨_, hl, rfl, n, rfl⟩
      exact tail_any (T := "tuple") ⟨_, hl, rfl⟩ slot_tuple_getitem.lookup (getItem_tuple (s := { s with heap := hb, toks := tb }) ht (by omega) (by omega) hj hv (h v hb tb kb (xa.trans xb) rv)) (hs _ _)
    · cases e3

noncomputable def dUpto : D → D → Option D
  | .list xs, .int i => if 0 ≤ i ∧ xs.length ≤ 65536 then some (.list (xs.take i.toNat)) else none
  | _, _ => none
noncomputable def dSlice : D → D → D → Option D
  | .list xs, .int i, .int j => if 0 ≤ i ∧ i ≤ j ∧ j ≤ xs.length ∧ xs.length ≤ 65536 then some (.list ((xs.drop i.toNat).take (j.toNat - i.toNat))) else none
  | _, _, _ => none
noncomputable abbrev eTri (g : D → D → D → Option D) (f1 f2 f3 : List D → Option D) : List D → Option D := fun ds => match f1 ds with
  | some x => match f2 ds with
    | some y => match f3 ds with
      | some z => g x y z
      | none => none
    | none => none
  | none => none
theorem eTri_inv {g : D → D → D → Option D} {f1 f2 f3 : List D → Option D} {ds : List D} {d : D} (e : eTri g f1 f2 f3 ds = some d) : ∃ x y z, f1 ds = some x ∧ f2 ds = some y ∧ f3 ds = some z ∧ g x y z = some d := by
  unfold eTri at e
  cases h1 : f1 ds with
  | none => rw [h1] at e; cases e
  | some x =>
    rw [h1] at e; dsimp only at e
    cases h2 : f2 ds with
    | none => rw [h2] at e; cases e
    | some y =>
      rw [h2] at e; dsimp only at e
      cases h3 : f3 ds with
      | none => rw [h3] at e; cases e
      | some z => rw [h3] at e; exact ⟨x, y, z, rfl, rfl, rfl, e⟩
theorem den_slice_hi {value upper : Expr} {p pos : Pos} {f1 f2 : List D → Option D} (h1 : DenE t B vars gls value f1) (h2 : DenE t B vars gls upper f2) :
    DenE t B vars gls (.Subscript value (.Slice none (some upper) none p) pos) (eBin dUpto f1 f2) := by
  intro w A s env P ds d Q rm htk c e h
  obtain ⟨x, y, e1, e2, e3⟩ := eBin_inv e
  refine Subscript_ (h1 w A s env P ds x _ rm htk c e1 fun a ha ta ka xa ra => ?_)
  refine wpAny_Slice (evalPart_none_step (evalPart_some_step (h2 w A _ env P ds y _ rm ka (c.ext xa) e2 fun b hb tb kb xb rb => evalPart_none_step ?_)))
  have ra' := ra.ext xb
  cases ra' <;> first | exact nn e3 | (cases rb <;> first | exact nn e3 | (delta dUpto at e3; simp only [reduceCtorEq] at e3))
  case list.int l vs n xs p hl r i u =>
    split at e3
    · cases e3
      rename_i hi
      have hl' : (hb.push { cls := .type "slice", data := .fields #[.none, .int i u, .none] }).get? l = some (LObj vs n) := Heap.get?_push_of_some _ hl
      refine tail_any (T := "list") ⟨_, hl', rfl⟩ slot_list_getitem.lookup (ops := [.ref hb.objs.size, .ref l]) ?_ rfl
      refine wpAny_getItem_list_slice (IsList_of hl') (Heap.IsSliceOf.new ..) .none (.int i u) .none (by simp) ?_ (by rw [← Array.length_toList, r.length, sizeLine_eq]; omega)
      refine h _ _ tb kb (((xa.trans xb).trans (Ext.push _ _)).trans (Ext.push _ _)) (.list (c.fresh _ ?_) (Heap.get?_push_size _ rfl) ?_)
      · exact ((xa.trans xb).trans (Ext.push _ _)).dead (dead_size _)
      · have ei : i = (i.toNat : Int) := by omega
        rw [ei, slicePick_upto' vs i.toNat]
        simpa [← ei] using ((r.take i.toNat).ext (Ext.push _ _)).ext (Ext.push _ _)
    · cases e3
theorem den_slice {value lower upper : Expr} {p pos : Pos} {f1 f2 f3 : List D → Option D} (h1 : DenE t B vars gls value f1) (h2 : DenE t B vars gls lower f2) (h3 : DenE t B vars gls upper f3) :
    DenE t B vars gls (.Subscript value (.Slice (some lower) (some upper) none p) pos) (eTri dSlice f1 f2 f3) := by
  intro w A s env P ds d Q rm htk c e h
  obtain ⟨x, y, z, e1, e2, e3, e⟩ := eTri_inv e
  refine Subscript_ (h1 w A s env P ds x _ rm htk c e1 fun a ha ta ka xa ra => ?_)
  refine wpAny_Slice (evalPart_some_step (h2 w A _ env P ds y _ rm ka (c.ext xa) e2 fun b hb tb kb xb rb => evalPart_some_step (h3 w A _ env P ds z _ rm kb (c.ext (xa.trans xb)) e3 fun b' hc tc kc xc rc => evalPart_none_step ?_)))
  have ra' := (ra.ext xb).ext xc
  have rb' := rb.ext xc
  cases ra' <;> first | exact nn e | (cases rb' <;> first | exact nn e | (cases rc <;> first | exact nn e | (delta dSlice at e; simp only [reduceCtorEq] at e)))
  case list.int.int l vs n xs p hl r i u j u' =>
    split at e
    · cases e
      rename_i hi
      have lz : vs.size = xs.length := by rw [← r.length, Array.length_toList]
      have hl' : (hc.push { cls := .type "slice", data := .fields #[.int i u, .int j u', .none] }).get? l = some (LObj vs n) := Heap.get?_push_of_some _ hl
      refine tail_any (T := "list") ⟨_, hl', rfl⟩ slot_list_getitem.lookup (ops := [.ref hc.objs.size, .ref l]) ?_ rfl
      refine wpAny_getItem_list_slice (IsList_of hl') (Heap.IsSliceOf.new ..) (.int i u) (.int j u') .none (by simp) ?_ (by rw [lz, sizeLine_eq]; omega)
      refine h _ _ tc kc ((((xa.trans xb).trans xc).trans (Ext.push _ _)).trans (Ext.push _ _)) (.list (c.fresh _ ?_) (Heap.get?_push_size _ rfl) ?_)
      · exact (((xa.trans xb).trans xc).trans (Ext.push _ _)).dead (dead_size _)
      · have ei : i = (i.toNat : Int) := by omega
        have ej : j = (j.toNat : Int) := by omega
        rw [ei, ej, slicePick_run vs i.toNat j.toNat (by omega) (by omega)]
        simpa [← ei, ← ej] using (((r.drop i.toNat).take (j.toNat - i.toNat)).ext (Ext.push _ _)).ext (Ext.push _ _)
    · cases e

/-! calls of what is built in -/
/-- a callee's meaning -/
noncomputable def CallDen (t : Tops) (f : Value) (g : List D → Option D) : Prop :=
  ∀ (w : World) (A : Around) (s : Shared) (B : Nat) (P : Addr → Prop) (vs : List Value) (xs : List D) (d : D) (Q : Value → Shared → Prop),
    Room B A → B ≤ 900 → 0 < s.toks → (∃ N mg mb, TopAt t w N mg mb s.heap) → (∀ b, s.heap.get? b = none → P b) → RepL P s.heap vs xs → g xs = some d →
    (∀ v h' tk, 0 < tk → Ext s.heap h' → Rep P h' v d → Q v { s with heap := h', toks := tk }) →
    wpAny (model prog w) A (call f vs) Q NoE s

theorem eval_builtin {w : World} {A : Around} {s : Shared} {env : Env} {P : Addr → Prop} {ds : List D} {x : Str} {pos : Pos} {v : Value} {Q : Value → Shared → Prop} (c : Ctx t w vars gls env P ds s.heap)
    (hx : x ∈ gls.gl) (hv : bootBuiltins x = some v) (hfree : x ∉ t.names) (hboot : x ∉ bootMainNames) (hn : x ≠ "__name__") (hd : (x == ("__debug__" : Str)) = false) (h : Q v s) :
    wpAny (model prog w) A (eval (.Name x pos) env) Q NoE s := by
  obtain ⟨N, mg, mb, T⟩ := c.top
  exact Name_function_global c.kind (c.gl x hx) (loadGlobal_builtin (env := env) (by rw [c.glob]; exact T.G.g) (T.G.free x hfree hboot) (by rw [c.blt]; exact T.G.b) ((T.G.builtins x hn).trans hv) h) hd

noncomputable abbrev eCall (g : List D → Option D) (f : List D → Option (List D)) : List D → Option D := fun ds => match f ds with
  | some xs => g xs
  | none => none
theorem eCall_inv {g : List D → Option D} {f : List D → Option (List D)} {ds : List D} {d : D} (e : eCall g f ds = some d) : ∃ xs, f ds = some xs ∧ g xs = some d := by
  unfold eCall at e
  cases h : f ds with
  | none => rw [h] at e; cases e
  | some xs => rw [h] at e; exact ⟨xs, rfl, e⟩
structure BName (t : Tops) (gls : Sc) (x : Str) (v : Value) : Prop where
  hx : x ∈ gls.gl
  hv : bootBuiltins x = some v
  hfree : x ∉ t.names
  hboot : x ∉ bootMainNames
  hn : x ≠ "__name__"
  hd : (x == ("__debug__" : Str)) = false

theorem den_builtin {x : Str} {id : String} {npos pos : Pos} {e : Expr} {rest : List Expr} {g : List D → Option D} {f : List D → Option (List D)} (b : BName t gls x (.builtin id)) (hc : CallDen t (.builtin id) g)
    (ha : DenL t B vars gls (e :: rest) f) (he : ∀ env, starEach (e :: rest) env = (false, eval e env) :: starEach rest env := by intro _; rfl)
    (hplain : ∀ env, (backTo pos (starEach rest env)).any (·.1) = false := by intro _; rfl) (hB : B ≤ 900 := by decide) : DenE t B vars gls (.Call (.Name x npos) (e :: rest) [] pos) (eCall g f) := by
  intro w A s env P ds d Q rm htk c ee h
  obtain ⟨xs, e1, e2⟩ := eCall_inv ee
  refine Call_ (eval_builtin c b.hx b.hv b.hfree b.hboot b.hn b.hd ?_)
  refine callWith_builtin1 (ha w A s env P pos ds xs _ rm htk c e1 fun vs h' tk k xv rv => ?_) (he env) (hplain env)
  exact hc w A _ B P vs xs d Q rm hB k (c.ext xv).top (fun b hb => c.fresh b (xv.dead hb)) rv e2 fun v h'' tk' k' xv' rv' => h v h'' tk' k' (xv.trans xv') rv'
theorem den_type {x : Str} {T : String} {npos pos : Pos} {e : Expr} {rest : List Expr} {g : List D → Option D} {f : List D → Option (List D)} (b : BName t gls x (.type T)) (hc : CallDen t (.type T) g)
    (ha : DenL t B vars gls (e :: rest) f) (he : ∀ env, starEach (e :: rest) env = (false, eval e env) :: starEach rest env := by intro _; rfl)
    (hplain : ∀ env, (backTo pos (starEach rest env)).any (·.1) = false := by intro _; rfl) (hB : B ≤ 900 := by decide) : DenE t B vars gls (.Call (.Name x npos) (e :: rest) [] pos) (eCall g f) := by
  intro w A s env P ds d Q rm htk c ee h
  obtain ⟨xs, e1, e2⟩ := eCall_inv ee
  refine Call_ (eval_builtin c b.hx b.hv b.hfree b.hboot b.hn b.hd ?_)
  refine callWith_type1 (ha w A s env P pos ds xs _ rm htk c e1 fun vs h' tk k xv rv => ?_) (he env) (hplain env)
  exact hc w A _ B P vs xs d Q rm hB k (c.ext xv).top (fun b hb => c.fresh b (xv.dead hb)) rv e2 fun v h'' tk' k' xv' rv' => h v h'' tk' k' (xv.trans xv') rv'
end
end Mine

namespace Mine
open PySem PySem.Calls PyProof.Rows

noncomputable def fgt (a b : UInt64) : Bool := Float64.cmp a b == some Ordering.gt
noncomputable def flt' (a b : UInt64) : Bool := Float64.cmp a b == some Ordering.lt

section
variable {w : World} {A : Around} {s : Shared} {E : Value → Shared → Prop}
theorem three_at {a b c v : Value} {i : Nat} (h : (#[a, b, c] : Array Value)[i]? = some v) : (i = 0 ∧ v = a) ∨ (i = 1 ∧ v = b) ∨ (i = 2 ∧ v = c) := by
  match i with
  | 0 => simp at h; exact .inl ⟨rfl, h.symm⟩
  | 1 => simp at h; exact .inr (.inl ⟨rfl, h.symm⟩)
  | 2 => simp at h; exact .inr (.inr ⟨rfl, h.symm⟩)
  | n + 3 => simp at h

noncomputable def val3 (a b c : UInt64) : Nat → UInt64
  | 0 => a
  | 1 => b
  | _ => c
theorem val3_at {a b c : UInt64} {t u x : Tok} {v : Value} {i : Nat} (h : (#[.float a t, .float b u, .float c x] : Array Value)[i]? = some v) : ∃ k, v = .float (val3 a b c i) k := by
  rcases three_at h with ⟨rfl, rfl⟩ | ⟨rfl, rfl⟩ | ⟨rfl, rfl⟩
  · exact ⟨t, rfl⟩
  · exact ⟨u, rfl⟩
  · exact ⟨x, rfl⟩

theorem best3 {id : String} {op : CmpOp} {bt : UInt64 → UInt64 → Bool} {a b c : UInt64} {t u x : Tok} {Q : Value → Shared → Prop} (hh : A.handled = none)
    (hcmp : CmpOf prog w A.in1 op (fun i v => (#[.float a t, .float b u, .float c x] : Array Value)[i]? = some v) (fun i j => bt (val3 a b c i) (val3 a b c j)))
    (call3 : ∀ Q : Value → Shared → Prop, wpAny (model prog w) A.in1 (pyIter (.ref s.heap.objs.size)) (fun it s₂ => ∃ I fp wr n P St bt, it = .ref I ∧ Walks prog w A.in1 I fp wr n P St ∧ St 0 s₂.heap ∧ (∀ b ∈ fp, b < s₂.heap.objs.size) ∧ 0 < n ∧ CmpOf prog w A.in1 op P bt ∧
      ∀ v h' tk, P (argBest bt (n - 1)) v → (∀ b o, b ∉ wr → s₂.heap.get? b = some o → h'.get? b = some o) → Q v { s₂ with heap := h', toks := tk }) E
      { s with heap := s.heap.push { cls := .type "tuple", data := .seq #[.float a t, .float b u, .float c x] } } → wpAny (model prog w) A (call (.builtin id) [.float a t, .float b u, .float c x]) Q E s)
    (h : ∀ v h' tk, Ext s.heap h' → v = (let m := if bt b a then (b, u) else (a, t); if bt c m.1 then Value.float c x else .float m.1 m.2) → Q v { s with heap := h', toks := tk }) :
    wpAny (model prog w) A (call (.builtin id) [.float a t, .float b u, .float c x]) Q E s := by
  have hT : (s.heap.push { cls := .type "tuple", data := .seq #[.float a t, .float b u, .float c x] }).IsTuple s.heap.objs.size #[.float a t, .float b u, .float c x] := ⟨_, Heap.get?_push_size _ rfl, rfl, 0, rfl⟩
  have hsz : (s.heap.push { cls := .type "tuple", data := .seq #[.float a t, .float b u, .float c x] }).objs.size = s.heap.objs.size + 1 := Heap.size_push ..
  refine call3 _ (wpAny_pyIter_tuple hT ?_)
  refine ⟨_, [_, s.heap.objs.size], [_], _, _, _, _, rfl, Walks.tuple (A := A.in1) hh _ s.heap.objs.size (by rw [hsz]; exact Nat.ne_of_lt (Nat.lt_succ_self _)) #[.float a t, .float b u, .float c x],
    ⟨⟨_, Heap.get?_push_size _ rfl, rfl, rfl⟩, hT.push _⟩, fun d hd => ?_, by simp, hcmp, fun v h' tk hP hk => ?_⟩
  · show d < ((s.heap.push _).push _).objs.size
    simp only [List.mem_cons, List.not_mem_nil, or_false] at hd
    simp only [Heap.size_push] at hd ⊢
    rcases hd with rfl | rfl
    · exact Nat.lt_succ_self _
    · exact Nat.lt_succ_of_lt (Nat.lt_succ_self _)
  · refine h v h' tk (fun d o e => hk d o (fun hm => ?_) (Heap.get?_push_of_some _ (Heap.get?_push_of_some _ e))) ?_
    · simp only [List.mem_cons, List.not_mem_nil, or_false, Heap.size_push] at hm
      have := Heap.lt_size e
      rw [hm] at this
      exact absurd this (Nat.not_lt.mpr (Nat.le_succ _))
    · have hP' : (#[.float a t, .float b u, .float c x] : Array Value)[argBest (fun i j => bt (val3 a b c i) (val3 a b c j)) 2]? = some v := hP
      unfold argBest argBest argBest at hP'
      simp only [val3, Nat.zero_add] at hP'
      by_cases h1 : bt b a = true
      · by_cases h2 : bt c b = true <;> simp [h1, h2, val3] at hP' ⊢ <;> exact hP'.symm
      · by_cases h2 : bt c a = true <;> simp [h1, h2, val3] at hP' ⊢ <;> exact hP'.symm
end

noncomputable def dMax : List D → Option D
  | [.flt a, .flt b, .flt c] => let m := if fgt b a then b else a; some (.flt (if fgt c m then c else m))
  | [.int a, .int b] => some (.int (if b > a then b else a))
  | _ => none
noncomputable def dMin : List D → Option D
  | [.flt a, .flt b, .flt c] => let m := if flt' b a then b else a; some (.flt (if flt' c m then c else m))
  | [.int a, .int b] => some (.int (if b < a then b else a))
  | _ => none
section
variable {t : Tops}
theorem call_max : CallDen t (.builtin "max") dMax := by
  intro w A s B P vs xs d Q rm hB htk top fr r e h
  unfold dMax at e
  split at e
  · rename_i a b c
    cases e
    cases r with | cons ra r =>
    cases r with | cons rb r =>
    cases r with | cons rc r =>
    cases r
    cases ra with | flt _ ta ka =>
    cases rb with | flt _ tb kb =>
    cases rc with | flt _ tc kc =>
    refine wpAny_with_toks htk (best3 (op := .Gt) (bt := fgt) rm.handled ?_ ?_ ?_)
    · intro i j vi vj s' Q' E' hi hj hq
      obtain ⟨k, rfl⟩ := val3_at hi
      obtain ⟨k', rfl⟩ := val3_at hj
      exact AutoFloatOps.gt_0 hq
    · intro Q' hq
      exact call_max_three hq
    · intro v h' tk xv ev k
      subst ev
      refine h _ h' tk k xv ?_
      dsimp only
      by_cases h1 : fgt b a = true
      · by_cases h2 : fgt c b = true <;> simp only [h1, h2, if_true, if_false, Bool.false_eq_true] <;> exact .flt _ _ (by assumption)
      · by_cases h2 : fgt c a = true <;> simp only [h1, h2, if_true, if_false, Bool.false_eq_true] <;> exact .flt _ _ (by assumption)
  · rename_i a b
    cases e
    cases r with | cons ra r =>
    cases r with | cons rb r =>
    cases r
    cases ra; cases rb
    refine wpAny_with_toks htk (max_two_ints rm.handled fun h' tk hk k => ?_)
    refine h _ h' tk k hk ?_
    by_cases c : b > a
    · simp only [if_pos c]; exact .int _ _
    · simp only [if_neg c]; exact .int _ _
  · cases e
theorem call_min : CallDen t (.builtin "min") dMin := by
  intro w A s B P vs xs d Q rm hB htk top fr r e h
  unfold dMin at e
  split at e
  · rename_i a b c
    cases e
    cases r with | cons ra r =>
    cases r with | cons rb r =>
    cases r with | cons rc r =>
    cases r
    cases ra with | flt _ ta ka =>
    cases rb with | flt _ tb kb =>
    cases rc with | flt _ tc kc =>
    refine wpAny_with_toks htk (best3 (op := .Lt) (bt := flt') rm.handled ?_ ?_ ?_)
    · intro i j vi vj s' Q' E' hi hj hq
      obtain ⟨k, rfl⟩ := val3_at hi
      obtain ⟨k', rfl⟩ := val3_at hj
      exact AutoFloatOps.lt_0 hq
    · intro Q' hq
      exact call_min_three hq
    · intro v h' tk xv ev k
      subst ev
      refine h _ h' tk k xv ?_
      dsimp only
      by_cases h1 : flt' b a = true
      · by_cases h2 : flt' c b = true <;> simp only [h1, h2, if_true, if_false, Bool.false_eq_true] <;> exact .flt _ _ (by assumption)
      · by_cases h2 : flt' c a = true <;> simp only [h1, h2, if_true, if_false, Bool.false_eq_true] <;> exact .flt _ _ (by assumption)
  · rename_i a b
    cases e
    cases r with | cons ra r =>
    cases r with | cons rb r =>
    cases r
    cases ra; cases rb
    refine wpAny_with_toks htk (min_two_ints rm.handled fun h' tk hk k => ?_)
    refine h _ h' tk k hk ?_
    by_cases c : b < a
    · simp only [if_pos c]; exact .int _ _
    · simp only [if_neg c]; exact .int _ _
  · cases e
noncomputable def dAbs : List D → Option D
  | [.int a] => some (.int (if a < 0 then -a else a))
  | _ => none
theorem call_abs : CallDen t (.builtin "abs") dAbs := by
  intro w A s B P vs xs d Q rm hB htk top fr r e h
  unfold dAbs at e
  split at e
  · cases e
    cases r with | cons ra r =>
    cases r; cases ra
    exact wpAny_with_toks htk (call_abs_int fun u tk k => h _ s.heap tk k (Ext.refl _) (.int _ _))
  · cases e
noncomputable def dHex : List D → Option D
  | [.int a] => if (baseText "0x" 16 a).length ≤ 65536 then some (.str (baseText "0x" 16 a)) else none
  | _ => none
theorem call_hex : CallDen t (.builtin "hex") dHex := by
  intro w A s B P vs xs d Q rm hB htk top fr r e h
  unfold dHex at e
  split at e
  · split at e
    · cases e
      cases r with | cons ra r =>
      cases r; cases ra
      rename_i hz _
      exact PySem.P.hex_of_int (h _ s.heap _ (Nat.succ_pos _) (Ext.refl _) (.str _ _)) (by rw [sizeLine_eq]; omega)
    · cases e
  · cases e
noncomputable def dChr : List D → Option D
  | [.int i] => if 0 ≤ i ∧ i ≤ 1114111 then some (.str ⟨#[i.toNat]⟩) else none
  | _ => none
theorem call_chr : CallDen t (.builtin "chr") dChr := by
  intro w A s B P vs xs d Q rm hB htk top fr r e h
  unfold dChr at e
  split at e
  · split at e
    · cases e
      cases r with | cons ra r =>
      cases r; cases ra
      rename_i hz _
      exact chr_of_range hz.1 hz.2 (h _ s.heap _ (Nat.succ_pos _) (Ext.refl _) (.str _ _))
    · cases e
  · cases e
noncomputable def dOrd : List D → Option D
  | [.str x] => if x.length = 1 then some (.int (x.cps.getD 0 0 : Nat)) else none
  | _ => none
theorem call_ord : CallDen t (.builtin "ord") dOrd := by
  intro w A s B P vs xs d Q rm hB htk top fr r e h
  unfold dOrd at e
  split at e
  · split at e
    · cases e
      cases r with | cons ra r =>
      cases r; cases ra
      rename_i hz _
      exact ord_of_one hz (h _ s.heap _ (Nat.succ_pos _) (Ext.refl _) (.int _ _))
    · cases e
  · cases e
noncomputable def dLen : List D → Option D
  | [.list xs] => if xs.length ≤ 65536 then some (.int xs.length) else none
  | _ => none
theorem call_len : CallDen t (.builtin "len") dLen := by
  intro w A s B P vs xs d Q rm hB htk top fr r e h
  unfold dLen at e
  split at e
  · split at e
    · cases e
      cases r with | cons ra r =>
      cases r; cases ra
      rename_i ys hz a vs n p hl r
      have l1 : vs.size = ys.length := by rw [← r.length, Array.length_toList]
      refine call_len_list (IsList_of hl) (by omega) ?_
      rw [l1]
      exact h _ s.heap _ (Nat.succ_pos _) (Ext.refl _) (.int _ _)
    · cases e
  · cases e
noncomputable def dInt : List D → Option D
  | [.flt x] => match Float64.decode x with
    | .fin sg m e => some (.int (Float64.truncOf sg m e))
    | _ => none
  | _ => none
theorem call_int : CallDen t (.type "int") dInt := by
  intro w A s B P vs xs d Q rm hB htk top fr r e h
  unfold dInt at e
  split at e
  · split at e
    · cases e
      cases r with | cons ra r =>
      cases r; cases ra
      rename_i sg m ex hd _ _
      exact call_int_float hd (h _ s.heap _ (Nat.succ_pos _) (Ext.refl _) (.int _ _))
    · cases e
  · cases e
end
end Mine

namespace Mine
open PySem PySem.Calls PyProof.Rows

noncomputable def dRange : List D → Option D
  | [.int n] => if 0 ≤ n ∧ n ≤ 65536 then some (.rng 0 n) else none
  | [.int a, .int b] => if -65536 ≤ a ∧ a ≤ 65536 ∧ -65536 ≤ b ∧ b ≤ 65536 then some (.rng a b) else none
  | _ => none
noncomputable def rangeItems (a b : Int) : List D := (List.range (b - a).toNat).map fun i => .int (a + (i : Nat))
theorem rangeItems_length (a b : Int) : (rangeItems a b).length = (b - a).toNat := by simp [rangeItems]
theorem rangeItems_at (a b : Int) (i : Nat) (h : i < (b - a).toNat) : (rangeItems a b)[i]? = some (.int (a + (i : Nat))) := by
  simp [rangeItems, List.getElem?_range h]
theorem rangeSize_one (a b : Int) : Builtin.Range.rangeSize a b 1 = ((b - a).toNat : Int) := by
  unfold Builtin.Range.rangeSize
  simp only [show (1 : Int) > 0 from by decide, if_true]
  split <;> omega

section
variable {t : Tops}
theorem call_range : CallDen t (.type "range") dRange := by
  intro w A s B P vs xs d Q rm hB htk top fr r e h
  unfold dRange at e
  split at e
  · split at e
    · cases e
      cases r with | cons ra r =>
      cases r; cases ra
      exact call_range_1 (h _ _ _ (Nat.succ_pos _) (Ext.push _ _) (.rng (fr _ (dead_size _)) (Heap.get?_push_size _ rfl)))
    · cases e
  · split at e
    · cases e
      cases r with | cons ra r =>
      cases r with | cons rb r =>
      cases r; cases ra; cases rb
      exact call_range_2 (h _ _ _ (Nat.succ_pos _) (Ext.push _ _) (.rng (fr _ (dead_size _)) (Heap.get?_push_size _ rfl)))
    · cases e
  · cases e
noncomputable def dList : List D → Option D
  | [.tup xs] => if xs.length ≤ 65536 then some (.list xs) else none
  | [.rng a b] => if -65536 ≤ a ∧ a ≤ 65536 ∧ -65536 ≤ b ∧ b ≤ 65536 then some (.list (rangeItems a b)) else none
  | _ => none
theorem repL_of_get {P : Addr → Prop} {h : Heap} : ∀ (vs : List Value) (ds : List D), vs.length = ds.length → (∀ (i : Nat) (v : Value) (d : D), vs[i]? = some v → ds[i]? = some d → Rep P h v d) → RepL P h vs ds
  | [], [], _, _ => .nil
  | [], _ :: _, e, _ => by cases e
  | _ :: _, [], e, _ => by cases e
  | v :: vs, d :: ds, e, hr => .cons (hr 0 v d rfl rfl) (repL_of_get vs ds (by simpa using e) fun i v' d' h1 h2 => hr (i + 1) v' d' (by simpa using h1) (by simpa using h2))
theorem call_list : CallDen t (.type "list") dList := by
  intro w A s B P vs xs d Q rm hB htk top fr r e h
  unfold dList at e
  split at e
  · split at e
    · cases e
      cases r with | cons ra r =>
      cases r; cases ra
      rename_i ys hz a vs n p hl r
      have l1 : vs.size = ys.length := by rw [← r.length, Array.length_toList]
      exact call_list_seq a (T := "tuple") (.inr rfl) hl rfl rfl (fun h' c' hk hD => h _ h' s.toks htk hk (.list (fr _ (dead_size _)) hD (r.ext hk))) (by rw [l1, sizeLine_eq]; omega)
    · cases e
  · split at e
    · cases e
      cases r with | cons ra r =>
      cases r; cases ra
      rename_i lo hi hz a t1 t2 t3 p hr
      refine wpAny_with_toks htk (call_list_range rm.handled hr ?_ (rangeSize_one lo hi) (by omega) fun h' tk acc' c' hk hD hI k => h _ h' tk k hk (.list (fr _ (dead_size _)) hD ?_))
      · exact small_one (by omega) (by omega) (by omega) (by omega)
      · refine repL_of_get _ _ (by rw [Array.length_toList, hI.1, rangeItems_length]) fun i v d h1 h2 => ?_
        rw [Array.getElem?_toList] at h1
        obtain ⟨tt, rfl⟩ := hI.2 i v h1
        have hlt : i < (hi - lo).toNat := by
          rcases Nat.lt_or_ge i acc'.size with q | q
          · rw [hI.1] at q; exact q
          · rw [Array.getElem?_eq_none q] at h1; cases h1
        rw [rangeItems_at lo hi i hlt] at h2
        cases h2
        rw [Int.mul_one]
        exact .int _ _
    · cases e
  · cases e

/-! iteration -/
noncomputable def itemsD : D → Option (List D)
  | .list xs => some xs
  | .tup xs => some xs
  | .rng a b => if -65536 ≤ a ∧ a ≤ 65536 ∧ -65536 ≤ b ∧ b ≤ 65536 then some (rangeItems a b) else none
  | .str x => some (x.cps.toList.map fun c => .str ⟨#[c]⟩)
  | _ => none
noncomputable def ownTup (T : String) : Bool := ["enumerate", "zip", "dict_itemiterator", "dict_reverseitemiterator", "odict_iterator", "itertools.zip_longest", "itertools.pairwise"].contains T
structure It (w : World) (P : Addr → Prop) (xs : List D) (h h' : Heap) (I : Addr) : Prop where
  ex : ∃ (fp : List Addr) (Pi : Nat → Value → Prop) (St : Nat → Heap → Prop), (∀ A' : Around, A'.handled = none → Walks prog w A' I fp [I] xs.length Pi St) ∧ St 0 h' ∧ (∀ b ∈ fp, P b ∧ ∃ o, h'.get? b = some o) ∧
    (∀ i v, i < xs.length → Pi i v → ∃ d, xs[i]? = some d ∧ Rep P h v d) ∧ I ∈ fp ∧
    (∀ i h, St i h → ∃ o T, h.get? I = some o ∧ o.cls = .type T ∧ ownTup T = false)
  dead : h.get? I = none
  live : ∃ o, h'.get? I = some o

theorem iter_of {w : World} {A : Around} {E : Value → Shared → Prop} {s : Shared} {P : Addr → Prop} {v : Value} {d : D} {xs : List D} {Q : Value → Shared → Prop} (e : itemsD d = some xs) (r : Rep P s.heap v d)
    (fr : ∀ b, s.heap.get? b = none → P b) (h : ∀ I h', Ext s.heap h' → It w P xs s.heap h' I → Q (.ref I) { s with heap := h' }) : wpAny (model prog w) A (pyIter v) Q E s := by
  cases r <;> first | exact nn e | simp only [itemsD, reduceCtorEq] at e
  case str x t =>
    cases e
    have hlen : (x.cps.toList.map fun c => D.str ⟨#[c]⟩).length = x.cps.size := by simp
    have fin : ∀ (o : Obj) (St : Nat → Heap → Prop), (∀ A' : Around, A'.handled = none → Walks prog w A' s.heap.objs.size [s.heap.objs.size] [s.heap.objs.size] x.cps.size (SignAt x) St) → St 0 (s.heap.push o) →
        (∃ o', (s.heap.push o).get? s.heap.objs.size = some o') → (∀ i h, St i h → ∃ o T, h.get? s.heap.objs.size = some o ∧ o.cls = .type T ∧ ownTup T = false) → Q (.ref s.heap.objs.size) { s with heap := s.heap.push o } := by
      intro o St W st ho hal
      refine h _ _ (Ext.push _ _) ⟨⟨[s.heap.objs.size], SignAt x, St, fun A' hA' => hlen ▸ W A' hA', st, ?_, ?_, by simp, hal⟩, dead_size _, ho⟩
      · intro b hb
        simp only [List.mem_cons, List.not_mem_nil, or_false] at hb
        subst hb
        exact ⟨fr _ (dead_size _), ho⟩
      · rintro i v _ ⟨c, u, hc, rfl⟩
        exact ⟨.str ⟨#[c]⟩, by simp [hc], .str _ _⟩
    cases ha : x.cps.all (· < 128)
    · exact wpAny_pyIter_wide ha (fin _ _ (fun A' hA => Walks.strWide hA _ x t) ⟨_, Heap.get?_push_size _ rfl, rfl, rfl⟩ ⟨_, Heap.get?_push_size _ rfl⟩ fun i h st => let ⟨o, ho, hc, _⟩ := st; ⟨o, _, ho, hc, by decide⟩)
    · exact wpAny_pyIter_ascii ha (fin _ _ (fun A' hA => Walks.strAscii hA _ x t) ⟨_, Heap.get?_push_size _ rfl, rfl, rfl⟩ ⟨_, Heap.get?_push_size _ rfl⟩ fun i h st => let ⟨o, ho, hc, _⟩ := st; ⟨o, _, ho, hc, by decide⟩)
  case list a vs n ys p hl r =>
    cases e
    have l1 : vs.size = xs.length := by rw [← r.length, Array.length_toList]
    have hne : a ≠ s.heap.objs.size := fun e => Nat.lt_irrefl _ (e ▸ Heap.lt_size hl)
    refine wpAny_pyIter_list (IsList_of hl) (h _ _ (Ext.push _ _) ⟨⟨_, _, _, fun A' hA' => l1 ▸ Walks.list hA' _ a hne vs, ⟨⟨_, Heap.get?_push_size _ rfl, rfl, rfl⟩, (IsList_of hl).push _⟩, ?_, ?_, by simp, fun i h st => let ⟨o, ho, hc, _⟩ := st.1; ⟨o, _, ho, hc, by decide⟩⟩, dead_size _, ⟨_, Heap.get?_push_size _ rfl⟩⟩)
    · intro b hb
      simp only [List.mem_cons, List.not_mem_nil, or_false] at hb
      rcases hb with rfl | rfl
      · exact ⟨fr _ (dead_size _), _, Heap.get?_push_size _ rfl⟩
      · exact ⟨p, _, Heap.get?_push_of_some _ hl⟩
    · intro i v _ hv
      have hlt : i < vs.size := by
        rcases Nat.lt_or_ge i vs.size with q | q
        · exact q
        · rw [Array.getElem?_eq_none q] at hv; cases hv
      have hx : xs[i]? = some (xs[i]'(by omega)) := List.getElem?_eq_getElem _
      obtain ⟨v', hv', rv⟩ := r.get i _ hx
      rw [Array.getElem?_toList, hv] at hv'
      cases hv'
      exact ⟨_, hx, rv⟩
  case tup a vs n ys p hl r =>
    cases e
    have l1 : vs.size = xs.length := by rw [← r.length, Array.length_toList]
    have hne : a ≠ s.heap.objs.size := fun e => Nat.lt_irrefl _ (e ▸ Heap.lt_size hl)
    refine wpAny_pyIter_tuple (IsTuple_of hl) (h _ _ (Ext.push _ _) ⟨⟨_, _, _, fun A' hA' => l1 ▸ Walks.tuple hA' _ a hne vs, ⟨⟨_, Heap.get?_push_size _ rfl, rfl, rfl⟩, (IsTuple_of hl).push _⟩, ?_, ?_, by simp, fun i h st => let ⟨o, ho, hc, _⟩ := st.1; ⟨o, _, ho, hc, by decide⟩⟩, dead_size _, ⟨_, Heap.get?_push_size _ rfl⟩⟩)
    · intro b hb
      simp only [List.mem_cons, List.not_mem_nil, or_false] at hb
      rcases hb with rfl | rfl
      · exact ⟨fr _ (dead_size _), _, Heap.get?_push_size _ rfl⟩
      · exact ⟨p, _, Heap.get?_push_of_some _ hl⟩
    · intro i v _ hv
      have hlt : i < vs.size := by
        rcases Nat.lt_or_ge i vs.size with q | q
        · exact q
        · rw [Array.getElem?_eq_none q] at hv; cases hv
      have hx : xs[i]? = some (xs[i]'(by omega)) := List.getElem?_eq_getElem _
      obtain ⟨v', hv', rv⟩ := r.get i _ hx
      rw [Array.getElem?_toList, hv] at hv'
      cases hv'
      exact ⟨_, hx, rv⟩
  case rng a lo hi t1 t2 t3 p hr =>
    split at e
    · cases e
      rename_i hz
      refine wpAny_pyIter_range hr (small_one (by omega) (by omega) (by omega) (by omega)) (h _ _ (Ext.push _ _) ⟨⟨_, _, _, fun A' hA' => (rangeItems_length lo hi) ▸ Walks.range hA' _ lo 1 (hi - lo).toNat, ?_, ?_, ?_, by simp, fun i h st => ⟨_, _, st, rfl, by decide⟩⟩, dead_size _, ⟨_, Heap.get?_push_size _ rfl⟩⟩)
      · show IsRangeIter _ _ _ _ _
        have h1 : lo + ((0 : Nat) : Int) * 1 = lo := by omega
        have h2 : (((hi - lo).toNat : Nat) : Int) - ((0 : Nat) : Int) = ((hi - lo).toNat : Int) := by omega
        rw [rangeItems_length, rangeSize_one, h1, h2]
        exact Heap.get?_push_size _ rfl
      · intro b hb
        simp only [List.mem_cons, List.not_mem_nil, or_false] at hb
        subst hb
        exact ⟨fr _ (dead_size _), _, Heap.get?_push_size _ rfl⟩
      · rintro i v hi ⟨tt, rfl⟩
        rw [rangeItems_length] at hi
        refine ⟨_, rangeItems_at lo _ i hi, ?_⟩
        rw [Int.mul_one]
        exact .int _ _
    · cases e
end
end Mine

namespace Mine
open PySem PySem.Calls PyProof.Rows PyProof.V

section
variable {t : Tops} {B : Nat} {vars : List Str} {gls : Sc}

/-! methods of texts -/
structure Meth (t : Tops) (name : Str) (id : String) (g : List D → Option D) : Prop where
  get : ∀ (w : World) (A : Around) (s : Shared) (x : Str) (tk : Tok) (pl : Sem Bool) (Q : Value × List Value → Shared → Prop), Q (.builtin id, [.str x tk]) s → wpAny (model prog w) A (getMethod (.str x tk) name pl) Q NoE s
  call : CallDen t (.builtin id) g
  str : ∀ x xs d, g (x :: xs) = some d → ∃ y, x = .str y
theorem den_meth0 {o : Expr} {name : Str} {id : String} {apos pos : Pos} {g : List D → Option D} {f : List D → Option D} (m : Meth t name id g) (ho : DenE t B vars gls o f)
    (pl : Env → Sem Bool) (he : ∀ env, eval (.Call (.Attribute o name apos) [] [] pos) env = (do
      let ov ← eval o env
      standAt apos.atName
      let (f, first) ← holding [ov] (getMethod ov name (pl env))
      callWith pos f first (backTo pos (starEach [] env)) []) := by intro _; rfl) (hB : B ≤ 900 := by decide) :
    DenE t B vars gls (.Call (.Attribute o name apos) [] [] pos) (eCall g (lCons f lNil)) := by
  intro w A s env P ds d Q rm htk c ee h
  obtain ⟨xs, e1, e2⟩ := eCall_inv ee
  unfold lCons at e1
  cases e0 : f ds with
  | none => rw [e0] at e1; cases e1
  | some x =>
  rw [e0] at e1; cases e1
  obtain ⟨y, rfl⟩ := m.str _ _ _ e2
  refine MethodCall_ (pl := pl env) (ho w A s env P ds _ _ rm htk c e0 fun v h' tk k xv rv => ?_) (he env)
  cases rv with | str _ u =>
  refine m.get w A _ y u _ _ (callWith_method0 ?_)
  exact m.call w A _ B P [.str y u] [.str y] d Q rm hB k (c.ext xv).top (fun b hb => c.fresh b (xv.dead hb)) (.cons (.str _ _) .nil) e2 fun v h'' tk' k' xv' rv' => h v h'' tk' k' (xv.trans xv') rv'
theorem den_meth {o : Expr} {name : Str} {id : String} {apos pos : Pos} {e : Expr} {rest : List Expr} {g : List D → Option D} {f : List D → Option D} {fs : List D → Option (List D)} (m : Meth t name id g) (ho : DenE t B vars gls o f)
    (ha : DenL t B vars gls (e :: rest) fs)
    (pl : Env → Sem Bool) (he : ∀ env, eval (.Call (.Attribute o name apos) (e :: rest) [] pos) env = (do
      let ov ← eval o env
      standAt apos.atName
      let (f, first) ← holding [ov] (getMethod ov name (pl env))
      callWith pos f first (backTo pos (starEach (e :: rest) env)) []) := by intro _; rfl)
    (hse : ∀ env, starEach (e :: rest) env = (false, eval e env) :: starEach rest env := by intro _; rfl)
    (hplain : ∀ env, (backTo pos (starEach rest env)).any (·.1) = false := by intro _; rfl) (hB : B ≤ 900 := by decide) :
    DenE t B vars gls (.Call (.Attribute o name apos) (e :: rest) [] pos) (eCall g (lCons f fs)) := by
  intro w A s env P ds d Q rm htk c ee h
  obtain ⟨xs, e1, e2⟩ := eCall_inv ee
  unfold lCons at e1
  cases e0 : f ds with
  | none => rw [e0] at e1; cases e1
  | some x =>
  rw [e0] at e1; dsimp only at e1
  cases e3 : fs ds with
  | none => rw [e3] at e1; cases e1
  | some ys =>
  rw [e3] at e1; cases e1
  obtain ⟨y, rfl⟩ := m.str _ _ _ e2
  refine MethodCall_ (pl := pl env) (ho w A s env P ds _ _ rm htk c e0 fun v h' tk k xv rv => ?_) (he env)
  cases rv with | str _ u =>
  refine m.get w A _ y u _ _ (callWith_method1 (ha w A _ env P pos ds ys _ rm k (c.ext xv) e3 fun vs h2 tk2 k2 xv2 rv2 => ?_) (hse env) (hplain env))
  exact m.call w A _ B P (.str y u :: vs) (.str y :: ys) d Q rm hB k2 (c.ext (xv.trans xv2)).top (fun b hb => c.fresh b ((xv.trans xv2).dead hb)) (.cons (.str _ _) rv2) e2 fun v h'' tk' k' xv' rv' => h v h'' tk' k' ((xv.trans xv2).trans xv') rv'

noncomputable def dLower : List D → Option D
  | [.str x] => if x.length ≤ 65536 then some (.str (Txt.lower x)) else none
  | _ => none
theorem m_lower : Meth t "lower" "str.lower" dLower where
  get := fun w A s x tk pl Q h => GM.lower h
  call := by
    intro w A s B P vs xs d Q rm hB htk top fr r e h
    unfold dLower at e
    split at e
    · split at e
      · cases e
        cases r with | cons ra r =>
        cases r; cases ra
        exact SCL.lower (by omega) fun _ => h _ s.heap _ (Nat.succ_pos _) (Ext.refl _) (.str _ _)
      · cases e
    · cases e
  str := by
    intro x xs d e
    unfold dLower at e
    split at e
    · rename_i h; cases h; exact ⟨_, rfl⟩
    · cases e

theorem strValues_rep {P : Addr → Prop} {h : Heap} : ∀ l : List (Str × Tok), RepL P h (strValues l) ((l.map (·.1)).map D.str)
  | [] => .nil
  | (x, u) :: r => .cons (.str x u) (strValues_rep r)
noncomputable def dSplit : List D → Option D
  | [.str x, .str y] => if x.length ≤ 65536 ∧ y.length ≠ 0 ∧ (Txt.split x y).length ≤ 65536 ∧ (Builtin.Str.partsBetween x (Builtin.Str.occurrences x y 0 x.length (x.length + 1)) y.length).length ≤ 65536 then some (.list ((Txt.split x y).map D.str)) else none
  | _ => none
theorem m_split : Meth t "split" "str.split" dSplit where
  get := fun w A s x tk pl Q h => GM.split h
  call := by
    intro w A s B P vs xs d Q rm hB htk top fr r e h
    unfold dSplit at e
    split at e
    · split at e
      · cases e
        cases r with | cons ra r =>
        cases r with | cons rb r =>
        cases r; cases ra; cases rb
        rename_i x y hz tx ty
        obtain ⟨z1, z2, z3, z4⟩ := hz
        have hy : (y.length == 0) = false := by simpa using z2
        have fin : ∀ (l : List (Str × Tok)) (tk : Nat), l.map (·.1) = Txt.split x y → 0 < tk → Q (.ref s.heap.objs.size) { s with heap := s.heap.push (LObj (strValues l).toArray 0), toks := tk } := by
          intro l tk hl k
          refine h _ _ tk k (Ext.push _ _) (.list (n := 0) (fr _ (dead_size _)) (Heap.get?_push_size _ rfl) ?_)
          rw [← hl]
          exact strValues_rep l
        cases h1 : (decide (x.length < y.length) || decide (Builtin.Str.strKind x < Builtin.Str.strKind y))
        · cases hf : (Builtin.Str.occurrences x y 0 x.length (x.length + 1)).isEmpty
          · refine call_meets F.slot_str_split (typeIs_str _ _ _) F.entry_str_split (F.args_str_split_2 _ _) (meets_str_split_sep x y tx ty h1 hy hf (by rw [sizeLine_eq]; omega) (by rw [sizeLine_eq]; omega)) ?_
            show wants Q NoE _ { s with toks := _, heap := s.heap.push { cls := .type "list", data := .seq (strsFrom s.toks (Builtin.Str.partsBetween x (Builtin.Str.occurrences x y 0 x.length (x.length + 1)) y.length)).toArray } }
            rw [strsFrom_eq]
            exact fin (numbered s.toks _) _ ((numbered_texts _ _).trans ((if_neg (ne_true_of_eq_false h1)).trans (if_neg (ne_true_of_eq_false hf))).symm) (Nat.lt_of_lt_of_le htk (Nat.le_add_right _ _))
          · exact call_meets F.slot_str_split (typeIs_str _ _ _) F.entry_str_split (F.args_str_split_2 _ _) (meets_str_split_not_found x y tx ty h1 hy hf)
              (fin [(x, tx)] s.toks ((if_neg (ne_true_of_eq_false h1)).trans (if_pos hf)).symm htk)
        · exact call_meets F.slot_str_split (typeIs_str _ _ _) F.entry_str_split (F.args_str_split_2 _ _) (meets_str_split_cannot_occur x y tx ty h1)
            (fin [(x, tx)] s.toks (if_pos h1).symm htk)
      · cases e
    · cases e
  str := by
    intro x xs d e
    unfold dSplit at e
    split at e
    · rename_i h; cases h; exact ⟨_, rfl⟩
    · cases e

noncomputable def strsOf : List D → Option (List Str)
  | [] => some []
  | .str x :: r => match strsOf r with | some xs => some (x :: xs) | none => none
  | _ => none
theorem strsAre_of {P : Addr → Prop} {h : Heap} : ∀ {vs : List Value} {ds : List D} {ys : List Str}, RepL P h vs ds → strsOf ds = some ys → StrsAre vs ys
  | _, _, ys, .nil, e => by cases e; exact .nil
  | _, _, ys, .cons (d := d) (ds := ds) r rs, e => by
    cases r <;> first | exact nn e | simp only [strsOf, reduceCtorEq] at e
    cases h1 : strsOf ds with
    | none => rw [h1] at e; cases e
    | some xs => rw [h1] at e; cases e; exact .cons _ _ (strsAre_of rs h1)
noncomputable def dJoin : List D → Option D
  | [.str x, .list ds] => match strsOf ds with
    | some ys => if (ys.map (·.length)).sum + ys.length * x.length ≤ 65536 then some (.str (Txt.join x ys)) else none
    | none => none
  | _ => none
theorem m_join : Meth t "join" "str.join" dJoin where
  get := fun w A s x tk pl Q h => GM.join h
  call := by
    intro w A s B P vs xs d Q rm hB htk top fr r e h
    unfold dJoin at e
    split at e
    · split at e
      · split at e
        · cases e
          cases r with | cons ra r =>
          cases r with | cons rb r =>
          cases r; cases ra; cases rb
          rename_i x ds ys hs hz u a vs n p hl r
          exact wpAny_with_toks htk (join_list (IsList_of hl) (strsAre_of r hs) (by omega) fun t' k kk => h _ s.heap k kk (Ext.refl _) (.str _ _))
        · cases e
      · cases e
    · cases e
  str := by
    intro x xs d e
    unfold dJoin at e
    split at e
    · rename_i h; cases h; exact ⟨_, rfl⟩
    · cases e

/-! tables of the top -/
theorem eval_global {w : World} {A : Around} {s : Shared} {env : Env} {P : Addr → Prop} {ds : List D} {x : Str} {pos : Pos} {v : Value} {Q : Value → Shared → Prop} {N : Nat} {mg mb : Str → Option Value} (c : Ctx t w vars gls env P ds s.heap)
    (T : TopAt t w N mg mb s.heap) (hx : x ∈ gls.gl) (hv : mg x = some v) (hd : (x == ("__debug__" : Str)) = false) (h : Q v s) :
    wpAny (model prog w) A (eval (.Name x pos) env) Q NoE s :=
  Name_function_global c.kind (c.gl x hx) (loadGlobal_global (env := env) (by rw [c.glob]; exact T.G.g) hv h) hd

noncomputable abbrev strOr (o : Option PyData) (d : Option D) : Option D := match o with
  | some (.str s) => some (.str s)
  | none => d
  | _ => none
theorem den_get2 {x : Str} {tab : List (PyData × PyData)} {npos apos pos : Pos} {e1 e2 : Expr} {f : List D → Option (List D)} (hx : x ∈ gls.gl) (ht : (x, tab) ∈ t.tabs) (hd : (x == ("__debug__" : Str)) = false) (ha : DenL t B vars gls [e1, e2] f)
    (pl : Env → Sem Bool) (he : ∀ env, eval (.Call (.Attribute (.Name x npos) "get" apos) [e1, e2] [] pos) env = (do
      let ov ← eval (.Name x npos) env
      standAt apos.atName
      let (f, first) ← holding [ov] (getMethod ov "get" (pl env))
      callWith pos f first (backTo pos (starEach [e1, e2] env)) []) := by intro _; rfl)
    (hse : ∀ env, starEach [e1, e2] env = (false, eval e1 env) :: starEach [e2] env := by intro _; rfl)
    (hplain : ∀ env, (backTo pos (starEach [e2] env)).any (·.1) = false := by intro _; rfl) :
    DenE t B vars gls (.Call (.Attribute (.Name x npos) "get" apos) [e1, e2] [] pos) (eCall (fun xs => match xs with
      | [.int i, .str y] => strOr (Spec.lookup (.int i) tab) (some (.str y))
      | _ => none) f) := by
  intro w A s env P ds d Q rm htk c ee h
  obtain ⟨xs, e1', e2'⟩ := eCall_inv ee
  obtain ⟨N, mg, mb, T⟩ := c.top
  obtain ⟨a, hg, hT⟩ := T.tabs _ ht
  refine MethodCall_ (pl := pl env) (eval_global c T hx hg hd (getMethod_intTab_get hT ?_)) (he env)
  refine callWith_method1 (ha w A s env P pos ds xs _ rm htk c e1' fun vs h' tk k xv rv => ?_) (hse env) (hplain env)
  split at e2'
  · rename_i i y
    cases rv with | cons ra rv =>
    cases rv with | cons rb rv =>
    cases rv; cases ra; cases rb
    refine call_get2_intTab (hT.keep xv) (Flat.str _ _) fun v hv => ?_
    unfold strOr at e2'
    split at e2'
    · rename_i hl
      cases e2'
      rw [hl] at hv
      obtain ⟨u, rfl⟩ := Flat.str_inv hv
      exact h _ h' _ (Nat.succ_pos _) xv (.str _ _)
    · rename_i hl
      cases e2'
      rw [hl] at hv
      obtain ⟨u, rfl⟩ := Flat.str_inv hv
      exact h _ h' _ (Nat.succ_pos _) xv (.str _ _)
    · cases e2'
  · cases e2'
theorem den_get1 {x : Str} {tab : List (PyData × PyData)} {npos apos pos : Pos} {e1 : Expr} {f : List D → Option (List D)} (hx : x ∈ gls.gl) (ht : (x, tab) ∈ t.tabs) (hd : (x == ("__debug__" : Str)) = false) (ha : DenL t B vars gls [e1] f)
    (pl : Env → Sem Bool) (he : ∀ env, eval (.Call (.Attribute (.Name x npos) "get" apos) [e1] [] pos) env = (do
      let ov ← eval (.Name x npos) env
      standAt apos.atName
      let (f, first) ← holding [ov] (getMethod ov "get" (pl env))
      callWith pos f first (backTo pos (starEach [e1] env)) []) := by intro _; rfl)
    (hse : ∀ env, starEach [e1] env = (false, eval e1 env) :: starEach [] env := by intro _; rfl)
    (hplain : ∀ env, (backTo pos (starEach [] env)).any (·.1) = false := by intro _; rfl) :
    DenE t B vars gls (.Call (.Attribute (.Name x npos) "get" apos) [e1] [] pos) (eCall (fun xs => match xs with
      | [.int i] => strOr (Spec.lookup (.int i) tab) (some .none)
      | _ => none) f) := by
  intro w A s env P ds d Q rm htk c ee h
  obtain ⟨xs, e1', e2'⟩ := eCall_inv ee
  obtain ⟨N, mg, mb, T⟩ := c.top
  obtain ⟨a, hg, hT⟩ := T.tabs _ ht
  refine MethodCall_ (pl := pl env) (eval_global c T hx hg hd (getMethod_intTab_get hT ?_)) (he env)
  refine callWith_method1 (ha w A s env P pos ds xs _ rm htk c e1' fun vs h' tk k xv rv => ?_) (hse env) (hplain env)
  split at e2'
  · rename_i i
    cases rv with | cons ra rv =>
    cases rv; cases ra
    refine call_get1_intTab (hT.keep xv) fun v hv => ?_
    unfold strOr at e2'
    split at e2'
    · rename_i hl
      cases e2'
      rw [hl] at hv
      obtain ⟨u, rfl⟩ := Flat.str_inv hv
      exact h _ h' _ (Nat.succ_pos _) xv (.str _ _)
    · rename_i hl
      cases e2'
      rw [hl] at hv
      obtain rfl := Flat.none_inv hv
      exact h _ h' _ (Nat.succ_pos _) xv .none
    · cases e2'
  · cases e2'
noncomputable abbrev eInSet (S : Int → Bool) (f : List D → Option D) : List D → Option D := fun ds => match f ds with
  | some (.int i) => some (.bool (S i))
  | _ => none
theorem den_inset {x : Str} {S : Int → Bool} {npos pos : Pos} {l : Expr} {f : List D → Option D} (hx : x ∈ gls.gl) (ht : (x, S) ∈ t.sets) (hd : (x == ("__debug__" : Str)) = false) (hl : DenE t B vars gls l f)
    (hm : behindInMarks .In (.Name x npos) = false := by with_unfolding_all rfl) : DenE t B vars gls (.Compare l [.In] [.Name x npos] pos) (eInSet S f) := by
  intro w A s env P ds d Q rm htk c ee h
  unfold eInSet at ee
  cases e1 : f ds with
  | none => rw [e1] at ee; cases ee
  | some y =>
  rw [e1] at ee
  cases y <;> simp only [reduceCtorEq] at ee
  cases ee
  refine wpAny_Compare1 (hl w A s env P ds _ _ rm htk c e1 fun v h' tk k xv rv => ?_) hm
  obtain ⟨N, mg, mb, T⟩ := (c.ext xv).top
  obtain ⟨a, n, hg, hS⟩ := T.sets _ ht
  cases rv with | int _ u =>
  refine eval_global (s := { s with heap := h', toks := tk }) (c.ext xv) T hx hg hd ?_
  exact wpAny_inSet_of (intKind_is prog w _ u) rfl hS (h _ h' _ (Nat.succ_pos _) xv (.bool _))
end
end Mine

namespace Mine
open PySem PySem.Calls PyProof.Rows PyProof.V

section
variable {t : Tops} {B : Nat} {vars : List Str} {gls : Sc}

noncomputable abbrev eReplace (y : Str) (i : Int) (f : List D → Option D) : List D → Option D := fun ds => match f ds with
  | some (.str x) => if 0 ≤ i ∧ i ≤ 1114111 ∧ x.length ≤ 65536 then some (.str (Txt.replace x y ⟨#[i.toNat]⟩)) else none
  | _ => none
theorem den_replace {o : Expr} {f : List D → Option D} {y : Str} {i : Int} {apos np cp pos p1 p2 : Pos} {k1 k2 : Nat} (b : BName t gls "chr" (.builtin "chr")) (ho : DenE t B vars gls o f)
    (pl : Env → Sem Bool) (he : ∀ env, eval (.Call (.Attribute o "replace" apos) [.Constant (.str y) k1 p1, .Call (.Name "chr" np) [.Constant (.int i) k2 p2] [] cp] [] pos) env = (do
      let ov ← eval o env
      standAt apos.atName
      let (f, first) ← holding [ov] (getMethod ov "replace" (pl env))
      callWith pos f first (backTo pos (starEach [.Constant (.str y) k1 p1, .Call (.Name "chr" np) [.Constant (.int i) k2 p2] [] cp] env)) []) := by intro _; rfl) :
    DenE t B vars gls (.Call (.Attribute o "replace" apos) [.Constant (.str y) k1 p1, .Call (.Name "chr" np) [.Constant (.int i) k2 p2] [] cp] [] pos) (eReplace y i f) := by
  intro w A s env P ds d Q rm htk c ee h
  unfold eReplace at ee
  cases e1 : f ds with
  | none => rw [e1] at ee; cases ee
  | some q =>
  rw [e1] at ee
  cases q <;> simp only [reduceCtorEq] at ee
  rename_i x
  split at ee
  · rename_i hz
    cases ee
    refine MethodCall_ (pl := pl env) (ho w A s env P ds _ _ rm htk c e1 fun v h' tk k xv rv => ?_) (he env)
    cases rv with | str _ u =>
    have c' := c.ext xv
    refine GM.replace (callWith_method1 (args_cons ?_) rfl rfl)
    rw [eval_Constant]
    refine wpAny_mkText (args_cons ?_)
    refine Call_ (eval_builtin (s := { s with heap := h', toks := tk + 1 }) c' b.hx b.hv b.hfree b.hboot b.hn b.hd ?_)
    refine callWith_builtin1 (args_cons (wpAny_Constant_int (args_nil ?_))) rfl rfl
    refine chr_of_range hz.1 hz.2.1 (args_nil ?_)
    obtain ⟨N, mg, mb, T⟩ := c'.top
    refine wpAny_with_toks (n := 1) (Nat.succ_pos _) (SC.replaceA (Nat.ne_of_gt k) (Nat.succ_ne_zero _) (Nat.ne_of_lt (Nat.lt_succ_of_lt (Nat.lt_succ_self _))) ?_ ?_ ⟨_, T.S, rfl⟩)
    · show x.length + (x.length + 1) * 1 ≤ 16777216
      omega
    · intro t' k' kk
      exact h _ h' k' kk xv (.str _ _)
  · cases ee

noncomputable abbrev eIf (c : List D → Option Bool) (f g : List D → Option D) : List D → Option D := fun ds => match c ds with
  | some true => f ds
  | some false => g ds
  | none => none
theorem den_ife {test body orelse : Expr} {pos : Pos} {c : List D → Option Bool} {f g : List D → Option D} (hc : DenT t B vars gls test c) (hf : DenE t B vars gls body f) (hg : DenE t B vars gls orelse g) :
    DenE t B vars gls (.IfExp test body orelse pos) (eIf c f g) := by
  intro w A s env P ds d Q rm htk cx ee h
  unfold eIf at ee
  cases e1 : c ds with
  | none => rw [e1] at ee; cases ee
  | some b =>
  rw [e1] at ee
  refine IfExp_ (hc w A s env P ds b _ rm htk cx e1 fun h' tk k xv => ?_)
  cases b with
  | true => exact hf w A _ env P ds d _ rm k (cx.ext xv) ee fun v h'' tk' k' xv' rv' => h v h'' tk' k' (xv.trans xv') rv'
  | false => exact hg w A _ env P ds d _ rm k (cx.ext xv) ee fun v h'' tk' k' xv' rv' => h v h'' tk' k' (xv.trans xv') rv'

/-! sum -/
noncomputable def intsOf : List D → Option (List Int)
  | [] => some []
  | .int x :: r => match intsOf r with | some xs => some (x :: xs) | none => none
  | _ => none
noncomputable def dSum : List D → Option D
  | [.list ds] => match intsOf ds with
    | some ns => if ns.all (fun n => decide (0 ≤ n ∧ n < 65536)) ∧ ns.length ≤ 65536 then some (.int ns.sum) else none
    | none => none
  | _ => none
theorem ints_items {P : Addr → Prop} {h : Heap} : ∀ {vs : List Value} {ds : List D} {ns : List Int}, RepL P h vs ds → intsOf ds = some ns → ∃ xs : List (Int × Tok), vs = xs.map (fun p => Value.int p.1 p.2) ∧ xs.map (·.1) = ns
  | _, _, ns, .nil, e => by cases e; exact ⟨[], rfl, rfl⟩
  | _, _, ns, .cons (d := d) (ds := ds) r rs, e => by
    cases r <;> first | exact nn e | simp only [intsOf, reduceCtorEq] at e
    rename_i i tt
    cases h1 : intsOf ds with
    | none => rw [h1] at e; cases e
    | some xs =>
      rw [h1] at e; cases e
      obtain ⟨ys, e1, e2⟩ := ints_items rs h1
      exact ⟨(i, tt) :: ys, by simp [e1], by simp [e2]⟩
theorem preSum_eq (xs : List (Int × Tok)) : ∀ k, k ≤ xs.length → preSum (numAt xs.toArray) k = ((xs.map (·.1)).take k).sum
  | 0, _ => by simp [preSum]
  | k + 1, hk => by
    rw [preSum, preSum_eq xs k (by omega), List.take_add_one, List.sum_append]
    have : (xs.map (·.1))[k]? = some (xs[k]'(by omega)).1 := by rw [List.getElem?_map, List.getElem?_eq_getElem (show k < xs.length by omega)]; rfl
    rw [this]
    have h2 : numAt xs.toArray k = (xs[k]'(by omega)).1 := by simp [numAt, List.getElem?_eq_getElem (show k < xs.length by omega)]
    rw [h2]
    simp
theorem sum_bound : ∀ (ns : List Int), ns.all (fun n => decide (0 ≤ n ∧ n < 65536)) = true → 0 ≤ ns.sum ∧ ns.sum ≤ 65536 * ns.length
  | [], _ => by simp
  | n :: ns, h => by
    simp only [List.all_cons, Bool.and_eq_true, decide_eq_true_eq] at h
    have := sum_bound ns h.2
    simp only [List.sum_cons, List.length_cons]
    omega
theorem call_sum : CallDen t (.builtin "sum") dSum := by
  intro w A s B P vs xs d Q rm hB htk top fr r e h
  unfold dSum at e
  split at e
  · split at e
    · split at e
      · cases e
        cases r with | cons ra r =>
        cases r; cases ra
        rename_i ds ns hs hz a vs n p hl r
        obtain ⟨ys, e1, e2⟩ := ints_items r hs
        have el : vs = intItems ys.toArray := by
          have : vs.toList = (intItems ys.toArray).toList := by rw [e1]; simp [intItems]
          exact Array.toList_inj.mp this
        subst el
        subst e2
        have ll : ys.toArray.size = ys.length := by simp
        have hlen : (ys.map (·.1)).length = ys.length := by simp
        refine wpAny_with_toks htk (sum_intList rm.handled (IsList_of hl) ?_ fun h' tk t' hk kk => ?_)
        · intro j hj
          rw [ll] at hj
          have hb : ∀ k, k ≤ ys.length → InLong (preSum (numAt ys.toArray) k) := by
            intro k hk
            rw [preSum_eq ys k hk]
            have := sum_bound ((ys.map (·.1)).take k) (by
              rw [List.all_eq_true]
              intro x hx
              exact List.all_eq_true.mp hz.1 x (List.mem_of_mem_take hx))
            have hl2 : ((ys.map (·.1)).take k).length ≤ 65536 := by rw [List.length_take]; omega
            unfold InLong
            omega
          refine ⟨?_, hb (j + 1) (by omega)⟩
          have : numAt ys.toArray j = (ys[j]'hj).1 := by simp [numAt, List.getElem?_eq_getElem hj]
          rw [this]
          have := List.all_eq_true.mp hz.1 (ys[j]'hj).1 (List.mem_map.mpr ⟨_, List.getElem_mem hj, rfl⟩)
          simp only [decide_eq_true_eq] at this
          unfold InLong
          omega
        · refine h _ h' tk kk hk ?_
          rw [ll, preSum_eq ys ys.length (Nat.le_refl _), List.take_of_length_le (by simp)]
          exact .int _ _
      · cases e
    · cases e
  · cases e
end
end Mine

namespace Mine
open PySem PySem.Calls PyProof.Rows PyProof.V

structure FC where
  name : Str
  scope : Scope
  locs : List Str
  gls : Sc

noncomputable abbrev FC.env (c : FC) (L a : Addr) (cd : Value) : Env := envOfC c.name c.scope L a cd
noncomputable abbrev FC.cells (c : FC) (L : Addr) : List (Str × Addr) := cellsFrom (L + 1) c.scope.names []

noncomputable def FC.okB (c : FC) : Bool :=
  c.scope.kind == .function && decide c.locs.Nodup &&
  c.locs.all (fun x => c.scope.names.lookup x == some .local || (c.scope.names.lookup x == some .cell && ((c.cells 0).lookup x).isSome)) &&
  c.gls.gl.all (fun x => c.scope.names.lookup x == some .globalImplicit) &&
  c.gls.cp.all (fun x => c.scope.names.lookup x == some .cell && ((c.cells 0).lookup x).isSome)

theorem cellsFrom_shift : ∀ (names : List (Str × NameKind)) (n d : Nat) (acc : List (Str × Addr)), cellsFrom (n + d) names (acc.map fun p => (p.1, p.2 + d)) = (cellsFrom n names acc).map fun p => (p.1, p.2 + d)
  | [], n, d, acc => rfl
  | (name, kind) :: r, n, d, acc => by
    unfold cellsFrom
    split
    · have := cellsFrom_shift r (n + 1) d ((name, n) :: acc)
      rw [List.map_cons] at this
      rw [← this, Nat.add_right_comm]
    · exact cellsFrom_shift r n d acc
theorem lookup_map_shift (x : Str) (d : Nat) : ∀ l : List (Str × Addr), (l.map fun p => (p.1, p.2 + d)).lookup x = (l.lookup x).map (· + d)
  | [] => rfl
  | (k, v) :: r => by
    rw [List.map_cons, List.lookup_cons, List.lookup_cons]
    cases x == k
    · exact lookup_map_shift x d r
    · rfl
theorem cells_lookup (c : FC) (L : Addr) (x : Str) : (c.cells L).lookup x = ((c.cells 0).lookup x).map (· + L) := by
  have := cellsFrom_shift c.scope.names 1 L []
  rw [List.map_nil] at this
  unfold FC.cells
  rw [show L + 1 = 1 + L from Nat.add_comm _ _, this, lookup_map_shift]

structure FC.Ok (c : FC) : Prop where
  kind : c.scope.kind = .function
  nodup : c.locs.Nodup
  kinds : ∀ x ∈ c.locs, c.scope.names.lookup x = some .local ∨ (c.scope.names.lookup x = some .cell ∧ ∀ L, ∃ q, (c.cells L).lookup x = some q)
  gls : ∀ x ∈ c.gls.gl, c.scope.names.lookup x = some .globalImplicit
  cps : ∀ x ∈ c.gls.cp, c.scope.names.lookup x = some .cell ∧ ∀ L, ∃ q, (c.cells L).lookup x = some q
theorem FC.ok_of {c : FC} (h : c.okB = true) : c.Ok := by
  unfold FC.okB at h
  simp only [Bool.and_eq_true, beq_iff_eq, decide_eq_true_eq, List.all_eq_true, Bool.or_eq_true] at h
  obtain ⟨⟨⟨⟨h1, h2⟩, h3⟩, h4⟩, h5⟩ := h
  refine ⟨h1, h2, fun x hx => ?_, h4, fun x hx => ?_⟩
  rotate_left
  · obtain ⟨a, b⟩ := h5 x hx
    refine ⟨a, fun L => ?_⟩
    rw [cells_lookup]
    obtain ⟨q, hq⟩ := Option.isSome_iff_exists.mp b
    exact ⟨_, by rw [hq]; rfl⟩
  rcases h3 x hx with a | ⟨a, b⟩
  · exact .inl a
  · refine .inr ⟨a, fun L => ?_⟩
    rw [cells_lookup]
    obtain ⟨q, hq⟩ := Option.isSome_iff_exists.mp b
    exact ⟨_, by rw [hq]; rfl⟩

theorem nodup_inj {α : Type} {l : List α} (nd : l.Nodup) {i j : Nat} {x : α} (h1 : l[i]? = some x) (h2 : l[j]? = some x) : i = j := by
  obtain ⟨l1, g1⟩ := List.getElem?_eq_some_iff.mp h1
  obtain ⟨l2, g2⟩ := List.getElem?_eq_some_iff.mp h2
  rcases Nat.lt_trichotomy i j with h | h | h
  · exact absurd (g1.trans g2.symm) (List.pairwise_iff_getElem.mp nd i j l1 l2 h)
  · exact h
  · exact absurd (g2.trans g1.symm) (List.pairwise_iff_getElem.mp nd j i l2 l1 h)
noncomputable def Priv (c : FC) (L : Addr) (oa : Nat → Addr) (ds : List D) (b : Addr) : Prop :=
  b = L ∨ (∃ n, (c.cells L).lookup n = some b) ∨ ∃ k xs, ds[k]? = some (.own xs) ∧ oa k = b
noncomputable def Pv (c : FC) (Pr : Addr → Prop) (L : Addr) (oa : Nat → Addr) (ds : List D) (b : Addr) : Prop := Pr b ∧ ¬ Priv c L oa ds b

noncomputable def VarOk (P : Addr → Prop) (env : Env) (h : Heap) (a : Addr) (x : Str) (d : D) : Prop := match d with
  | .undef => True
  | .own xs => ∃ items n, Rd env h x (.ref a) ∧ h.get? a = some (LObj items n) ∧ RepL P h items.toList xs
  | d => ∃ v, Rd env h x v ∧ Rep P h v d
theorem VarOk.plain {P : Addr → Prop} {env : Env} {h : Heap} {a : Addr} {x : Str} {d : D} (hd : d.plain = true) (v : VarOk P env h a x d) : ∃ v, Rd env h x v ∧ Rep P h v d := by
  cases d <;> first | exact v | cases hd
theorem VarOk.of_plain {P : Addr → Prop} {env : Env} {h : Heap} {a : Addr} {x : Str} {d : D} {v : Value} (r : Rd env h x v) (p : Rep P h v d) : VarOk P env h a x d := by
  cases p
  · exact ⟨_, r, .none⟩
  · exact ⟨_, r, .bool _⟩
  · exact ⟨_, r, .int _ _⟩
  · exact ⟨_, r, .flt _ _ (by assumption)⟩
  · exact ⟨_, r, .str _ _⟩
  · exact ⟨_, r, .list (by assumption) (by assumption) (by assumption)⟩
  · exact ⟨_, r, .tup (by assumption) (by assumption) (by assumption)⟩
  · exact ⟨_, r, .rng (by assumption) (by assumption)⟩
theorem VarOk.mono {P P' : Addr → Prop} {env : Env} {h h' : Heap} {a : Addr} {x : Str} {d : D} (v : VarOk P env h a x d) (hr : ∀ v, Rd env h x v → Rd env h' x v)
    (hk : ∀ b o, P b → h.get? b = some o → h'.get? b = some o) (hp : ∀ b o, h.get? b = some o → P b → P' b) (ho : ∀ xs o, d = .own xs → h.get? a = some o → h'.get? a = some o) : VarOk P' env h' a x d := by
  cases d
  case undef => trivial
  case own xs =>
    obtain ⟨items, n, r1, r2, r3⟩ := v
    exact ⟨items, n, hr _ r1, ho xs _ rfl r2, r3.mono hk hp⟩
  all_goals
    obtain ⟨v, r, p⟩ := v
    exact ⟨v, hr _ r, p.mono hk hp⟩

structure St (t : Tops) (w : World) (c : FC) (h₀ : Heap) (Pr : Addr → Prop) (L a : Addr) (cd : Value) (oa : Nat → Addr) (ds : List D) (h : Heap) : Prop where
  keep : Ext h₀ h
  top : ∃ N mg mb, TopAt t w N mg mb h₀
  pdead : ∀ b, Priv c L oa ds b → h₀.get? b = none
  plive : ∀ b, Priv c L oa ds b → ∃ o, h.get? b = some o
  ns : ∃ m, h.Ns L m
  cl : ∃ cm, Cl L (c.cells L) h cm
  fresh : ∀ b, h.get? b = none → Pr b
  vars : ∀ (k : Nat) (x : Str) (d : D), c.locs[k]? = some x → ds[k]? = some d → VarOk (Pv c Pr L oa ds) (c.env L a cd) h (oa k) x d
  inj : ∀ k k' xs xs', ds[k]? = some (.own xs) → ds[k']? = some (.own xs') → oa k = oa k' → k = k'
  len : ds.length = c.locs.length
  pown : ∀ k xs, ds[k]? = some (.own xs) → Pr (oa k)

section
variable {t : Tops} {w : World} {c : FC} {h₀ : Heap} {Pr : Addr → Prop} {L a : Addr} {cd : Value} {oa : Nat → Addr} {ds : List D} {h h' : Heap}

theorem St.pfresh (S : St t w c h₀ Pr L a cd oa ds h) (b : Addr) (e : h.get? b = none) : Pv c Pr L oa ds b :=
  ⟨S.fresh b e, fun p => by obtain ⟨o, ho⟩ := S.plive b p; rw [ho] at e; cases e⟩
theorem St.ctx (S : St t w c h₀ Pr L a cd oa ds h) (ok : c.Ok) : Ctx t w c.locs c.gls (c.env L a cd) (Pv c Pr L oa ds) ds h where
  top := let ⟨N, mg, mb, T⟩ := S.top; ⟨N, mg, mb, T.keeps S.keep⟩
  kind := ok.kind
  glob := rfl
  blt := rfl
  rd := fun k x d h1 h2 h3 => (S.vars k x d h1 h2).plain h3
  gl := fun x hx => ok.gls x hx
  fresh := S.pfresh
  cp := fun x hx => let ⟨k, q⟩ := ok.cps x hx; ⟨k, q L⟩
theorem St.ext (S : St t w c h₀ Pr L a cd oa ds h) (e : Ext h h') : St t w c h₀ Pr L a cd oa ds h' where
  keep := S.keep.trans e
  top := S.top
  pdead := S.pdead
  plive := fun b p => let ⟨o, ho⟩ := S.plive b p; ⟨o, e _ _ ho⟩
  ns := let ⟨m, hm⟩ := S.ns; ⟨m, hm.keeps e⟩
  cl := let ⟨cm, X⟩ := S.cl; ⟨cm, X.keeps e⟩
  fresh := fun b hb => S.fresh b (e.dead hb)
  vars := fun k x d h1 h2 => (S.vars k x d h1 h2).mono (fun v r => r.ext e) (fun b o _ he => e b o he) (fun _ _ _ p => p) (fun _ o _ he => e _ o he)
  inj := S.inj
  len := S.len
  pown := S.pown

/-- one variable is stored anew -/
theorem St.upd {oa' : Nat → Addr} {k : Nat} {x : Str} {d : D} {q : Addr} (S : St t w c h₀ Pr L a cd oa ds h) (hk : c.locs[k]? = some x) (nd : c.locs.Nodup)
    (hq : Priv c L oa ds q) (hqo : ∀ j xs, j ≠ k → ds[j]? = some (.own xs) → oa j ≠ q)
    (hkeep : ∀ b o, b ≠ q → h.get? b = some o → h'.get? b = some o) (hlive : ∃ o, h'.get? q = some o) (hns : ∃ m, h'.Ns L m) (hcl : ∃ cm, Cl L (c.cells L) h' cm)
    (hrd : ∀ y v, y ≠ x → Rd (c.env L a cd) h y v → Rd (c.env L a cd) h' y v)
    (hoa : ∀ j xs, j ≠ k → ds[j]? = some (.own xs) → oa' j = oa j)
    (hpriv : ∀ b, Priv c L oa' (ds.set k d) b → Priv c L oa ds b ∨ (h.get? b = none ∧ h₀.get? b = none ∧ ∃ o, h'.get? b = some o))
    (hnew : VarOk (Pv c Pr L oa' (ds.set k d)) (c.env L a cd) h' (oa' k) x d)
    (hinj : ∀ j xs xs', j ≠ k → ds[j]? = some (.own xs) → d = .own xs' → oa' k ≠ oa j) (hpo : ∀ xs, d = .own xs → Pr (oa' k)) :
    St t w c h₀ Pr L a cd oa' (ds.set k d) h' := by
  have hmono : ∀ b o, h.get? b = some o → Pv c Pr L oa ds b → Pv c Pr L oa' (ds.set k d) b := fun b o ho p => ⟨p.1, fun p' => by
    rcases hpriv b p' with z | z
    · exact p.2 z
    · rw [z.1] at ho; cases ho⟩
  refine ⟨fun b o e => hkeep b o (fun e' => by subst e'; rw [S.pdead _ hq] at e; cases e) (S.keep b o e), S.top, ?_, ?_, hns, hcl, ?_, ?_, ?_, by rw [List.length_set]; exact S.len, ?_⟩
  · intro b p
    rcases hpriv b p with z | z
    · exact S.pdead b z
    · exact z.2.1
  · intro b p
    rcases hpriv b p with z | z
    · by_cases e : b = q
      · subst e; exact hlive
      · obtain ⟨o, ho⟩ := S.plive b z; exact ⟨o, hkeep b o e ho⟩
    · exact z.2.2
  · intro b e
    refine S.fresh b ?_
    cases hb : h.get? b with
    | none => rfl
    | some o =>
      by_cases eq : b = q
      · subst eq; obtain ⟨o', ho'⟩ := hlive; rw [ho'] at e; cases e
      · rw [hkeep b o eq hb] at e; cases e
  · intro j y d' h1 h2
    by_cases e : j = k
    · subst e
      rw [hk] at h1; cases h1
      have hlt : j < ds.length := by
        rw [S.len]
        rcases Nat.lt_or_ge j c.locs.length with z | z
        · exact z
        · rw [List.getElem?_eq_none z] at hk; cases hk
      rw [List.getElem?_set_self hlt] at h2
      cases h2
      exact hnew
    · rw [List.getElem?_set_ne (Ne.symm e)] at h2
      have hxy : y ≠ x := by
        intro e'; subst e'
        exact e (nodup_inj nd h1 hk)
      have V := (S.vars j y d' h1 h2).mono (P' := Pv c Pr L oa' (ds.set k d)) (h' := h') (fun v r => hrd y v hxy r)
        (fun b o p e => hkeep b o (fun e' => p.2 (e' ▸ hq)) e) hmono (fun xs o e he => hkeep _ o (hqo j xs (by assumption) (e ▸ h2)) he)
      cases d'
      case own xs => rw [hoa j xs e h2]; exact V
      all_goals exact V
  · intro i j xs xs' h1 h2 e
    by_cases ei : i = k
    · by_cases ej : j = k
      · omega
      · exfalso
        subst ei
        rw [List.getElem?_set_ne (Ne.symm ej)] at h2
        have hlt : i < ds.length := by
          rcases Nat.lt_or_ge i ds.length with z | z
          · exact z
          · rw [List.getElem?_eq_none (by rw [List.length_set]; exact z)] at h1; cases h1
        rw [List.getElem?_set_self hlt] at h1
        cases h1
        rw [hoa j xs' ej h2] at e
        exact hinj j xs' xs ej h2 rfl e
    · by_cases ej : j = k
      · exfalso
        subst ej
        rw [List.getElem?_set_ne (Ne.symm ei)] at h1
        have hlt : j < ds.length := by
          rcases Nat.lt_or_ge j ds.length with z | z
          · exact z
          · rw [List.getElem?_eq_none (by rw [List.length_set]; exact z)] at h2; cases h2
        rw [List.getElem?_set_self hlt] at h2
        cases h2
        rw [hoa i xs ei h1] at e
        exact hinj i xs xs' ei h1 rfl e.symm
      · rw [List.getElem?_set_ne (Ne.symm ei)] at h1
        rw [List.getElem?_set_ne (Ne.symm ej)] at h2
        rw [hoa i xs ei h1, hoa j xs' ej h2] at e
        exact S.inj i j xs xs' h1 h2 e
  · intro j xs h1
    by_cases ej : j = k
    · subst ej
      have hlt : j < ds.length := by
        rcases Nat.lt_or_ge j ds.length with z | z
        · exact z
        · rw [List.getElem?_eq_none (by rw [List.length_set]; exact z)] at h1; cases h1
      rw [List.getElem?_set_self hlt] at h1
      cases h1
      exact hpo xs rfl
    · rw [List.getElem?_set_ne (Ne.symm ej)] at h1
      rw [hoa j xs ej h1]
      exact S.pown j xs h1
end
end Mine

namespace Mine
open PySem PySem.Calls PyProof.Rows PyProof.V

theorem Ns.uniq {h : Heap} {a : Addr} {m m' : Str → Option Value} (x : h.Ns a m) (y : h.Ns a m') : m = m' := by
  obtain ⟨o, es, ep, h1, h2, _, h3⟩ := x
  obtain ⟨o', es', ep', h1', h2', _, h3'⟩ := y
  rw [h1] at h1'; cases h1'
  rw [h2] at h2'; cases h2'
  funext n
  rw [← h3, ← h3']
theorem Ns.notCell {h : Heap} {a : Addr} {m : Str → Option Value} {v : Option Value} (x : h.Ns a m) (y : h.IsCell a v) : False := by
  obtain ⟨o, es, ep, h1, h2, _⟩ := x
  obtain ⟨o', h1', h2'⟩ := y
  rw [h1] at h1'; cases h1'
  rw [h2] at h2'; cases h2'
theorem Ns.notL {h : Heap} {a : Addr} {m : Str → Option Value} {vs : Array Value} {n : Nat} (x : h.Ns a m) (y : h.get? a = some (LObj vs n)) : False := by
  obtain ⟨o, es, ep, h1, h2, _⟩ := x
  rw [h1] at y; cases y
  cases h2
theorem Cell.notL {h : Heap} {a : Addr} {v : Option Value} {vs : Array Value} {n : Nat} (x : h.IsCell a v) (y : h.get? a = some (LObj vs n)) : False := by
  obtain ⟨o, h1, h2⟩ := x
  rw [h1] at y; cases y
  cases h2

noncomputable def KeepB (c : FC) (L : Addr) (oa : Nat → Addr) (ds : List D) (h h' : Heap) : Prop := ∀ b o, ¬ Priv c L oa ds b → h.get? b = some o → h'.get? b = some o

section
variable {t : Tops} {w : World} {A : Around} {E : Value → Shared → Prop} {s : Shared} {c : FC} {h₀ : Heap} {Pr : Addr → Prop} {L a : Addr} {cd : Value} {oa : Nat → Addr} {ds : List D}

/-- how a store into a name of the frame ends -/
theorem store_ends {k : Nat} {x : Str} {v : Value} {Q : Unit → Shared → Prop} (S : St t w c h₀ Pr L a cd oa ds s.heap) (ok : c.Ok) (htk : 0 < s.toks) (hk : c.locs[k]? = some x)
    (h : ∀ h' tk q, 0 < tk → Priv c L oa ds q → (∀ j xs, ds[j]? = some (.own xs) → oa j ≠ q) → (∀ b o, b ≠ q → s.heap.get? b = some o → h'.get? b = some o) → (∃ o, h'.get? q = some o) → (∃ m, h'.Ns L m) → (∃ cm, Cl L (c.cells L) h' cm) →
      (∀ y v, y ≠ x → Rd (c.env L a cd) s.heap y v → Rd (c.env L a cd) h' y v) → Rd (c.env L a cd) h' x v → Q () { s with heap := h', toks := tk }) :
    wpAny (model prog w) A (storeName (c.env L a cd) x v) Q E s := by
  obtain ⟨m, hm⟩ := S.ns
  obtain ⟨cm, X⟩ := S.cl
  have hmem : x ∈ c.locs := List.mem_of_getElem? hk
  rcases ok.kinds x hmem with hl | ⟨hl, hq⟩
  · refine wpAny_storeName_local (env := c.env L a cd) hl hm (fun h' hn hs => ?_) (by show (c.scope.kind == .class || (c.scope.kind == .module && L != mainGlobals)) = false; rw [ok.kind]; rfl)
    refine h h' _ L (Nat.succ_pos _) (.inl rfl) ?_ (fun b o hb e => (hs.2 b hb).trans e) ?_ ⟨_, hn⟩ ⟨cm, X.sameBut hs (Nat.le_refl _)⟩ ?_ (.inl ⟨hl, _, hn, by simp⟩)
    · intro j xs hj e
      obtain ⟨y, hy⟩ : ∃ y, c.locs[j]? = some y := by
        have : j < c.locs.length := by
          rw [← S.len]
          rcases Nat.lt_or_ge j ds.length with z | z
          · exact z
          · rw [List.getElem?_eq_none z] at hj; cases hj
        exact ⟨_, List.getElem?_eq_getElem this⟩
      obtain ⟨items, n, _, r2, _⟩ := S.vars j y _ hy hj
      rw [e] at r2
      exact Ns.notL hm r2
    · obtain ⟨o, es, ep, ho, _⟩ := hn; exact ⟨o, ho⟩
    · intro y u hyx r
      rcases r with ⟨ky, m', hm', hv'⟩ | ⟨ky, q, hl', hv'⟩
      · refine .inl ⟨ky, _, hn, ?_⟩
        have := Ns.uniq hm hm'
        subst this
        simp [hyx, hv']
      · refine .inr ⟨ky, q, hl', hv'.sameBut hs ?_⟩
        intro e; subst e; exact Ns.notCell hm hv'
  · obtain ⟨q, hq⟩ := hq L
    have hLc : L < q := X.above x q (mem_of_lookup hq)
    have hcell := X.cell x q hq
    refine wpAny_storeName_cell (env := c.env L a cd) ok.kind hl hq hcell fun h' hv hs => ?_
    refine h h' s.toks q htk (.inr (.inl ⟨x, hq⟩)) ?_ (fun b o hb e => (hs.2 b hb).trans e) ?_ ⟨m, hm.sameBut hs (Nat.ne_of_lt hLc)⟩ ?_ ?_ (.inr ⟨.inl hl, q, hq, hv⟩)
    · intro j xs hj e
      obtain ⟨y, hy⟩ : ∃ y, c.locs[j]? = some y := by
        have : j < c.locs.length := by
          rw [← S.len]
          rcases Nat.lt_or_ge j ds.length with z | z
          · exact z
          · rw [List.getElem?_eq_none z] at hj; cases hj
        exact ⟨_, List.getElem?_eq_getElem this⟩
      obtain ⟨items, n, _, r2, _⟩ := S.vars j y _ hy hj
      rw [e] at r2
      exact Cell.notL hcell r2
    · obtain ⟨o, ho, _⟩ := hv; exact ⟨o, ho⟩
    · refine ⟨fun y => if y = x then some v else cm y, ⟨fun n c' e => ?_, X.apart, X.above⟩⟩
      by_cases hn : n = x
      · subst hn; rw [hq] at e; cases e; simpa using hv
      · have hcc : c' ≠ q := fun z => hn (name_of_addr X.apart (mem_of_lookup e) (z ▸ mem_of_lookup hq))
        simpa [hn] using (X.cell n c' e).sameBut hs hcc
    · intro y u hyx r
      rcases r with ⟨ky, m', hm', hv'⟩ | ⟨ky, q', hl', hv'⟩
      · exact .inl ⟨ky, m', hm'.sameBut hs (Nat.ne_of_lt hLc), hv'⟩
      · refine .inr ⟨ky, q', hl', hv'.sameBut hs ?_⟩
        intro e; subst e
        exact hyx (name_of_addr X.apart (mem_of_lookup hl') (mem_of_lookup hq))

theorem Rep.notOwn {P : Addr → Prop} {h : Heap} {v : Value} {d : D} (r : Rep P h v d) : d.plain = true := by cases r <;> rfl

theorem priv_set {d : D} {k : Nat} (hd : d.plain = true) {b : Addr} (p : Priv c L oa (ds.set k d) b) : Priv c L oa ds b := by
  rcases p with p | p | ⟨j, xs, h1, h2⟩
  · exact .inl p
  · exact .inr (.inl p)
  · by_cases e : j = k
    · subst e
      have hlt : j < ds.length := by
        rcases Nat.lt_or_ge j ds.length with z | z
        · exact z
        · rw [List.getElem?_eq_none (by rw [List.length_set]; exact z)] at h1; cases h1
      rw [List.getElem?_set_self hlt] at h1
      cases h1
      cases hd
    · rw [List.getElem?_set_ne (Ne.symm e)] at h1
      exact .inr (.inr ⟨j, xs, h1, h2⟩)

theorem St.store {k : Nat} {x : Str} {v : Value} {d : D} {Q : Unit → Shared → Prop} (S : St t w c h₀ Pr L a cd oa ds s.heap) (ok : c.Ok) (htk : 0 < s.toks) (hk : c.locs[k]? = some x) (R : Rep (Pv c Pr L oa ds) s.heap v d)
    (h : ∀ h' tk, 0 < tk → St t w c h₀ Pr L a cd oa (ds.set k d) h' → KeepB c L oa ds s.heap h' → Q () { s with heap := h', toks := tk }) :
    wpAny (model prog w) A (storeName (c.env L a cd) x v) Q E s := by
  refine store_ends S ok htk hk fun h' tk q ktk hq hqo hkeep hlive hns hcl hrd hrx => ?_
  have hkb : KeepB c L oa ds s.heap h' := fun b o hb e => hkeep b o (fun e' => hb (e' ▸ hq)) e
  refine h h' tk ktk (S.upd hk ok.nodup hq (fun j xs _ => hqo j xs) hkeep hlive hns hcl hrd (fun _ _ _ _ => rfl) (fun b p => .inl (priv_set R.notOwn p)) ?_ ?_ ?_) hkb
  · refine VarOk.of_plain hrx (R.mono (fun b o p e => hkb b o p.2 e) fun b o _ p => ⟨p.1, fun p' => p.2 (priv_set R.notOwn p')⟩)
  · intro j xs xs' _ _ e
    have := R.notOwn
    rw [e] at this; cases this
  · intro xs e
    have := R.notOwn
    rw [e] at this; cases this

/-- a new list becomes the name's own -/
theorem St.storeOwn {k : Nat} {x : Str} {items : Array Value} {n : Nat} {xs : List D} {q' : Addr} {hE : Heap} {Q : Unit → Shared → Prop} (S : St t w c h₀ Pr L a cd oa ds hE) (ok : c.Ok) (xE : Ext hE s.heap) (htk : 0 < s.toks) (hk : c.locs[k]? = some x)
    (hdead : hE.get? q' = none) (hobj : s.heap.get? q' = some (LObj items n)) (R : ∀ P, RepL P s.heap items.toList xs) (R' : ∀ P h, RepL P h items.toList xs)
    (h : ∀ h' tk, 0 < tk → St t w c h₀ Pr L a cd (fun j => if j = k then q' else oa j) (ds.set k (.own xs)) h' → KeepB c L oa ds s.heap h' → Q () { s with heap := h', toks := tk }) :
    wpAny (model prog w) A (storeName (c.env L a cd) x (.ref q')) Q E s := by
  have S' := S.ext xE
  have hlt : k < ds.length := by
    rw [S.len]
    rcases Nat.lt_or_ge k c.locs.length with z | z
    · exact z
    · rw [List.getElem?_eq_none z] at hk; cases hk
  refine store_ends S' ok htk hk fun h' tk q ktk hq hqo hkeep hlive hns hcl hrd hrx => ?_
  have hkb : KeepB c L oa ds s.heap h' := fun b o hb e => hkeep b o (fun e' => hb (e' ▸ hq)) e
  have hqq : q' ≠ q := fun e => by
    obtain ⟨o, ho⟩ := S.plive q hq
    rw [← e, hdead] at ho; cases ho
  have hdead0 : h₀.get? q' = none := S.keep.dead hdead
  have hobj' : h'.get? q' = some (LObj items n) := hkeep _ _ hqq hobj
  refine h h' tk ktk (S.upd hk ok.nodup hq (fun j xs _ => hqo j xs) (fun b o hb e => hkeep b o hb (xE b o e)) hlive hns hcl (fun y v hy r => hrd y v hy (r.ext xE)) (fun j xs hj _ => by simp [hj]) ?_ ?_ ?_ ?_) hkb
  · intro b p
    rcases p with p | p | ⟨j, ys, h1, h2⟩
    · exact .inl (.inl p)
    · exact .inl (.inr (.inl p))
    · by_cases e : j = k
      · subst e
        dsimp only at h2
        rw [if_pos rfl] at h2
        subst h2
        exact .inr ⟨hdead, hdead0, _, hobj'⟩
      · rw [List.getElem?_set_ne (Ne.symm e)] at h1
        dsimp only at h2
        rw [if_neg e] at h2
        exact .inl (.inr (.inr ⟨j, ys, h1, h2⟩))
  · refine ⟨items, n, ?_, ?_, R' _ _⟩
    · simpa using hrx
    · simpa using hobj'
  · intro j ys ys' hj h1 _ e
    rw [if_pos rfl] at e
    obtain ⟨o, ho⟩ := S.plive (oa j) (.inr (.inr ⟨j, ys, h1, rfl⟩))
    rw [← e, hdead] at ho; cases ho
  · intro ys _
    rw [if_pos rfl]
    exact S.fresh _ hdead
end
end Mine

namespace Mine
open PySem PySem.Calls PyProof.Rows PyProof.V

inductive Fl where
  | next | brk
  | ret (d : D)

noncomputable def FlOk (P : Addr → Prop) (h : Heap) : Flow → Fl → Prop
  | .next, .next => True
  | .brk, .brk => True
  | .ret v, .ret d => Rep P h v d
  | _, _ => False

structure Moved (c : FC) (L : Addr) (oa : Nat → Addr) (ds : List D) (h : Heap) (oa' : Nat → Addr) (ds' : List D) (h' : Heap) : Prop where
  keep : KeepB c L oa ds h h'
  priv : ∀ b, Priv c L oa' ds' b → Priv c L oa ds b ∨ h.get? b = none
theorem Moved.trans {c : FC} {L : Addr} {oa oa' oa'' : Nat → Addr} {ds ds' ds'' : List D} {h h' h'' : Heap} (x : Moved c L oa ds h oa' ds' h') (y : Moved c L oa' ds' h' oa'' ds'' h'') : Moved c L oa ds h oa'' ds'' h'' where
  keep := fun b o hb e => y.keep b o (fun p => by
    rcases x.priv b p with z | z
    · exact hb z
    · rw [z] at e; cases e) (x.keep b o hb e)
  priv := fun b p => by
    rcases y.priv b p with z | z
    · exact x.priv b z
    · by_cases hb : Priv c L oa ds b
      · exact .inl hb
      · refine .inr ?_
        cases e : h.get? b with
        | none => rfl
        | some o => rw [x.keep b o hb e] at z; cases z
theorem Moved.ext {c : FC} {L : Addr} {oa : Nat → Addr} {ds : List D} {h h' : Heap} (x : Ext h h') : Moved c L oa ds h oa ds h' := ⟨fun b o _ e => x b o e, fun b p => .inl p⟩

noncomputable def Den1 (t : Tops) (B : Nat) (c : FC) (st : Stmt) (g : List D → Option (Fl × List D)) : Prop :=
  ∀ (w : World) (A : Around) (s : Shared) (h₀ : Heap) (Pr : Addr → Prop) (L a : Addr) (cd : Value) (oa : Nat → Addr) (ds : List D) (fl : Fl) (ds' : List D) (Q : Flow → Shared → Prop),
    Room B A → 0 < s.toks → St t w c h₀ Pr L a cd oa ds s.heap → g ds = some (fl, ds') →
    (∀ f h' tk oa', 0 < tk → FlOk (Pv c Pr L oa' ds') h' f fl → St t w c h₀ Pr L a cd oa' ds' h' → Moved c L oa ds s.heap oa' ds' h' → Q f { s with heap := h', toks := tk }) →
    wpAny (model prog w) A (exec st (c.env L a cd)) Q NoE s
noncomputable def DenS (t : Tops) (B : Nat) (c : FC) (sts : List Stmt) (g : List D → Option (Fl × List D)) : Prop :=
  ∀ (w : World) (A : Around) (s : Shared) (h₀ : Heap) (Pr : Addr → Prop) (L a : Addr) (cd : Value) (oa : Nat → Addr) (ds : List D) (fl : Fl) (ds' : List D) (Q : Flow → Shared → Prop),
    Room B A → 0 < s.toks → St t w c h₀ Pr L a cd oa ds s.heap → g ds = some (fl, ds') →
    (∀ f h' tk oa', 0 < tk → FlOk (Pv c Pr L oa' ds') h' f fl → St t w c h₀ Pr L a cd oa' ds' h' → Moved c L oa ds s.heap oa' ds' h' → Q f { s with heap := h', toks := tk }) →
    wpAny (model prog w) A (execs sts (c.env L a cd)) Q NoE s

section
variable {t : Tops} {B : Nat} {c : FC}

noncomputable abbrev sNil : List D → Option (Fl × List D) := fun ds => some (.next, ds)
theorem den_snil : DenS t B c [] sNil := by
  intro w A s h₀ Pr L a cd oa ds fl ds' Q rm htk S e h
  cases e
  exact wpAny_execs_nil (h .next s.heap s.toks oa htk trivial S (Moved.ext (Ext.refl _)))
noncomputable abbrev sSeq (g1 g2 : List D → Option (Fl × List D)) : List D → Option (Fl × List D) := fun ds => match g1 ds with
  | some (.next, ds1) => g2 ds1
  | r => r
theorem den_scons {st : Stmt} {rest : List Stmt} {g1 g2 : List D → Option (Fl × List D)} (h1 : Den1 t B c st g1) (h2 : DenS t B c rest g2) : DenS t B c (st :: rest) (sSeq g1 g2) := by
  intro w A s h₀ Pr L a cd oa ds fl ds' Q rm htk S e h
  unfold sSeq at e
  cases e1 : g1 ds with
  | none => rw [e1] at e; cases e
  | some p =>
  obtain ⟨fl1, ds1⟩ := p
  rw [e1] at e
  refine wpAny_execs_cons (h1 w A s h₀ Pr L a cd oa ds fl1 ds1 _ rm htk S e1 fun f h' tk oa' k fo S' mv => ?_)
  cases f <;> cases fl1 <;> first | exact fo.elim | skip
  · exact h2 w A _ h₀ Pr L a cd oa' ds1 fl ds' _ rm k S' e fun f h'' tk' oa'' k' fo' S'' mv' => h f h'' tk' oa'' k' fo' S'' (mv.trans mv')
  · cases e; exact h .brk h' tk oa' k trivial S' mv
  · cases e; exact h _ h' tk oa' k fo S' mv

noncomputable abbrev sAssign (k : Nat) (f : List D → Option D) : List D → Option (Fl × List D) := fun ds => match f ds with
  | some d => some (.next, ds.set k d)
  | none => none
theorem den_assign {x : Str} {pos' pos : Pos} {value : Expr} {f : List D → Option D} (ok : c.Ok) (k : Nat) (hk : c.locs[k]? = some x) (hv : DenE t B c.locs c.gls value f)
    (hs : ∀ L a cd, swapsWith value (some (.Name x pos')) pos.line (c.env L a cd) = pure false := by intro _ _ _; rfl) : Den1 t B c (.Assign [.Name x pos'] value pos) (sAssign k f) := by
  intro w A s h₀ Pr L a cd oa ds fl ds' Q rm htk S e h
  unfold sAssign at e
  cases e1 : f ds with
  | none => rw [e1] at e; cases e
  | some d =>
  rw [e1] at e; cases e
  refine wpAny_Assign_Name (hv w A s _ _ ds d _ rm htk (S.ctx ok) e1 fun v h' tk kk xv rv => ?_) (hs L a cd)
  refine (S.ext xv).store (s := { s with heap := h', toks := tk }) ok kk hk rv fun h'' tk' k' S' kb => h .next h'' tk' oa k' trivial S' ⟨fun b o hb e => kb b o hb (xv b o e), fun b p => .inl (priv_set rv.notOwn p)⟩

/-! lists of constants -/
inductive Consts : List Expr → List D → Prop
  | nil : Consts [] []
  | int (i : Int) (k : Nat) (p : Pos) {r ds} : Consts r ds → Consts (.Constant (.int i) k p :: r) (.int i :: ds)
  | str (x : Str) (k : Nat) (p : Pos) {r ds} : Consts r ds → Consts (.Constant (.str x) k p :: r) (.str x :: ds)
theorem Consts.den {w : World} {A : Around} {env : Env} {pos : Pos} : ∀ {es : List Expr} {ds : List D}, Consts es ds → ∀ (s : Shared) (Q : List Value → Shared → Prop), 0 < s.toks →
    (∀ vs tk, 0 < tk → (∀ P h, RepL P h vs ds) → Q vs { s with toks := tk }) → wpAny (model prog w) A (spliced (backTo pos (starEach es env))) Q NoE s
  | _, _, .nil, s, Q, htk, h => args_nil (h [] s.toks htk fun _ _ => .nil)
  | _, _, .int i k p hr, s, Q, htk, h => args_cons (wpAny_Constant_int (hr.den _ _ (Nat.succ_pos _) fun vs tk kk R => h _ tk kk fun P h => .cons (.int _ _) (R P h)))
  | _, _, .str x k p hr, s, Q, htk, h => args_cons (by
      rw [eval_Constant]
      exact wpAny_mkText (hr.den _ _ (Nat.succ_pos _) fun vs tk kk R => h _ tk kk fun P h => .cons (.str _ _) (R P h)))
noncomputable abbrev sAssignOwn (k : Nat) (xs : List D) : List D → Option (Fl × List D) := fun ds => some (.next, ds.set k (.own xs))
theorem den_assignOwn {x : Str} {pos' pos lp : Pos} {elts : List Expr} {xs : List D} (ok : c.Ok) (k : Nat) (hk : c.locs[k]? = some x) (hc : Consts elts xs) (hz : xs.length ≤ 65536 := by decide)
    (hs : ∀ L a cd, swapsWith (.List elts lp) (some (.Name x pos')) pos.line (c.env L a cd) = pure false := by intro _ _ _; rfl) : Den1 t B c (.Assign [.Name x pos'] (.List elts lp) pos) (sAssignOwn k xs) := by
  intro w A s h₀ Pr L a cd oa ds fl ds' Q rm htk S e h
  cases e
  refine wpAny_Assign_Name (List_ (hc.den s _ htk fun vs tk kk R => ?_)) (hs L a cd)
  have hl : vs.length = xs.length := (R (fun _ => True) s.heap).length
  refine wpAny_newList ?_ (by rw [hl, sizeLine_eq]; omega)
  refine S.storeOwn (s := { s with heap := s.heap.push (LObj vs.toArray 0), toks := tk }) ok (Ext.push _ _) kk hk (dead_size _) (Heap.get?_push_size _ rfl) (fun P => R P _) (fun P h => R P h) fun h' tk' k' S' kb => ?_
  refine h .next h' tk' _ k' trivial S' ⟨fun b o hb e => kb b o hb (Heap.get?_push_of_some _ e), fun b p => ?_⟩
  rcases p with p | p | ⟨j, ys, h1, h2⟩
  · exact .inl (.inl p)
  · exact .inl (.inr (.inl p))
  · by_cases e : j = k
    · subst e
      dsimp only at h2
      rw [if_pos rfl] at h2
      subst h2
      exact .inr (dead_size _)
    · rw [List.getElem?_set_ne (Ne.symm e)] at h1
      dsimp only at h2
      rw [if_neg e] at h2
      exact .inl (.inr (.inr ⟨j, ys, h1, h2⟩))

noncomputable abbrev sAug (k : Nat) (g : D → D → Option D) (f : List D → Option D) : List D → Option (Fl × List D) := fun ds => match eBin g (eVar k) f ds with
  | some d => some (.next, ds.set k d)
  | none => none
theorem den_aug {x : Str} {pos' pos : Pos} {op : Operator} {value : Expr} {g : D → D → Option D} {f : List D → Option D} (ok : c.Ok) (k : Nat) (hk : c.locs[k]? = some x) (hop : Op2 t (inplaceOp op) g) (hv : DenE t B c.locs c.gls value f)
    (hB : B ≤ 900 := by decide) : Den1 t B c (.AugAssign (.Name x pos') op value pos) (sAug k g f) := by
  intro w A s h₀ Pr L a cd oa ds fl ds' Q rm htk S e h
  unfold sAug at e
  cases e1 : eBin g (eVar k) f ds with
  | none => rw [e1] at e; cases e
  | some d =>
  rw [e1] at e; cases e
  obtain ⟨x', y, e2, e3, e4⟩ := eBin_inv e1
  have C := S.ctx ok
  have hp : ds[k]? = some x' ∧ x'.plain = true := by
    unfold eVar at e2
    cases hd : ds[k]? with
    | none => rw [hd] at e2; cases e2
    | some d' =>
      rw [hd] at e2; dsimp only at e2
      cases hp : d'.plain with
      | false => rw [hp] at e2; cases e2
      | true => rw [hp] at e2; cases e2; exact ⟨rfl, hp⟩
  obtain ⟨v0, r0, p0⟩ := C.rd k x x' hk hp.1 hp.2
  refine wpAny_AugAssign_Name (r0.load C.kind ?_)
  refine hv w A s _ _ ds y _ rm htk C e3 fun v h' tk kk xv rv => ?_
  refine hop w A _ B _ v0 v x' y d _ rm hB kk (C.ext xv).top (C.ext xv).fresh (p0.ext xv) rv e4 fun u h2 tk2 k2 x2 r2 => ?_
  refine (S.ext (xv.trans x2)).store (s := { s with heap := h2, toks := tk2 }) ok k2 hk r2 fun h'' tk' k' S' kb => h .next h'' tk' oa k' trivial S' ⟨fun b o hb e => kb b o hb (x2 b o (xv b o e)), fun b p => .inl (priv_set r2.notOwn p)⟩

noncomputable abbrev sRet (f : List D → Option D) : List D → Option (Fl × List D) := fun ds => match f ds with
  | some d => some (.ret d, ds)
  | none => none
theorem den_ret {e : Expr} {pos : Pos} {f : List D → Option D} (ok : c.Ok) (hv : DenE t B c.locs c.gls e f) : Den1 t B c (.Return (some e) pos) (sRet f) := by
  intro w A s h₀ Pr L a cd oa ds fl ds' Q rm htk S e h
  unfold sRet at e
  cases e1 : f ds with
  | none => rw [e1] at e; cases e
  | some d =>
  rw [e1] at e; cases e
  exact wpAny_Return_some (hv w A s _ _ ds d _ rm htk (S.ctx ok) e1 fun v h' tk kk xv rv => h _ h' tk oa kk rv (S.ext xv) (Moved.ext xv))
noncomputable abbrev sBrk : List D → Option (Fl × List D) := fun ds => some (.brk, ds)
theorem den_brk {pos : Pos} : Den1 t B c (.Break pos) sBrk := by
  intro w A s h₀ Pr L a cd oa ds fl ds' Q rm htk S e h
  cases e
  exact wpAny_Break (h .brk s.heap s.toks oa htk trivial S (Moved.ext (Ext.refl _)))
noncomputable abbrev sIf (b : List D → Option Bool) (g1 g2 : List D → Option (Fl × List D)) : List D → Option (Fl × List D) := fun ds => match b ds with
  | some true => g1 ds
  | some false => g2 ds
  | none => none
theorem den_if {test : Expr} {body orelse : List Stmt} {pos : Pos} {b : List D → Option Bool} {g1 g2 : List D → Option (Fl × List D)} (ok : c.Ok) (hb : DenT t B c.locs c.gls test b) (h1 : DenS t B c body g1) (h2 : DenS t B c orelse g2) :
    Den1 t B c (.If test body orelse pos) (sIf b g1 g2) := by
  intro w A s h₀ Pr L a cd oa ds fl ds' Q rm htk S e h
  unfold sIf at e
  cases e1 : b ds with
  | none => rw [e1] at e; cases e
  | some v =>
  rw [e1] at e
  refine wpAny_If (hb w A s _ _ ds v _ rm htk (S.ctx ok) e1 fun h' tk kk xv => ?_)
  cases v with
  | true => exact h1 w A _ h₀ Pr L a cd oa ds fl ds' _ rm kk (S.ext xv) e fun f h'' tk' oa' k' fo S' mv => h f h'' tk' oa' k' fo S' ((Moved.ext xv).trans mv)
  | false => exact h2 w A _ h₀ Pr L a cd oa ds fl ds' _ rm kk (S.ext xv) e fun f h'' tk' oa' k' fo S' mv => h f h'' tk' oa' k' fo S' ((Moved.ext xv).trans mv)
end
end Mine

namespace Mine
open PySem PySem.Calls PyProof.Rows PyProof.V

section
variable {t : Tops} {w : World} {c : FC} {h₀ : Heap} {Pr : Addr → Prop} {L a : Addr} {cd : Value} {oa : Nat → Addr} {ds : List D} {h h' : Heap}

theorem lt_of_get {α : Type} {l : List α} {k : Nat} {x : α} (h : l[k]? = some x) : k < l.length := by
  rcases Nat.lt_or_ge k l.length with z | z
  · exact z
  · rw [List.getElem?_eq_none z] at h; cases h
theorem St.name (S : St t w c h₀ Pr L a cd oa ds h) {k : Nat} {d : D} (e : ds[k]? = some d) : ∃ x, c.locs[k]? = some x := by
  have := lt_of_get e
  rw [S.len] at this
  exact ⟨_, List.getElem?_eq_getElem this⟩

/-- an own list is handed out -/
theorem St.release (S : St t w c h₀ Pr L a cd oa ds h) {k : Nat} {xs : List D} (e : ds[k]? = some (.own xs)) : St t w c h₀ Pr L a cd oa (ds.set k (.list xs)) h := by
  have hlt := lt_of_get e
  have hsub : ∀ b, Priv c L oa (ds.set k (.list xs)) b → Priv c L oa ds b := fun b p => priv_set rfl p
  have hmono : ∀ b, Pv c Pr L oa ds b → Pv c Pr L oa (ds.set k (.list xs)) b := fun b p => ⟨p.1, fun p' => p.2 (hsub b p')⟩
  refine ⟨S.keep, S.top, fun b p => S.pdead b (hsub b p), fun b p => S.plive b (hsub b p), S.ns, S.cl, S.fresh, ?_, ?_, by rw [List.length_set]; exact S.len, ?_⟩
  · intro j y d h1 h2
    by_cases ej : j = k
    · subst ej
      rw [List.getElem?_set_self hlt] at h2
      cases h2
      obtain ⟨items, n, r1, r2, r3⟩ := S.vars j y _ h1 e
      refine ⟨_, r1, .list ⟨S.pown j xs e, fun p => ?_⟩ r2 (r3.weak hmono)⟩
      rcases p with p | ⟨nm, p⟩ | ⟨j', ys, h3, h4⟩
      · obtain ⟨m, hm⟩ := S.ns; rw [p] at r2; exact Ns.notL hm r2
      · obtain ⟨cm, X⟩ := S.cl; exact Cell.notL (X.cell nm _ p) r2
      · by_cases e' : j' = j
        · subst e'
          rw [List.getElem?_set_self hlt] at h3; cases h3
        · rw [List.getElem?_set_ne (Ne.symm e')] at h3
          exact e' (S.inj j' j ys xs h3 e h4)
    · rw [List.getElem?_set_ne (Ne.symm ej)] at h2
      exact (S.vars j y d h1 h2).mono (fun v r => r) (fun b o _ e => e) (fun b o _ p => hmono b p) (fun _ o _ e => e)
  · intro i j ys ys' h1 h2 e'
    by_cases ei : i = k
    · subst ei; rw [List.getElem?_set_self hlt] at h1; cases h1
    · by_cases ej : j = k
      · subst ej; rw [List.getElem?_set_self hlt] at h2; cases h2
      · rw [List.getElem?_set_ne (Ne.symm ei)] at h1
        rw [List.getElem?_set_ne (Ne.symm ej)] at h2
        exact S.inj i j ys ys' h1 h2 e'
  · intro j ys h1
    by_cases ej : j = k
    · subst ej; rw [List.getElem?_set_self hlt] at h1; cases h1
    · rw [List.getElem?_set_ne (Ne.symm ej)] at h1
      exact S.pown j ys h1

/-- an own list's items change -/
theorem St.turn (S : St t w c h₀ Pr L a cd oa ds h) (ok : c.Ok) {k : Nat} {xs ys : List D} (e : ds[k]? = some (.own xs)) {items : Array Value} {n : Nat} (hs : Heap.SameBut (oa k) h h') (ho : h'.get? (oa k) = some (LObj items n))
    (R : RepL (Pv c Pr L oa ds) h items.toList ys) : St t w c h₀ Pr L a cd oa (ds.set k (.own ys)) h' ∧ Moved c L oa ds h oa (ds.set k (.own ys)) h' := by
  have hlt := lt_of_get e
  obtain ⟨x, hx⟩ := S.name e
  obtain ⟨items0, n0, r1, r2, r3⟩ := S.vars k x _ hx e
  obtain ⟨m, hm⟩ := S.ns
  obtain ⟨cm, X⟩ := S.cl
  have hL : L ≠ oa k := fun z => Ns.notL hm (z ▸ r2)
  have hC : ∀ nm q, (c.cells L).lookup nm = some q → q ≠ oa k := fun nm q hq z => Cell.notL (X.cell nm q hq) (z ▸ r2)
  have hrd : ∀ y v, Rd (c.env L a cd) h y v → Rd (c.env L a cd) h' y v := by
    intro y v r
    rcases r with ⟨ky, m', hm', hv'⟩ | ⟨ky, q, hl', hv'⟩
    · exact .inl ⟨ky, m', hm'.sameBut hs hL, hv'⟩
    · exact .inr ⟨ky, q, hl', hv'.sameBut hs (hC y q hl')⟩
  have hsub : ∀ b, Priv c L oa (ds.set k (.own ys)) b → Priv c L oa ds b := by
    intro b p
    rcases p with p | p | ⟨j, zs, h1, h2⟩
    · exact .inl p
    · exact .inr (.inl p)
    · by_cases ej : j = k
      · subst ej; exact .inr (.inr ⟨j, xs, e, h2⟩)
      · rw [List.getElem?_set_ne (Ne.symm ej)] at h1
        exact .inr (.inr ⟨j, zs, h1, h2⟩)
  have hq : Priv c L oa ds (oa k) := .inr (.inr ⟨k, xs, e, rfl⟩)
  have hkeep : ∀ b o, b ≠ oa k → h.get? b = some o → h'.get? b = some o := fun b o hb e => (hs.2 b hb).trans e
  refine ⟨S.upd hx ok.nodup hq (fun j zs hj h1 z => hj (S.inj j k zs xs h1 e z)) hkeep ⟨_, ho⟩ ⟨m, hm.sameBut hs hL⟩ ⟨cm, ⟨fun nm q hq => (X.cell nm q hq).sameBut hs (hC nm q hq), X.apart, X.above⟩⟩
    (fun y v _ r => hrd y v r) (fun _ _ _ _ => rfl) (fun b p => .inl (hsub b p)) ?_ (fun j zs zs' hj h1 _ z => hj (S.inj j k zs xs h1 e z.symm)) (fun zs _ => S.pown k xs e), ⟨fun b o hb e' => hkeep b o (fun z => hb (z ▸ hq)) e', fun b p => .inl (hsub b p)⟩⟩
  exact ⟨items, n, hrd _ _ r1, ho, R.mono (fun b o p e' => hkeep b o (fun z => p.2 (z ▸ hq)) e') fun b o _ p => ⟨p.1, fun p' => p.2 (hsub b p')⟩⟩
end

section
variable {t : Tops} {B : Nat} {c : FC}
noncomputable def rel (k : Nat) (ds : List D) : List D := match ds[k]? with
  | some (.own xs) => ds.set k (.list xs)
  | _ => ds
theorem den_release {sts : List Stmt} {g : List D → Option (Fl × List D)} (k : Nat) (hg : DenS t B c sts g) : DenS t B c sts (fun ds => g (rel k ds)) := by
  intro w A s h₀ Pr L a cd oa ds fl ds' Q rm htk S e h
  dsimp only at e
  cases e1 : ds[k]? with
  | none =>
    have er : rel k ds = ds := by unfold rel; rw [e1]
    rw [er] at e
    exact hg w A s h₀ Pr L a cd oa ds fl ds' Q rm htk S e h
  | some d =>
    cases d
    case own xs =>
      have er : rel k ds = ds.set k (.list xs) := by unfold rel; rw [e1]
      rw [er] at e
      refine hg w A s h₀ Pr L a cd oa _ fl ds' Q rm htk (S.release e1) e fun f h' tk oa' kk fo S' mv => h f h' tk oa' kk fo S' ?_
      exact ⟨fun b o hb e => mv.keep b o (fun p => hb (priv_set rfl p)) e, fun b p => (mv.priv b p).imp (fun p => priv_set rfl p) id⟩
    all_goals
      have er : rel k ds = ds := by unfold rel; rw [e1]
      rw [er] at e
      exact hg w A s h₀ Pr L a cd oa ds fl ds' Q rm htk S e h

theorem append_exact {w : World} {A : Around} {E : Value → Shared → Prop} {s : Shared} {l : Addr} {vs : Array Value} {n : Nat} {x : Value} {Q : Value → Shared → Prop} (ho : s.heap.get? l = some (LObj vs n)) (hsz : vs.size ≤ sizeLine)
    (hQ : ∀ h' n', h'.get? l = some (LObj (vs.push x) n') → Heap.SameBut l s.heap h' → Q .none { s with heap := h' }) : wpAny (model prog w) A (call (.builtin "list.append") [.ref l, x]) Q E s := by
  refine wpAny_call_entry slot_list_append ⟨_, ho, rfl⟩ entry_list_append ?_ (args_list_append _ _)
  show wpAny _ _ (updateSeq l (·.push x) >>= fun _ => ret .none) _ _ s
  refine wpAny_bind (wpAny_updateSeq ho rfl (wpAny_pure ⟨.none, rfl, hQ _ (if (vs.push x).size == vs.size then n else n + 1) (Heap.get?_update_self (Obj.mapSeq (·.push x)) ho rfl) (Heap.SameBut.update ..)⟩))

noncomputable abbrev sAppend (k : Nat) (f : List D → Option D) : List D → Option (Fl × List D) := fun ds => match f ds with
  | some d => match ds[k]? with
    | some (.own xs) => if xs.length ≤ 65536 then some (.next, ds.set k (.own (xs ++ [d]))) else none
    | _ => none
  | none => none
theorem den_append {x : Str} {np ap cp pos : Pos} {e : Expr} {f : List D → Option D} (ok : c.Ok) (k : Nat) (hk : c.locs[k]? = some x) (hv : DenE t B c.locs c.gls e f)
    (pl : Env → Sem Bool) (he : ∀ env, eval (.Call (.Attribute (.Name x np) "append" ap) [e] [] cp) env = (do
      let ov ← eval (.Name x np) env
      standAt ap.atName
      let (f, first) ← holding [ov] (getMethod ov "append" (pl env))
      callWith cp f first (backTo cp (starEach [e] env)) []) := by intro _; rfl)
    (hse : ∀ env, starEach [e] env = (false, eval e env) :: starEach [] env := by intro _; rfl) (hd : (x == ("__debug__" : Str)) = false := by decide +kernel)
    (hi : ∀ L a cd, interactive (c.env L a cd) = false := by intro _ _ _; rfl) (hs : ∀ L a cd, swapsWith (.Call (.Attribute (.Name x np) "append" ap) [e] [] cp) none pos.line (c.env L a cd) = pure false := by intro _ _ _; rfl) :
    Den1 t B c (.Expr (.Call (.Attribute (.Name x np) "append" ap) [e] [] cp) pos) (sAppend k f) := by
  intro w A s h₀ Pr L a cd oa ds fl ds' Q rm htk S ee h
  unfold sAppend at ee
  cases e1 : f ds with
  | none => rw [e1] at ee; cases ee
  | some d =>
  rw [e1] at ee; dsimp only at ee
  split at ee
  · rename_i xs e2
    split at ee
    · rename_i hz
      cases ee
      obtain ⟨items, n, r1, r2, r3⟩ := S.vars k x _ hk e2
      have C := S.ctx ok
      have l1 : items.size = xs.length := by rw [← r3.length, Array.length_toList]
      refine wpAny_Expr ?_ (hi L a cd) (hs L a cd)
      refine MethodCall_ (pl := pl (c.env L a cd)) (wpAny_Name (r1.load C.kind ?_) hd) (he _)
      refine getMethod_list_append r2 rfl rfl ?_
      refine callWith_method1 (args_cons (hv w A s _ _ ds d _ rm htk C e1 fun v h' tk kk xv rv => args_nil ?_) (hse _)) (hse _) rfl
      refine append_exact (s := { s with heap := h', toks := tk }) (xv _ _ r2) (by rw [l1, sizeLine_eq]; omega) fun h'' n' ho hsb => ?_
      obtain ⟨S', mv⟩ := (S.ext xv).turn ok (ys := xs ++ [d]) e2 hsb ho (by
        rw [Array.toList_push]
        exact (r3.ext xv).append (.cons rv .nil))
      exact h .next h'' tk oa kk trivial S' ((Moved.ext xv).trans mv)
    · cases ee
  · cases ee

/-- x[i] += e for an own list -/
noncomputable abbrev sAugIdx (k : Nat) (fi f : List D → Option D) : List D → Option (Fl × List D) := fun ds => match fi ds with
  | some (.int i) => match f ds with
    | some (.int b) => match ds[k]? with
      | some (.own xs) => if 0 ≤ i ∧ i < xs.length ∧ xs.length ≤ 65536 then match xs[i.toNat]? with
        | some (.int y) => some (.next, ds.set k (.own (xs.set i.toNat (.int (y + b)))))
        | _ => none
        else none
      | _ => none
    | _ => none
  | _ => none
theorem den_augidx {x : Str} {np pos' pos : Pos} {i value : Expr} {fi f : List D → Option D} (ok : c.Ok) (k : Nat) (hk : c.locs[k]? = some x) (h1 : DenE t B c.locs c.gls i fi) (h2 : DenE t B c.locs c.gls value f)
    (ha : ∀ ov iv new, augStore i ov iv new = (do holding [new, ov, iv] (setItem ov iv new); release [new, ov, iv] []; pure .next) := by intro _ _ _; rfl) (hd : (x == ("__debug__" : Str)) = false := by decide +kernel) :
    Den1 t B c (.AugAssign (.Subscript (.Name x np) i pos') .Add value pos) (sAugIdx k fi f) := by
  intro w A s h₀ Pr L a cd oa ds fl ds' Q rm htk S ee h
  unfold sAugIdx at ee
  split at ee
  · rename_i iv e1
    split at ee
    · rename_i bv e2
      split at ee
      · rename_i xs e3
        split at ee
        · rename_i hz
          split at ee
          · rename_i y e4
            cases ee
            obtain ⟨items, n, r1, r2, r3⟩ := S.vars k x _ hk e3
            have C := S.ctx ok
            have l1 : items.size = xs.length := by rw [← r3.length, Array.length_toList]
            obtain ⟨v0, hv0, rv0⟩ := r3.get _ _ e4
            rw [Array.getElem?_toList] at hv0
            refine wpAny_AugAssign_Subscript_any (wpAny_Name (r1.load C.kind ?_) hd) ha
            refine h1 w A s _ _ ds _ _ rm htk C e1 fun u h' tk kk xu ru => ?_
            cases ru with | int _ tu =>
            refine wpAny_getItem_list (IsList_of (xu _ _ r2)) hz.1 (by omega) hv0 ?_
            refine h2 w A _ _ _ ds _ _ rm kk (C.ext xu) e2 fun u2 h2' tk2 kk2 xu2 ru2 => ?_
            cases ru2 with | int _ tu2 =>
            cases rv0 with | int _ tv =>
            refine iadd_int ?_
            have r2' := xu2 _ _ (xu _ _ r2)
            refine PySem.W.ki_setAt (s := { s with heap := h2', toks := tk2 + 1 }) (n := n) r2' hz.1 (by omega) (by omega) ?_
            obtain ⟨S', mv⟩ := (S.ext (xu.trans xu2)).turn ok (h' := h2'.update (oa k) (Obj.mapSeq (·.setIfInBounds iv.toNat (.int (y + bv) tk2)))) (ys := xs.set iv.toNat (.int (y + bv))) e3 (Heap.SameBut.update ..)
              (Heap.get?_update_self (Obj.mapSeq (·.setIfInBounds iv.toNat (.int (y + bv) tk2))) r2' rfl) (by
                rw [Array.toList_setIfInBounds]
                exact RepL.set (.int _ _) (r3.ext (xu.trans xu2)) _)
            exact h .next _ _ oa (Nat.succ_pos _) trivial S' ((Moved.ext (xu.trans xu2)).trans mv)
          · cases ee
        · cases ee
      · cases ee
    · cases ee
  · cases ee
end
end Mine

namespace Mine
open PySem PySem.Calls PyProof.Rows PyProof.V

theorem letGo_any {w : World} {A : Around} {E : Value → Shared → Prop} {s : Shared} {target : Expr} {I : Addr} {v : Value} {Q : Unit → Shared → Prop} {o : Obj} {T : String} (ho : s.heap.get? I = some o) (hc : o.cls = .type T) (hT : ownTup T = false) (h : Q () s) :
    wpAny (model prog w) A (letOwnedTupleGo target (.ref I) v) Q E s := by
  have body : wpAny (model prog w) A (do
    let (.ref r, .ref a) := (Value.ref I, v) | return
    let o ← load r
    match o.cls, o.data with
    | .type n, .fields vs =>
      if ["enumerate", "zip", "dict_itemiterator", "dict_reverseitemiterator", "odict_iterator", "itertools.zip_longest", "itertools.pairwise"].contains n && vs[0]? == some (rawInt a) then
        rule "for.unpacks-the-owned-tuple"
        updateField r 0 .none
    | _, _ => pure () : Sem Unit) Q E s := by
    cases v <;> try exact wpAny_pure h
    rename_i b
    refine wpAny_bind (wpAny_load ho ?_)
    obtain ⟨cls, dd, data, sl⟩ := o
    simp only at hc
    subst hc
    cases data <;> try exact wpAny_pure h
    have h1 : (["enumerate", "zip", "dict_itemiterator", "dict_reverseitemiterator", "odict_iterator", "itertools.zip_longest", "itertools.pairwise"].contains T) = false := hT
    simp only [h1, Bool.false_and, Bool.false_eq_true, if_false]
    exact wpAny_pure h
  cases target <;> first | exact wpAny_pure h | exact body

section
variable {t : Tops} {w : World} {c : FC} {h₀ : Heap} {Pr Pr' : Addr → Prop} {L a : Addr} {cd : Value} {oa : Nat → Addr} {ds : List D} {h h' : Heap}

theorem St.repr (S : St t w c h₀ Pr L a cd oa ds h) (hp : ∀ b o, h.get? b = some o → Pr b → Pr' b) (hf : ∀ b, h.get? b = none → Pr' b) : St t w c h₀ Pr' L a cd oa ds h where
  keep := S.keep
  top := S.top
  pdead := S.pdead
  plive := S.plive
  ns := S.ns
  cl := S.cl
  fresh := hf
  vars := fun k x d h1 h2 => (S.vars k x d h1 h2).mono (fun v r => r) (fun b o _ e => e) (fun b o e p => ⟨hp b o e p.1, p.2⟩) (fun _ o _ e => e)
  inj := S.inj
  len := S.len
  pown := fun k xs e => let ⟨o, ho⟩ := S.plive (oa k) (.inr (.inr ⟨k, xs, e, rfl⟩)); hp _ o ho (S.pown k xs e)

/-- a new object is set apart -/
theorem St.guard (S : St t w c h₀ Pr L a cd oa ds h) (x : Ext h h') {I : Addr} (hd : h.get? I = none) (hl : ∃ o, h'.get? I = some o) : St t w c h₀ (fun b => Pr b ∧ b ≠ I) L a cd oa ds h' where
  keep := S.keep.trans x
  top := S.top
  pdead := S.pdead
  plive := fun b p => let ⟨o, ho⟩ := S.plive b p; ⟨o, x _ _ ho⟩
  ns := let ⟨m, hm⟩ := S.ns; ⟨m, hm.keeps x⟩
  cl := let ⟨cm, X⟩ := S.cl; ⟨cm, X.keeps x⟩
  fresh := fun b hb => ⟨S.fresh b (x.dead hb), fun z => by obtain ⟨o, ho⟩ := hl; rw [z, ho] at hb; cases hb⟩
  vars := fun k y d h1 h2 => (S.vars k y d h1 h2).mono (fun v r => r.ext x) (fun b o _ he => x b o he) (fun b o e p => ⟨⟨p.1, fun z => by rw [z, hd] at e; cases e⟩, p.2⟩) (fun _ o _ he => x _ o he)
  inj := S.inj
  len := S.len
  pown := fun k xs e => ⟨S.pown k xs e, fun z => by obtain ⟨o, ho⟩ := S.plive (oa k) (.inr (.inr ⟨k, xs, e, rfl⟩)); rw [z, hd] at ho; cases ho⟩
theorem St.unguard {I : Addr} (S : St t w c h₀ (fun b => Pr b ∧ b ≠ I) L a cd oa ds h) : St t w c h₀ Pr L a cd oa ds h := S.repr (fun b o e p => p.1) (fun b e => (S.fresh b e).1)

/-- one object that is neither the frame's nor handed out changes -/
theorem St.but (S : St t w c h₀ Pr L a cd oa ds h) {I : Addr} (hI : ¬ Pr I) (hp : ¬ Priv c L oa ds I) (h0 : h₀.get? I = none) (hk : ∀ b o, b ≠ I → h.get? b = some o → h'.get? b = some o) (hl : ∃ o, h'.get? I = some o) : St t w c h₀ Pr L a cd oa ds h' where
  keep := fun b o e => hk b o (fun z => by rw [z, h0] at e; cases e) (S.keep b o e)
  top := S.top
  pdead := S.pdead
  plive := fun b p => let ⟨o, ho⟩ := S.plive b p; ⟨o, hk b o (fun z => hp (z ▸ p)) ho⟩
  ns := let ⟨m, o, es, ep, ho, r⟩ := S.ns; ⟨m, o, es, ep, hk _ _ (fun z => hp (z ▸ .inl rfl)) ho, r⟩
  cl := let ⟨cm, X⟩ := S.cl; ⟨cm, ⟨fun n q e => let ⟨o, ho, hd⟩ := X.cell n q e; ⟨o, hk _ _ (fun z => hp (z ▸ .inr (.inl ⟨n, e⟩))) ho, hd⟩, X.apart, X.above⟩⟩
  fresh := fun b e => by
    refine S.fresh b ?_
    cases hb : h.get? b with
    | none => rfl
    | some o =>
      by_cases z : b = I
      · subst z; obtain ⟨o', ho'⟩ := hl; rw [ho'] at e; cases e
      · rw [hk b o z hb] at e; cases e
  vars := fun k x d h1 h2 => by
    have hrd : ∀ v, Rd (c.env L a cd) h x v → Rd (c.env L a cd) h' x v := by
      intro v r
      rcases r with ⟨ky, m, ⟨o, es, ep, ho, r⟩, hv⟩ | ⟨ky, q, hl', o, ho, hd⟩
      · exact .inl ⟨ky, m, ⟨o, es, ep, hk _ _ (fun z => hp (z ▸ .inl rfl)) ho, r⟩, hv⟩
      · exact .inr ⟨ky, q, hl', o, hk _ _ (fun z => hp (z ▸ .inr (.inl ⟨x, hl'⟩))) ho, hd⟩
    refine (S.vars k x d h1 h2).mono hrd (fun b o p e => hk b o (fun z => hI (z ▸ p.1)) e) (fun b o e p => p) (fun xs o e he => hk _ o (fun z => hp (z ▸ .inr (.inr ⟨k, xs, e ▸ h2, rfl⟩))) he)
  inj := S.inj
  len := S.len
  pown := S.pown
theorem St.done {I : Addr} (S : St t w c h₀ (fun b => Pr b ∧ b ≠ I) L a cd oa ds h) (hp : ¬ Priv c L oa ds I) (h0 : h₀.get? I = none) (hPr : Pr I) (hk : ∀ b o, b ≠ I → h.get? b = some o → h'.get? b = some o) : St t w c h₀ Pr L a cd oa ds h' where
  keep := fun b o e => hk b o (fun z => by rw [z, h0] at e; cases e) (S.keep b o e)
  top := S.top
  pdead := S.pdead
  plive := fun b p => let ⟨o, ho⟩ := S.plive b p; ⟨o, hk b o (fun z => hp (z ▸ p)) ho⟩
  ns := let ⟨m, o, es, ep, ho, r⟩ := S.ns; ⟨m, o, es, ep, hk _ _ (fun z => hp (z ▸ .inl rfl)) ho, r⟩
  cl := let ⟨cm, X⟩ := S.cl; ⟨cm, ⟨fun n q e => let ⟨o, ho, hd⟩ := X.cell n q e; ⟨o, hk _ _ (fun z => hp (z ▸ .inr (.inl ⟨n, e⟩))) ho, hd⟩, X.apart, X.above⟩⟩
  fresh := fun b e => by
    by_cases z : b = I
    · rw [z]; exact hPr
    · refine (S.fresh b ?_).1
      cases hb : h.get? b with
      | none => rfl
      | some o => rw [hk b o z hb] at e; cases e
  vars := fun k x d h1 h2 => by
    have hrd : ∀ v, Rd (c.env L a cd) h x v → Rd (c.env L a cd) h' x v := by
      intro v r
      rcases r with ⟨ky, m, ⟨o, es, ep, ho, r⟩, hv⟩ | ⟨ky, q, hl', o, ho, hd⟩
      · exact .inl ⟨ky, m, ⟨o, es, ep, hk _ _ (fun z => hp (z ▸ .inl rfl)) ho, r⟩, hv⟩
      · exact .inr ⟨ky, q, hl', o, hk _ _ (fun z => hp (z ▸ .inr (.inl ⟨x, hl'⟩))) ho, hd⟩
    refine (S.vars k x d h1 h2).mono hrd (fun b o p e => hk b o p.1.2 e) (fun b o e p => ⟨p.1.1, p.2⟩) (fun xs o e he => hk _ o (fun z => hp (z ▸ .inr (.inr ⟨k, xs, e ▸ h2, rfl⟩))) he)
  inj := S.inj
  len := S.len
  pown := fun k xs e => (S.pown k xs e).1
end

section
variable {t : Tops} {B : Nat} {c : FC}
/-- storing into a target -/
noncomputable def AsgOk (t : Tops) (B : Nat) (c : FC) (target : Expr) (set : D → List D → Option (List D)) : Prop :=
  ∀ (w : World) (A : Around) (s : Shared) (h₀ : Heap) (Pr : Addr → Prop) (L a : Addr) (cd : Value) (oa : Nat → Addr) (ds ds' : List D) (v : Value) (x : D) (Q : Unit → Shared → Prop),
    Room B A → 0 < s.toks → St t w c h₀ Pr L a cd oa ds s.heap → Rep (Pv c Pr L oa ds) s.heap v x → set x ds = some ds' →
    (∀ h' tk, 0 < tk → St t w c h₀ Pr L a cd oa ds' h' → Moved c L oa ds s.heap oa ds' h' → Q () { s with heap := h', toks := tk }) →
    wpAny (model prog w) A (assign target (c.env L a cd) v) Q NoE s
noncomputable abbrev setK (k : Nat) : D → List D → Option (List D) := fun x ds => some (ds.set k x)
theorem asg_name {x : Str} {px : Pos} (ok : c.Ok) (k : Nat) (hk : c.locs[k]? = some x) : AsgOk t B c (.Name x px) (setK k) := by
  intro w A s h₀ Pr L a cd oa ds ds' v d Q rm htk S R e h
  cases e
  rw [PySem.assign_Name]
  refine wpAny_bind (wpAny_standAt (wpAny_bindName (S.store ok htk hk R fun h' tk kk S' kb => h h' tk kk S' ⟨kb, fun b p => .inl (priv_set R.notOwn p)⟩)))

noncomputable def forD (set : D → List D → Option (List D)) (body : List D → Option (Fl × List D)) : List D → List D → Option (Fl × List D)
  | [], ds => some (.next, ds)
  | x :: xs, ds => match set x ds with
    | none => none
    | some ds1 => match body ds1 with
      | some (.next, ds2) => forD set body xs ds2
      | r => r
noncomputable abbrev sFor (set : D → List D → Option (List D)) (fi : List D → Option D) (body orelse : List D → Option (Fl × List D)) : List D → Option (Fl × List D) := fun ds => match fi ds with
  | some d => match itemsD d with
    | some xs => match forD set body xs ds with
      | some (.next, ds1) => orelse ds1
      | some (.brk, ds1) => some (.next, ds1)
      | r => r
    | none => none
  | none => none

theorem den_for {target iter : Expr} {body orelse : List Stmt} {pos : Pos} {set : D → List D → Option (List D)} {fi : List D → Option D} {gb go : List D → Option (Fl × List D)} (ok : c.Ok) (hset : AsgOk t B c target set)
    (hi : DenE t B c.locs c.gls iter fi) (hb : DenS t B c body gb) (ho : DenS t B c orelse go) (hs : ∀ L a cd x, foldedSetIterable iter (c.env L a cd) x = pure x := by intro _ _ _ _; rfl) :
    Den1 t B c (.For target iter body orelse pos) (sFor set fi gb go) := by
  intro w A s h₀ Pr L a cd oa ds fl ds' Q rm htk S e h
  unfold sFor at e
  cases e1 : fi ds with
  | none => rw [e1] at e; cases e
  | some d =>
  rw [e1] at e; dsimp only at e
  cases e2 : itemsD d with
  | none => rw [e2] at e; cases e
  | some xs =>
  rw [e2] at e; dsimp only at e
  cases e3 : forD set gb xs ds with
  | none => rw [e3] at e; cases e
  | some res =>
  rw [e3] at e
  refine wpAny_For (hi w A s _ _ ds d _ rm htk (S.ctx ok) e1 fun v h1 tk1 k1 x1 r1 => ?_) (hs L a cd)
  have S1 := S.ext x1
  refine iter_of (s := { s with heap := h1, toks := tk1 }) e2 r1 S1.pfresh fun I h2 x2 it => ?_
  obtain ⟨⟨fp, Pi, Sti, W, st0, hfp, hPi, hIfp, hal⟩, hdead, hlive⟩ := it
  have hdead0 : h₀.get? I = none := S1.keep.dead hdead
  have S2 : St t w c h₀ (fun b => Pr b ∧ b ≠ I) L a cd oa ds h2 := S1.guard x2 hdead hlive
  have hnp : ∀ b, (∃ o, h2.get? b = some o) → Pv c Pr L oa ds b → ¬ Priv c L oa ds b := fun b _ p => p.2
  have x12 : Ext s.heap h2 := x1.trans x2
  have fin : ∀ (f : Flow) (fl' : Fl) (h' : Heap) (tk : Nat) (oa' : Nat → Addr) (ds1 : List D), fl' = fl → ds1 = ds' → 0 < tk → FlOk (Pv c (fun b => Pr b ∧ b ≠ I) L oa' ds1) h' f fl' → St t w c h₀ (fun b => Pr b ∧ b ≠ I) L a cd oa' ds1 h' → Moved c L oa ds h1 oa' ds1 h' →
      Q f { s with heap := h', toks := tk } := by
    intro f fl' h' tk oa' ds1 e1 e2 kk fo S' mv
    subst e1 e2
    refine h f h' tk oa' kk ?_ S'.unguard ((Moved.ext x1).trans mv)
    cases f <;> cases fl' <;> first | exact fo | exact fo.elim | skip
    exact fo.weak fun b p => ⟨p.1.1, p.2⟩
  refine codeAny_forLoop_any (fun n s' => ∃ i h' tk oa' ds1, s' = { s with heap := h', toks := tk } ∧ 0 < tk ∧ i ≤ xs.length ∧ n = xs.length - i ∧ Sti i h' ∧ St t w c h₀ (fun b => Pr b ∧ b ≠ I) L a cd oa' ds1 h' ∧ Moved c L oa ds h1 oa' ds1 h' ∧
    (∀ b ∈ fp, ¬ Priv c L oa' ds1 b ∧ ∃ o, h'.get? b = some o) ∧ forD set gb (xs.drop i) ds1 = some res) ?_ xs.length ⟨0, h2, tk1, oa, ds, rfl, k1, Nat.zero_le _, rfl, st0, S2, Moved.ext x2, fun b hb => ⟨(hfp b hb).1.2, (hfp b hb).2⟩, e3⟩
  rintro n s' ⟨i, h3, tk3, oa3, ds3, rfl, k3, hile, rfl, st3, S3, mv3, hfp3, e4⟩
  rcases Nat.lt_or_ge i xs.length with hi' | hi'
  · have hx : xs[i]? = some (xs[i]'hi') := List.getElem?_eq_getElem hi'
    have hdrop : xs.drop i = xs[i]'hi' :: xs.drop (i + 1) := List.drop_eq_getElem_cons hi'
    rw [hdrop] at e4
    unfold forD at e4
    cases e5 : set (xs[i]'hi') ds3 with
    | none => rw [e5] at e4; cases e4
    | some ds4 =>
    rw [e5] at e4; dsimp only at e4
    cases e6 : gb ds4 with
    | none => rw [e6] at e4; cases e4
    | some r5 =>
    obtain ⟨fl5, ds5⟩ := r5
    rw [e6] at e4
    refine wpAny_with_toks (n := 1) k3 ((W A rm.handled).item i _ _ _ hi' st3 fun v h4 tk4 hP st4 hk4 kk4 => ?_)
    obtain ⟨o4, T4, ho4, hc4, hT4⟩ := hal _ _ st4
    have hk4' : ∀ b o, b ≠ I → h3.get? b = some o → h4.get? b = some o := fun b o hb e => hk4 b o (by simpa using hb) e
    have S4 := S3.but (fun p => p.2 rfl) (hfp3 I hIfp).1 hdead0 hk4' ⟨o4, ho4⟩
    obtain ⟨dx, hdx, rx⟩ := hPi i v hi' hP
    rw [hx] at hdx; cases hdx
    have mv4 : Moved c L oa ds h1 oa3 ds3 h4 := ⟨fun b o hb e => hk4' b o (fun z => by rw [z, hdead] at e; cases e) (mv3.keep b o hb e), mv3.priv⟩
    have rx' : Rep (Pv c (fun b => Pr b ∧ b ≠ I) L oa3 ds3) h4 v (xs[i]'hi') := rx.mono (fun b o p e => mv4.keep b o p.2 e) fun b o e p => ⟨⟨p.1, fun z => by rw [z, hdead] at e; cases e⟩, fun p' => by
      rcases mv4.priv b p' with z | z
      · exact p.2 z
      · rw [z] at e; cases e⟩
    have hfp4 : ∀ b ∈ fp, ¬ Priv c L oa3 ds3 b ∧ ∃ o, h4.get? b = some o := fun b hb => ⟨(hfp3 b hb).1, by
      by_cases z : b = I
      · subst z; exact ⟨o4, ho4⟩
      · obtain ⟨o, ho⟩ := (hfp3 b hb).2; exact ⟨o, hk4' b o z ho⟩⟩
    refine letGo_any (s := { s with heap := h4, toks := tk4 }) ho4 hc4 hT4 ?_
    refine wpAny_mono (hset w A { s with heap := h4, toks := tk4 } h₀ _ L a cd oa3 ds3 ds4 v _ _ rm kk4 S4 rx' e5 fun h5 tk5 kk5 S5 mv5 => ?_) (fun _ _ x => x) (fun _ _ x => x.elim)
    refine wpAny_mono (hb w A { s with heap := h5, toks := tk5 } h₀ _ L a cd oa3 ds4 fl5 ds5 _ rm kk5 S5 e6 fun f h6 tk6 oa6 kk6 fo6 S6 mv6 => ?_) (fun _ _ x => x) (fun _ _ x => x.elim)
    have mv56 := mv5.trans mv6
    have mvAll := mv4.trans mv56
    cases f <;> cases fl5 <;> first | exact fo6.elim | skip
    · refine ⟨xs.length - (i + 1), by omega, i + 1, h6, tk6, oa6, ds5, rfl, kk6, hi', rfl, ?_, S6, mvAll, ?_, e4⟩
      · refine (W A rm.handled).frame _ _ _ st4 fun b hb o e => mv56.keep b o (hfp4 b hb).1 e
      · intro b hb
        obtain ⟨o, ho⟩ := (hfp4 b hb).2
        refine ⟨fun p => ?_, o, mv56.keep b o (hfp4 b hb).1 ho⟩
        rcases mv56.priv b p with z | z
        · exact (hfp4 b hb).1 z
        · rw [ho] at z; cases z
    · cases e4
      cases e
      exact fin .next .next h6 tk6 oa6 _ rfl rfl kk6 trivial S6 mvAll
    · cases e4
      cases e
      exact fin _ _ h6 tk6 oa6 _ rfl rfl kk6 fo6 S6 mvAll
  · have hi2 : i = xs.length := Nat.le_antisymm hile hi'
    subst hi2
    rw [List.drop_length] at e4
    cases e4
    refine wpAny_with_toks (n := 1) k3 ((W A rm.handled).done _ _ _ st3 fun h4 tk4 hk4 kk4 => ?_)
    have hk4' : ∀ b o, b ≠ I → h3.get? b = some o → h4.get? b = some o := fun b o hb e => hk4 b o (by simpa using hb) e
    have S4 := S3.done (hfp3 I hIfp).1 hdead0 (S1.fresh I hdead) hk4'
    have mv4 : Moved c L oa ds h1 oa3 ds3 h4 := ⟨fun b o hb e => hk4' b o (fun z => by rw [z, hdead] at e; cases e) (mv3.keep b o hb e), mv3.priv⟩
    exact wpAny_mono (ho w A { s with heap := h4, toks := tk4 } h₀ Pr L a cd oa3 ds3 fl ds' _ rm kk4 S4 e fun f h5 tk5 oa5 kk5 fo5 S5 mv5 => h f h5 tk5 oa5 kk5 fo5 S5 (((Moved.ext x1).trans mv4).trans mv5)) (fun _ _ x => x) (fun _ _ x => x.elim)
end
end Mine

namespace Mine
open PySem PySem.Calls PyProof.Rows PyProof.V

noncomputable def FnDen (t : Tops) (B : Nat) (name : Str) (g : List D → Option D) : Prop :=
  ∀ (w : World) (A : Around) (s : Shared) (P : Addr → Prop) (f : Addr) (vs : List Value) (xs : List D) (d : D) (Q : Value → Shared → Prop) (N : Nat) (mg mb : Str → Option Value),
    Room B A → 0 < s.toks → TopAt t w N mg mb s.heap → mg name = some (.ref f) → (∀ b, s.heap.get? b = none → P b) → RepL P s.heap vs xs → g xs = some d →
    (∀ v h' tk, 0 < tk → Ext s.heap h' → Rep P h' v d → Q v { s with heap := h', toks := tk }) →
    wpAny (model prog w) A (call (.ref f) vs) Q NoE s

noncomputable abbrev fnD (npar nloc : Nat) (body : List D → Option (Fl × List D)) : List D → Option D := fun xs =>
  if xs.length = npar then match body (xs ++ List.replicate (nloc - npar) .undef) with
    | some (.ret d, _) => some d
    | _ => none
  else none

theorem bindL_get {kindOf : Str → Option NameKind} : ∀ (binds : List (Str × Value)) (m : Str → Option Value) (x : Str) (v : Value), (binds.map (·.1)).Nodup → kindOf x = some .local → ((x, v) ∈ binds ∨ (x ∉ binds.map (·.1) ∧ m x = some v)) → bindL kindOf binds m x = some v
  | [], m, x, v, _, _, h => by rcases h with h | h; cases h; exact h.2
  | (n, u) :: r, m, x, v, nd, hk, h => by
    unfold bindL
    simp only [List.map_cons, List.nodup_cons] at nd
    refine bindL_get r _ x v nd.2 hk ?_
    rcases h with h | ⟨h1, h2⟩
    · rcases List.mem_cons.mp h with e | h
      · cases e
        refine .inr ⟨nd.1, ?_⟩
        rw [if_pos hk]; simp
      · exact .inl h
    · simp only [List.map_cons, List.mem_cons, not_or] at h1
      refine .inr ⟨h1.2, ?_⟩
      by_cases hn : kindOf n = some .local
      · rw [if_pos hn]; simp [h1.1, h2]
      · rw [if_neg hn]; exact h2
theorem bindC_get {kindOf : Str → Option NameKind} : ∀ (binds : List (Str × Value)) (m : Str → Option Value) (x : Str) (v : Value), (binds.map (·.1)).Nodup → kindOf x ≠ some .local → ((x, v) ∈ binds ∨ (x ∉ binds.map (·.1) ∧ m x = some v)) → bindC kindOf binds m x = some v
  | [], m, x, v, _, _, h => by rcases h with h | h; cases h; exact h.2
  | (n, u) :: r, m, x, v, nd, hk, h => by
    unfold bindC
    simp only [List.map_cons, List.nodup_cons] at nd
    refine bindC_get r _ x v nd.2 hk ?_
    rcases h with h | ⟨h1, h2⟩
    · rcases List.mem_cons.mp h with e | h
      · cases e
        refine .inr ⟨nd.1, ?_⟩
        rw [if_neg hk]; simp
      · exact .inl h
    · simp only [List.map_cons, List.mem_cons, not_or] at h1
      refine .inr ⟨h1.2, ?_⟩
      by_cases hn : kindOf n = some .local
      · rw [if_pos hn]; exact h2
      · rw [if_neg hn]; simp [h1.1, h2]

theorem zip_get {α β : Type} : ∀ (ps : List α) (vs : List β) (k : Nat) (p : α) (v : β), ps[k]? = some p → vs[k]? = some v → (p, v) ∈ ps.zip vs
  | p :: ps, v :: vs, 0, _, _, h1, h2 => by simp at h1 h2; subst h1 h2; simp
  | p :: ps, v :: vs, k + 1, _, _, h1, h2 => by simp at h1 h2; exact List.mem_cons_of_mem _ (zip_get ps vs k _ _ h1 h2)
  | [], _, _, _, _, h1, _ => by simp at h1
  | _ :: _, [], _, _, _, _, h2 => by simp at h2
theorem zip_fst {α β : Type} : ∀ (ps : List α) (vs : List β), ps.length = vs.length → (ps.zip vs).map (·.1) = ps
  | [], [], _ => rfl
  | p :: ps, v :: vs, h => by simp [zip_fst ps vs (by simpa using h)]
  | [], _ :: _, h => by cases h
  | _ :: _, [], h => by cases h

/-- the call of a def, its names told apart, with the tokens' count -/
theorem call_frame {w : World} {A : Around} {R : Result → Shared → Prop} {s : Shared} {name : Str} {params : Arguments} {body : List Stmt} {scope : Scope}
    {pm cd doc : Value} {a : Addr} {o : Obj} {args : List Value} {binds : List (Str × Value)} (htk : 0 < s.toks)
    (hroom : A.depth < recursionLimit) (ho : s.heap.get? a = some o) (hdata : o.data = .func (docDef name params body scope pm cd doc)) (hlim : s.heap.NoLimit) (hcd : s.heap.CodeRec cd name)
    (hbind : bindArgs (docDef name params body scope pm cd doc) ⟨args, []⟩ = pure binds)
    (hkind : ∀ x ∈ binds, scope.names.lookup x.1 = some .local ∨ (scope.names.lookup x.1 = some .cell ∧ ((cellsFrom (s.heap.objs.size + 1) scope.names []).lookup x.1).isSome = true))
    (h : ∀ h₁ tk, 0 < tk → Fr s.heap s.heap.objs.size h₁ (bindL (envOfC name scope s.heap.objs.size a cd).kindOf binds fun _ => none) →
      Cl s.heap.objs.size (cellsFrom (s.heap.objs.size + 1) scope.names []) h₁ (bindC (envOfC name scope s.heap.objs.size a cd).kindOf binds fun _ => none) →
      wpAny (model prog w) (A.deeper (envOfC name scope s.heap.objs.size a cd)) (execs body (envOfC name scope s.heap.objs.size a cd))
        (fun f s' => R (.ok (.ret (match f with | .ret v => v | _ => .none))) s') (fun _ _ => False) { s with heap := h₁, toks := tk })
    (hco : scope.isCoroutine = false) (hgen : scope.isGenerator = false) (hk : scope.kind = .function) :
    codeAny (model prog w) A (.call (.ref a) ⟨args, []⟩) R s := by
  refine codeAny_call_function hroom ho hdata hco hgen rfl hcd ?_
  rw [hbind]
  refine wpAny_pure (wpAny_with_toks htk (wpAny_newFunctionEnv_cells hk hkind fun env he s' x k => ?_))
  subst he
  obtain ⟨h₁, tk, rfl, _⟩ := x.done
  exact ⟨hlim.keeps x.toInCall.keep, codeAny_func (wpAny_mono (h h₁ tk k ⟨x.toInCall.ns, x.toInCall.keep, x.toInCall.fresh⟩ ⟨x.cell, x.apart, x.above⟩) (fun _ _ x => x) (fun _ _ x => x.elim))⟩

theorem fn_of {t : Tops} {B : Nat} {c : FC} {params : Arguments} {body : List Stmt} {pos : Pos} {ps rest : List Str} {g : List D → Option (Fl × List D)} (ok : c.Ok) (hlocs : c.locs = ps ++ rest)
    (hd : (⟨c.name, params, body, c.scope, pos⟩ : DefItem) ∈ t.defs) (hdf : params.defaults = [])
    (hbind : ∀ (pm cd doc : Value) (vs : List Value), vs.length = ps.length → bindArgs (docDef c.name params body c.scope pm cd doc) ⟨vs, []⟩ = pure (ps.zip vs))
    (hco : c.scope.isCoroutine = false) (hgen : c.scope.isGenerator = false)
    (hb : DenS t (B + 1) c body g) (hB : B < 1000 := by decide) : FnDen t B c.name (fnD ps.length c.locs.length g) := by
  intro w A s P f vs xs d Q N mg mb rm htk T hf fr r e h
  unfold fnD at e
  split at e
  · rename_i hlen
    obtain ⟨f', c', o, pm, doc, _, _, hf', ho, hdat, hcd⟩ := (T.G.made _ hd).plain hdf
    have hff : f' = f := by
      have := hf'.symm.trans hf
      injection this with this; injection this
    subst hff
    have hvl : vs.length = ps.length := r.length.trans hlen
    have hbd := hbind pm (.ref c') doc vs hvl
    have nd : ps.Nodup := by
      have := ok.nodup
      rw [hlocs] at this
      exact (List.nodup_append.mp this).1
    have hfst : (ps.zip vs).map (·.1) = ps := zip_fst ps vs hvl.symm
    cases e1 : g (xs ++ List.replicate (c.locs.length - ps.length) .undef) with
    | none => rw [e1] at e; cases e
    | some res =>
    obtain ⟨fl, ds'⟩ := res
    rw [e1] at e
    cases fl <;> simp only [reduceCtorEq] at e
    rename_i d'
    cases e
    have hroom : A.depth < recursionLimit := Nat.lt_of_le_of_lt rm.depth hB
    refine wpAny_call (call_frame htk hroom ho hdat T.G.nolimit hcd hbd ?_ (fun h₁ tk ktk F X => ?_) hco hgen ok.kind)
    · intro x hx
      have hxp : x.1 ∈ c.locs := by
        rw [hlocs]
        have : x.1 ∈ (ps.zip vs).map (·.1) := List.mem_map.mpr ⟨x, hx, rfl⟩
        rw [hfst] at this
        exact List.mem_append_left _ this
      rcases ok.kinds x.1 hxp with z | ⟨z, q⟩
      · exact .inl z
      · obtain ⟨q, hq⟩ := q s.heap.objs.size
        refine .inr ⟨z, ?_⟩
        have hq' : (cellsFrom (s.heap.objs.size + 1) c.scope.names []).lookup x.1 = some q := hq
        rw [hq']; rfl
    · have hcel : ∀ n q, (c.cells s.heap.objs.size).lookup n = some q → s.heap.objs.size < q := fun n q hq => X.above n q (mem_of_lookup hq)
      have hdead : ∀ b, s.heap.objs.size ≤ b → s.heap.get? b = none := by
        intro b hb
        cases hz : s.heap.get? b with
        | none => rfl
        | some o' => exact absurd (Heap.lt_size hz) (Nat.not_lt.mpr hb)
      have hnoown : ∀ (k : Nat) (ys : List D), (xs ++ List.replicate (c.locs.length - ps.length) D.undef)[k]? ≠ some (D.own ys) := by
        intro k ys hk
        rw [List.getElem?_append] at hk
        split at hk
        · obtain ⟨v, _, rv⟩ := r.get k _ hk
          exact absurd rv.notOwn (by simp [D.plain])
        · rw [List.getElem?_replicate] at hk
          split at hk <;> cases hk
      have hpd : ∀ b, Priv c s.heap.objs.size (fun _ => 0) (xs ++ List.replicate (c.locs.length - ps.length) .undef) b → s.heap.get? b = none := by
        intro b p
        rcases p with rfl | ⟨n, hq⟩ | ⟨k, ys, hk, _⟩
        · exact dead_size _
        · exact hdead b (Nat.le_of_lt (hcel n b hq))
        · exact absurd hk (hnoown k ys)
      have hplen : ps.length ≤ c.locs.length := by rw [hlocs, List.length_append]; omega
      have S : St t w c s.heap P s.heap.objs.size f' (.ref c') (fun _ => 0) (xs ++ List.replicate (c.locs.length - ps.length) .undef) h₁ := by
        refine ⟨F.keep, ⟨N, mg, mb, T⟩, hpd, ?_, ⟨_, F.ns⟩, ⟨_, X⟩, fun b e => fr b (Ext.dead F.keep e), ?_, fun k k' ys ys' hk => absurd hk (hnoown k ys), ?_, fun k ys hk => absurd hk (hnoown k ys)⟩
        · intro b p
          rcases p with rfl | ⟨n, hq⟩ | ⟨k, ys, hk, _⟩
          · obtain ⟨o', es, ep, ho', _⟩ := F.ns; exact ⟨o', ho'⟩
          · obtain ⟨o', ho', _⟩ := X.cell n b hq; exact ⟨o', ho'⟩
          · exact absurd hk (hnoown k ys)
        · intro k x d1 h1 h2
          rw [List.getElem?_append] at h2
          split at h2
          · rename_i hlt
            obtain ⟨v, hv, rv⟩ := r.get k _ h2
            have hps : ps[k]? = some x := by
              rw [hlocs, List.getElem?_append_left (by omega)] at h1
              exact h1
            have hmem := zip_get ps vs k x v hps hv
            have hxl : x ∈ c.locs := List.mem_of_getElem? h1
            have rv' : Rep (Pv c P s.heap.objs.size (fun _ => 0) (xs ++ List.replicate (c.locs.length - ps.length) .undef)) h₁ v d1 :=
              rv.mono (fun b o' _ e => F.keep b o' e) fun b o' e p => ⟨p, fun p' => by rw [hpd b p'] at e; cases e⟩
            have ndz : ((ps.zip vs).map (·.1)).Nodup := by rw [hfst]; exact nd
            rcases ok.kinds x hxl with z | ⟨z, q⟩
            · exact VarOk.of_plain (.inl ⟨z, _, F.ns, bindL_get _ _ x v ndz z (.inl hmem)⟩) rv'
            · obtain ⟨q, hq⟩ := q s.heap.objs.size
              refine VarOk.of_plain (.inr ⟨.inl z, q, hq, ?_⟩) rv'
              have := X.cell x q hq
              have e2 := bindC_get (kindOf := (envOfC c.name c.scope s.heap.objs.size f' (.ref c')).kindOf) (ps.zip vs) (fun _ => none) x v ndz (by
                show c.scope.names.lookup x ≠ some .local
                rw [z]; decide) (.inl hmem)
              rw [e2] at this
              exact this
          · rw [List.getElem?_replicate] at h2
            split at h2
            · cases h2; trivial
            · cases h2
        · rw [List.length_append, List.length_replicate]; omega
      refine wpAny_mono (hb w _ { s with heap := h₁, toks := tk } s.heap P s.heap.objs.size f' (.ref c') _ _ (.ret d) ds' _ rm.deeper ktk S e1 fun fl' h' tk' oa' k' fo S' mv => ?_) (fun _ _ x => x) (fun _ _ x => x)
      cases fl' <;> first | exact fo.elim | skip
      exact h _ h' tk' k' S'.keep (fo.weak fun b p => p.1)
  · cases e
end Mine

namespace Mine
open PySem PySem.Calls PyProof.Rows PyProof.V

section
variable {t : Tops} {B B' : Nat} {vars : List Str} {gls : Sc}
theorem FnDen.mono {name : Str} {g : List D → Option D} (h : FnDen t B' name g) (hB : B ≤ B') : FnDen t B name g :=
  fun w A s P f vs xs d Q N mg mb rm => h w A s P f vs xs d Q N mg mb (rm.mono hB)
theorem den_fn {x : Str} {npos pos : Pos} {e : Expr} {rest : List Expr} {g : List D → Option D} {f : List D → Option (List D)} {params : Arguments} {body : List Stmt} {scope : Scope} {dpos : Pos} (hx : x ∈ gls.gl)
    (hd : (⟨x, params, body, scope, dpos⟩ : DefItem) ∈ t.defs) (hdf : params.defaults = []) (hf : FnDen t B' x g) (ha : DenL t B vars gls (e :: rest) f) (hB : B ≤ B' := by decide) (hdb : (x == ("__debug__" : Str)) = false := by decide +kernel)
    (he : ∀ env, starEach (e :: rest) env = (false, eval e env) :: starEach rest env := by intro _; rfl) : DenE t B vars gls (.Call (.Name x npos) (e :: rest) [] pos) (eCall g f) := by
  intro w A s env P ds d Q rm htk c ee h
  obtain ⟨xs, e1, e2⟩ := eCall_inv ee
  obtain ⟨N, mg, mb, T⟩ := c.top
  obtain ⟨f', c', o, pm, doc, _, _, hf', ho, hdat, hcd⟩ := (T.G.made _ hd).plain hdf
  refine Call_ (eval_global c T hx hf' hdb ?_)
  refine callWith_def hdat (ha w A s env P pos ds xs _ rm htk c e1 fun vs h' tk k xv rv => ⟨xv _ _ ho, ?_⟩) (he env)
  exact hf w A { s with heap := h', toks := tk } P f' vs xs d Q N mg mb (rm.mono hB) k (T.keeps xv) hf' (fun b hb => c.fresh b (xv.dead hb)) rv e2 fun v h'' tk' k' xv' rv' => h v h'' tk' k' (xv.trans xv') rv'
end

theorem extBut_ext {h h' : Heap} (x : Heap.ExtBut h.objs.size h h') : Ext h h' := fun b o e => x b o (Nat.ne_of_lt (Heap.lt_size e)) e

theorem unpack_list2 {w : World} {A : Around} {E : Value → Shared → Prop} {s : Shared} {l : Addr} {a b : Value} {Q : List Value → Shared → Prop} (hh : A.handled = none) (hl : s.heap.IsList l #[a, b])
    (hQ : ∀ h', Ext s.heap h' → Q [a, b] { s with heap := h' }) : wpAny (model prog w) A (unpackItems (.ref l) 2 none) Q E s := by
  have hlt : l ≠ s.heap.objs.size := by obtain ⟨o, ho, _⟩ := hl; exact Nat.ne_of_lt (Heap.lt_size ho)
  unfold unpackItems
  refine wpAny_bind ?_
  unfold notIterableAtAll
  refine wpAny_bind (wpAny_specialOf hl.typeIs slot_list_iter.lookup ?_)
  refine wpAny_pure ?_
  simp only [Bool.false_eq_true, if_false]
  refine wpAny_bind (wpAny_holding (wpAny_pyIter_list hl ?_))
  refine wpAny_bind (wpAny_holding ?_)
  show wpAny _ _ (pyNext (.ref s.heap.objs.size) >>= _) _ E _
  refine wpAny_bind (wpAny_pyNext_list_item (i := 0) (x := a) ⟨_, Heap.get?_push_size _ rfl, rfl, rfl⟩ (hl.push _) rfl fun h1 it1 s1 => ?_)
  refine wpAny_bind (wpAny_holding ?_)
  show wpAny _ _ (pyNext (.ref s.heap.objs.size) >>= _) _ E _
  have hl1 : h1.IsList l #[a, b] := (hl.push _).extBut s1.extBut hlt
  refine wpAny_bind (wpAny_pyNext_list_item (i := 1) (x := b) it1 hl1 rfl fun h2 it2 s2 => ?_)
  refine wpAny_bind (wpAny_holding ?_)
  refine wpAny_pure (wpAny_pure (wpAny_pure ?_))
  have hl2 : h2.IsList l #[a, b] := hl1.extBut s2.extBut hlt
  rw [if_neg (by simp)]
  refine wpAny_bind (wpAny_holding (wpAny_pyNext_list_end hh it2 hl2 (by simp) fun h3 he3 => ?_))
  simp only [Option.isSome_none, Bool.false_eq_true, if_false]
  exact wpAny_pure (hQ h3 fun q o e => he3 q o (Nat.ne_of_lt (Heap.lt_size e)) (s2.extBut q o (Nat.ne_of_lt (Heap.lt_size e)) (s1.extBut q o (Nat.ne_of_lt (Heap.lt_size e)) (Heap.get?_push_of_some _ e))))

section
variable {t : Tops} {B : Nat} {c : FC}
noncomputable abbrev setPair (k1 k2 : Nat) : D → List D → Option (List D) := fun x ds => match x with
  | .list [a, b] => some ((ds.set k1 a).set k2 b)
  | .tup [a, b] => some ((ds.set k1 a).set k2 b)
  | _ => none
theorem asg_two {w : World} {A : Around} {s : Shared} {x y : Str} {p1 p2 : Pos} {h₀ : Heap} {Pr : Addr → Prop} {L a : Addr} {cd : Value} {oa : Nat → Addr} {ds : List D} {va vb : Value} {da db : D} {Q : Unit → Shared → Prop} (ok : c.Ok) (k1 k2 : Nat) (h1 : c.locs[k1]? = some x) (h2 : c.locs[k2]? = some y) (htk : 0 < s.toks)
    (S : St t w c h₀ Pr L a cd oa ds s.heap) (ra : Rep (Pv c Pr L oa ds) s.heap va da) (rb : Rep (Pv c Pr L oa ds) s.heap vb db)
    (h : ∀ h' tk, 0 < tk → St t w c h₀ Pr L a cd oa ((ds.set k1 da).set k2 db) h' → Moved c L oa ds s.heap oa ((ds.set k1 da).set k2 db) h' → Q () { s with heap := h', toks := tk }) :
    wpAny (model prog w) A (assignInOrder ((assignEach [.Name x p1, .Name y p2] (c.env L a cd)).map (·.2)) [va, vb]) Q NoE s := by
  show wpAny _ _ (do holding [vb] (assign (.Name x p1) (c.env L a cd) va); assignInOrder [assign (.Name y p2) (c.env L a cd)] [vb]) Q NoE s
  refine wpAny_bind (wpAny_holding ?_)
  rw [PySem.assign_Name]
  refine wpAny_bind (wpAny_standAt (wpAny_bindName (S.store ok htk h1 ra fun h' tk kk S' kb => ?_)))
  show wpAny _ _ (do holding [] (assign (.Name y p2) (c.env L a cd) vb); assignInOrder [] []) Q NoE _
  refine wpAny_bind (wpAny_holding ?_)
  rw [PySem.assign_Name]
  have hsub : ∀ b, Pv c Pr L oa ds b → Pv c Pr L oa (ds.set k1 da) b := fun b p => ⟨p.1, fun p' => p.2 (priv_set ra.notOwn p')⟩
  have rb' : Rep (Pv c Pr L oa (ds.set k1 da)) h' vb db := rb.mono (fun b o p e => kb b o p.2 e) fun b o _ p => hsub b p
  refine wpAny_bind (wpAny_standAt (wpAny_bindName (S'.store (s := { s with heap := h', toks := tk }) ok kk h2 rb' fun h'' tk' kk' S'' kb' => wpAny_pure ?_)))
  refine h h'' tk' kk' S'' (Moved.trans ⟨kb, fun b p => .inl (priv_set ra.notOwn p)⟩ ⟨kb', fun b p => .inl (priv_set rb'.notOwn p)⟩)
theorem asg_pair {x y : Str} {p1 p2 pt : Pos} {kk : Nat} (ok : c.Ok) (k1 k2 : Nat) (h1 : c.locs[k1]? = some x) (h2 : c.locs[k2]? = some y) : AsgOk t B c (.Tuple [.Name x p1, .Name y p2] kk pt) (setPair k1 k2) := by
  intro w A s h₀ Pr L a cd oa ds ds' v d Q rm htk S R e h
  unfold setPair at e
  split at e
  · rename_i d1 d2
    cases e
    cases R with | list p hl r =>
    rename_i l vs n
    obtain ⟨vl⟩ := vs
    cases r with | cons ra r =>
    cases r with | cons rb r =>
    cases r
    rename_i va vb
    show wpAny (model prog w) A (do standAt pt; unpack (.ref l) (assignEach [.Name x p1, .Name y p2] (c.env L a cd))) Q NoE s
    refine wpAny_bind (wpAny_standAt ?_)
    refine wpAny_bind (wpAny_holding (unpack_list2 rm.handled (IsList_of hl) fun h' xv => ?_))
    exact asg_two (s := { s with heap := h' }) ok k1 k2 h1 h2 htk (S.ext xv) (ra.ext xv) (rb.ext xv) fun h'' tk kk S' mv => h h'' tk kk S' ((Moved.ext xv).trans mv)
  · rename_i d1 d2
    cases e
    cases R with | tup p hl r =>
    rename_i l vs n
    obtain ⟨vl⟩ := vs
    cases r with | cons ra r =>
    cases r with | cons rb r =>
    cases r
    rename_i va vb
    refine wpAny_assign_Tuple rm.handled (IsTuple_of hl) rfl rfl fun h' he => ?_
    have xv := extBut_ext he
    exact asg_two (s := { s with heap := h' }) ok k1 k2 h1 h2 htk (S.ext xv) (ra.ext xv) (rb.ext xv) fun h'' tk kk S' mv => h h'' tk kk S' ((Moved.ext xv).trans mv)
  · cases e
end
end Mine

namespace Mine
open PySem PySem.Calls PyProof.Rows PyProof.V

/-! list comprehensions -/
structure Slot (cenv : Env) (C K : Addr) (x : Str) : Prop where
  kind : cenv.scope.kind = .function
  loc : cenv.locals = C
  how : (K = C ∧ cenv.kindOf x = some .local) ∨ (K ≠ C ∧ cenv.kindOf x = some .cell ∧ cenv.cells.lookup x = some K)
noncomputable def Good (C K : Addr) (h : Heap) : Prop := (∃ m, h.Ns C m) ∧ (K = C ∨ ∃ v, h.IsCell K v)
theorem Good.keep {C K : Addr} {h h' : Heap} (g : Good C K h) (h1 : ∀ o, h.get? C = some o → h'.get? C = some o) (h2 : ∀ o, h.get? K = some o → h'.get? K = some o) : Good C K h' := by
  obtain ⟨⟨m, o, es, ep, ho, r⟩, g2⟩ := g
  refine ⟨⟨m, o, es, ep, h1 _ ho, r⟩, ?_⟩
  rcases g2 with z | ⟨v, o', ho', r'⟩
  · exact .inl z
  · exact .inr ⟨v, o', h2 _ ho', r'⟩
theorem Good.live {C K : Addr} {h : Heap} (g : Good C K h) : (∃ o, h.get? C = some o) ∧ ∃ o, h.get? K = some o := by
  obtain ⟨⟨m, o, es, ep, ho, r⟩, g2⟩ := g
  rcases g2 with z | ⟨v, o', ho', r'⟩
  · exact ⟨⟨o, ho⟩, z ▸ ⟨o, ho⟩⟩
  · exact ⟨⟨o, ho⟩, ⟨o', ho'⟩⟩
theorem Slot.store {w : World} {A : Around} {E : Value → Shared → Prop} {s : Shared} {cenv : Env} {C K : Addr} {x : Str} {px : Pos} {v : Value} {Q : Unit → Shared → Prop} (S : Slot cenv C K x) (g : Good C K s.heap) (htk : 0 < s.toks)
    (h : ∀ h' tk, 0 < tk → Heap.SameBut K s.heap h' → Good C K h' → Rd cenv h' x v → Q () { s with heap := h', toks := tk }) : wpAny (model prog w) A (assign (.Name x px) cenv v) Q E s := by
  obtain ⟨⟨m, hm⟩, g2⟩ := g
  refine wpAny_assign_Name ?_
  rcases S.how with ⟨e, hl⟩ | ⟨ne, hl, hc⟩
  · subst e
    have hm' : s.heap.Ns cenv.locals m := S.loc ▸ hm
    refine wpAny_storeName_local hl hm' (fun h' hn hs => h h' _ (Nat.succ_pos _) (S.loc ▸ hs) ⟨⟨_, S.loc ▸ hn⟩, .inl rfl⟩ (.inl ⟨hl, _, hn, by simp⟩)) (by rw [S.kind]; rfl)
  · rcases g2 with z | ⟨v0, hv0⟩
    · exact absurd z ne
    · refine wpAny_storeName_cell S.kind hl hc hv0 fun h' hc' hs => ?_
      exact h h' s.toks htk hs ⟨⟨m, let ⟨o, es, ep, ho, r⟩ := hm; ⟨o, es, ep, (hs.2 C (Ne.symm ne)).trans ho, r⟩⟩, .inr ⟨_, hc'⟩⟩ (.inr ⟨.inl hl, K, hc, hc'⟩)

/-- the tests of a comprehension -/
noncomputable def DenI (t : Tops) (B : Nat) (vars : List Str) (gls : Sc) (ifs : List Expr) (f : List D → Option Bool) : Prop :=
  ∀ (w : World) (A : Around) (s : Shared) (env : Env) (P : Addr → Prop) (ds : List D) (b : Bool) (Q : Bool → Shared → Prop),
    Room B A → 0 < s.toks → Ctx t w vars gls env P ds s.heap → f ds = some b →
    (∀ h' tk, 0 < tk → Ext s.heap h' → Q b { s with heap := h', toks := tk }) →
    wpAny (model prog w) A (forIn ifs true fun c r => if r = true then do let ok ← isTrue c env (eval c env); pure (ForInStep.yield ok) else pure (ForInStep.yield r)) Q NoE s
section
variable {t : Tops} {B : Nat} {vars : List Str} {gls : Sc}
theorem den_inone : DenI t B vars gls [] (fun _ => some true) := by
  intro w A s env P ds b Q rm htk c e h
  cases e
  exact wpAny_tests_nil (h s.heap s.toks htk (Ext.refl _))
theorem den_ione {c : Expr} {f : List D → Option Bool} (hc : DenT t B vars gls c f) : DenI t B vars gls [c] f := by
  intro w A s env P ds b Q rm htk cx e h
  exact wpAny_tests_one (hc w A s env P ds b Q rm htk cx e h)
end

noncomputable def compD (cap : List D) (ft : List D → Option Bool) (fe : List D → Option D) : List D → Option (List D)
  | [] => some []
  | x :: xs => match ft (x :: cap) with
    | none => none
    | some false => compD cap ft fe xs
    | some true => match fe (x :: cap) with
      | none => none
      | some y => match compD cap ft fe xs with
        | none => none
        | some ys => some (y :: ys)

section
variable {t : Tops} {B : Nat} {names : List Str} {g : Sc}
theorem comp_loop {w : World} {A : Around} {s : Shared} {elt iter : Expr} {x : Str} {px : Pos} {ifs : List Expr} {scope : Scope} {pos : Pos} {I D' C K : Addr} {cenv : Env} {P : Addr → Prop} {h1 h2 : Heap} {cap xs res : List D}
    {ft : List D → Option Bool} {fe : List D → Option D} {R : Result → Shared → Prop} (rm : Room B A) (htk : 0 < s.toks) (it : It w P xs h1 h2 I) (x12 : Ext h1 h2) (xb : Ext h2 s.heap)
    (dD : h2.get? D' = none) (dC : h2.get? C = none) (dK : h2.get? K = none) (hDC : D' ≠ C) (hDK : D' ≠ K) (hacc : s.heap.get? D' = some (LObj #[] 0)) (gd : Good C K s.heap) (sl : Slot cenv C K x)
    (fr : ∀ b, h1.get? b = none → P b)
    (hctx : ∀ h' v d, Ext h1 h' → (∀ b, h'.get? b = none → P b ∧ b ≠ I ∧ b ≠ D' ∧ b ≠ C ∧ b ≠ K) → Rd cenv h' x v → Rep (fun b => P b ∧ b ≠ I ∧ b ≠ D' ∧ b ≠ C ∧ b ≠ K) h' v d → Ctx t w (x :: names) g cenv (fun b => P b ∧ b ≠ I ∧ b ≠ D' ∧ b ≠ C ∧ b ≠ K) (d :: cap) h')
    (hi : DenI t B (x :: names) g ifs ft) (he : DenE t B (x :: names) g elt fe) (e : compD cap ft fe xs = some res) (hxs : xs.length ≤ 65536)
    (hR : ∀ h' tk, 0 < tk → (∃ m, h'.Ns C m) → Ext h1 h' → Rep (fun b => P b ∧ b ≠ C) h' (.ref D') (.list res) → R (.ok .next) { s with heap := h', toks := tk }) :
    codeAny (model prog w) A (.compLoop (.ListComp elt [⟨.Name x px, iter, ifs, 0⟩] scope pos) 0 (.ref I) (.ref D') cenv) R s := by
  obtain ⟨⟨fp, Pi, Sti, W, st0, hfp, hPi, hIfp, hal⟩, hdead, hlive⟩ := it
  have ne_of : ∀ {b q : Addr}, (∃ o, h2.get? b = some o) → h2.get? q = none → b ≠ q := by
    rintro b q ⟨o, ho⟩ hq rfl
    rw [hq] at ho; cases ho
  have hID : D' ≠ I := fun z => ne_of hlive dD z.symm
  have hIC : C ≠ I := fun z => ne_of hlive dC z.symm
  have hIK : K ≠ I := fun z => ne_of hlive dK z.symm
  have ne1 : ∀ {b : Addr} {o : Obj}, h1.get? b = some o → b ≠ I ∧ b ≠ D' ∧ b ≠ C ∧ b ≠ K := fun {b o} e =>
    ⟨(fun z => by rw [z, hdead] at e; cases e), ne_of ⟨o, x12 _ _ e⟩ dD, ne_of ⟨o, x12 _ _ e⟩ dC, ne_of ⟨o, x12 _ _ e⟩ dK⟩
  refine codeAny_compLoop_tests (fun n s' => ∃ i h' tk ys nn done rest, s' = { s with heap := h', toks := tk } ∧ 0 < tk ∧ i ≤ xs.length ∧ n = xs.length - i ∧ Sti i h' ∧ Good C K h' ∧ h'.get? D' = some (LObj ys nn) ∧
    RepL (fun b => P b ∧ b ≠ I ∧ b ≠ D' ∧ b ≠ C ∧ b ≠ K) h' ys.toList done ∧ done.length ≤ i ∧ compD cap ft fe (xs.drop i) = some rest ∧ done ++ rest = res ∧ (∀ b o, b ≠ I → b ≠ D' → b ≠ K → s.heap.get? b = some o → h'.get? b = some o) ∧ (∃ o, h'.get? I = some o)) ?_ xs.length
    ⟨0, s.heap, s.toks, #[], 0, [], res, rfl, htk, Nat.zero_le _, rfl, (W A rm.handled).frame _ _ _ st0 fun b _ o e => xb b o e, gd, hacc, .nil, Nat.le_refl _, e, rfl, fun b o _ _ _ e => e, let ⟨o, ho⟩ := hlive; ⟨o, xb _ _ ho⟩⟩ ?_
  · rintro n s' ⟨i, h3, tk3, ys, nn, done, rest, rfl, k3, hile, rfl, st3, g3, ha3, r3, hdl, e3, e4, kp3, hI3⟩
    rcases Nat.lt_or_ge i xs.length with hi' | hi'
    · have hx : xs[i]? = some (xs[i]'hi') := List.getElem?_eq_getElem hi'
      have hdrop : xs.drop i = xs[i]'hi' :: xs.drop (i + 1) := List.drop_eq_getElem_cons hi'
      rw [hdrop] at e3
      unfold compD at e3
      refine wpAny_with_toks (n := 1) k3 ((W A rm.handled).item i _ _ _ hi' st3 fun v h4 tk4 hP st4 hk4 kk4 => ?_)
      have hk4' : ∀ b o, b ≠ I → h3.get? b = some o → h4.get? b = some o := fun b o hb e => hk4 b o (by simpa using hb) e
      obtain ⟨o4, T4, ho4, hc4, hT4⟩ := hal _ _ st4
      obtain ⟨dx, hdx, rx⟩ := hPi i v hi' hP
      rw [hx] at hdx; cases hdx
      have g4 : Good C K h4 := g3.keep (fun o e => hk4' C o hIC e) (fun o e => hk4' K o hIK e)
      dsimp only
      refine sl.store (s := { s with heap := h4, toks := tk4 }) g4 kk4 fun h5 tk5 kk5 sb5 g5 rd5 => ?_
      dsimp only at sb5
      have st5 : Sti (i + 1) h5 := (W A rm.handled).frame _ _ _ st4 fun b hb o e => (sb5.2 b (ne_of (hfp b hb).2 dK)).trans e
      have kp5 : ∀ b o, b ≠ I → b ≠ K → h3.get? b = some o → h5.get? b = some o := fun b o n1 n2 e => (sb5.2 b n2).trans (hk4' b o n1 e)
      have hI5 : ∃ o, h5.get? I = some o := ⟨o4, (sb5.2 I (Ne.symm hIK)).trans ho4⟩
      have x15 : Ext h1 h5 := fun b o e => by
        obtain ⟨n1, n2, n3, n4⟩ := ne1 e
        exact kp5 b o n1 n4 (kp3 b o n1 n2 n4 (xb _ _ (x12 _ _ e)))
      have ha5 : h5.get? D' = some (LObj ys nn) := kp5 _ _ hID hDK ha3
      have fr5 : ∀ b, h5.get? b = none → P b ∧ b ≠ I ∧ b ≠ D' ∧ b ≠ C ∧ b ≠ K := fun b e => by
        refine ⟨fr b (x15.dead e), ?_, ?_, ?_, ?_⟩ <;> rintro rfl
        · obtain ⟨o, ho⟩ := hI5; rw [ho] at e; cases e
        · rw [ha5] at e; cases e
        · obtain ⟨o, ho⟩ := g5.live.1; rw [ho] at e; cases e
        · obtain ⟨o, ho⟩ := g5.live.2; rw [ho] at e; cases e
      have rx5 : Rep (fun b => P b ∧ b ≠ I ∧ b ≠ D' ∧ b ≠ C ∧ b ≠ K) h5 v (xs[i]'hi') := rx.mono (fun b o _ e => x15 b o e) fun b o e p => ⟨p, ne1 e⟩
      have r5 : RepL (fun b => P b ∧ b ≠ I ∧ b ≠ D' ∧ b ≠ C ∧ b ≠ K) h5 ys.toList done := r3.mono (fun b o p e => kp5 b o p.2.1 p.2.2.2.2 e) fun _ _ _ p => p
      have cx5 := hctx h5 v _ x15 fr5 rd5 rx5
      cases e5 : ft (xs[i]'hi' :: cap) with
      | none => rw [e5] at e3; cases e3
      | some b =>
      rw [e5] at e3
      refine wpAny_mono (hi w A { s with heap := h5, toks := tk5 } cenv _ _ b _ rm kk5 cx5 e5 fun h6 tk6 kk6 x6 => ?_) (fun _ _ x => x) (fun _ _ x => x.elim)
      dsimp only at x6
      have st6 : Sti (i + 1) h6 := (W A rm.handled).frame _ _ _ st5 fun b _ o e => x6 b o e
      cases b with
      | false =>
        dsimp only at e3 ⊢
        rw [if_neg (by decide)]
        refine ⟨xs.length - (i + 1), by omega, i + 1, h6, tk6, ys, nn, done, rest, rfl, kk6, hi', rfl, st6, g5.keep (fun o e => x6 _ o e) (fun o e => x6 _ o e), x6 _ _ ha5, r5.ext x6, by omega, e3, e4, ?_, ?_⟩
        · intro b o n1 n2 n3 e
          exact x6 b o (kp5 b o n1 n3 (kp3 b o n1 n2 n3 e))
        · obtain ⟨o, ho⟩ := hI5; exact ⟨o, x6 _ _ ho⟩
      | true =>
        dsimp only at e3 ⊢
        rw [if_pos rfl]
        cases e6 : fe (xs[i]'hi' :: cap) with
        | none => rw [e6] at e3; cases e3
        | some y =>
        rw [e6] at e3; dsimp only at e3
        cases e7 : compD cap ft fe (xs.drop (i + 1)) with
        | none => rw [e7] at e3; cases e3
        | some rest' =>
        rw [e7] at e3; cases e3
        refine wpAny_mono (he w A { s with heap := h6, toks := tk6 } cenv _ _ y _ rm kk6 (cx5.ext x6) e6 fun yv h7 tk7 kk7 x7 ry => ?_) (fun _ _ x => x) (fun _ _ x => x.elim)
        dsimp only at x7
        have x57 : Ext h5 h7 := x6.trans x7
        have hlen : ys.size ≤ 65536 := by
          have := r3.length
          rw [Array.length_toList] at this
          omega
        refine append_exact (s := { s with heap := h7, toks := tk7 }) (x57 _ _ ha5) (Nat.le_trans hlen (by decide)) fun h8 n8 ho8 sb8 => ?_
        dsimp only at sb8
        have kp8 : ∀ b o, b ≠ D' → h7.get? b = some o → h8.get? b = some o := fun b o n e => (sb8.2 b n).trans e
        refine ⟨xs.length - (i + 1), by omega, i + 1, h8, tk7, ys.push yv, n8, done ++ [y], rest', rfl, kk7, hi', rfl, ?_, ?_, ho8, ?_, ?_, e7, by rw [← e4]; simp, ?_, ?_⟩
        · exact (W A rm.handled).frame _ _ _ st6 fun b hb o e => kp8 b o (ne_of (hfp b hb).2 dD) (x7 _ _ e)
        · exact g5.keep (fun o e => kp8 _ _ (Ne.symm hDC) (x57 _ _ e)) (fun o e => kp8 _ _ (Ne.symm hDK) (x57 _ _ e))
        · rw [Array.toList_push]
          exact ((r5.ext x57).append (.cons ry .nil)).mono (fun b o p e => kp8 b o p.2.2.1 e) fun _ _ _ p => p
        · rw [List.length_append, List.length_singleton]; omega
        · intro b o n1 n2 n3 e
          exact kp8 b o n2 (x57 b o (kp5 b o n1 n3 (kp3 b o n1 n2 n3 e)))
        · obtain ⟨o, ho⟩ := hI5; exact ⟨o, kp8 _ _ (Ne.symm hID) (x57 _ _ ho)⟩
    · have hi2 : i = xs.length := Nat.le_antisymm hile hi'
      subst hi2
      rw [List.drop_length] at e3
      cases e3
      rw [List.append_nil] at e4
      subst e4
      refine wpAny_with_toks (n := 1) k3 ((W A rm.handled).done _ _ _ st3 fun h4 tk4 hk4 kk4 => ?_)
      have hk4' : ∀ b o, b ≠ I → h3.get? b = some o → h4.get? b = some o := fun b o hb e => hk4 b o (by simpa using hb) e
      dsimp only
      refine hR h4 tk4 kk4 (g3.keep (fun o e => hk4' C o hIC e) (fun o e => hk4' K o hIK e)).1 ?_ (.list ⟨fr _ (x12.dead dD), hDC⟩ (hk4' _ _ hID ha3) (r3.mono (fun b o p e => hk4' b o p.2.1 e) fun b o e p => ⟨p.1, p.2.2.2.1⟩))
      intro b o e
      obtain ⟨n1, n2, n3, n4⟩ := ne1 e
      exact hk4' b o n1 (kp3 b o n1 n2 n4 (xb _ _ (x12 _ _ e)))
  · intro v; rfl
end
end Mine

namespace Mine
open PySem PySem.Calls PyProof.Rows PyProof.V

theorem lookup_relabel_ne {env : Env} {k0 : NameKind} (hk0 : k0 ≠ .free) : ∀ {names : List (Str × NameKind)} {x : Str}, names.lookup x = some k0 →
    (names.map fun (n, k) => if (k == NameKind.free && env.scope.kind == .function && env.kindOf n == some .cell) then (n, NameKind.cell) else (n, k)).lookup x = some k0
  | [], _, h => by simp at h
  | (n, k) :: r, x, h => by
    have ih := @lookup_relabel_ne env k0 hk0 r x
    show List.lookup x ((if (k == NameKind.free && env.scope.kind == .function && env.kindOf n == some .cell) = true then (n, NameKind.cell) else (n, k)) :: _) = _
    cases hx : x == n with
    | true =>
      simp only [List.lookup_cons, hx] at h
      cases h
      have : (k0 == NameKind.free) = false := by cases k0 <;> first | rfl | exact absurd rfl hk0
      simp [List.lookup_cons, hx, this]
    | false =>
      simp only [List.lookup_cons, hx] at h
      by_cases hc : (k == NameKind.free && env.scope.kind == .function && env.kindOf n == some .cell) = true
      · rw [if_pos hc]; simp only [List.lookup_cons, hx]; exact ih h
      · rw [if_neg hc]; simp only [List.lookup_cons, hx]; exact ih h
theorem lookup_relabel_free {env : Env} (hf : env.scope.kind = .function) : ∀ {names : List (Str × NameKind)} {x : Str}, env.kindOf x = some .cell → names.lookup x = some .free →
    (names.map fun (n, k) => if (k == NameKind.free && env.scope.kind == .function && env.kindOf n == some .cell) then (n, NameKind.cell) else (n, k)).lookup x = some .cell
  | [], _, _, h => by simp at h
  | (n, k) :: r, x, hc0, h => by
    have ih := @lookup_relabel_free env hf r x hc0
    show List.lookup x ((if (k == NameKind.free && env.scope.kind == .function && env.kindOf n == some .cell) = true then (n, NameKind.cell) else (n, k)) :: _) = _
    cases hx : x == n with
    | true =>
      simp only [List.lookup_cons, hx] at h
      cases h
      rw [beq_iff_eq.mp hx] at hc0
      simp [List.lookup_cons, hx, hf, hc0]
    | false =>
      simp only [List.lookup_cons, hx] at h
      by_cases hc : (k == NameKind.free && env.scope.kind == .function && env.kindOf n == some .cell) = true
      · rw [if_pos hc]; simp only [List.lookup_cons, hx]; exact ih h
      · rw [if_neg hc]; simp only [List.lookup_cons, hx]; exact ih h

theorem closure_go {env : Env} (f : Str × NameKind → List (Str × Addr) → Sem (ForInStep (List (Str × Addr))))
    (hf : ∀ name kind cs, f (name, kind) cs = if kind == .free then (do let a ← cellOf env name; pure (.yield ((name, a) :: cs))) else pure (.yield cs)) :
    ∀ (names : List (Str × NameKind)) (acc : List (Str × Addr)), (∀ y ∈ names, y.2 = .free → ∃ q, env.cells.lookup y.1 = some q) → (∀ y q, acc.lookup y = some q → env.cells.lookup y = some q) →
      ∃ cl, forIn names acc f = pure cl ∧ (∀ y q, cl.lookup y = some q → env.cells.lookup y = some q) ∧ (∀ y, (acc.lookup y).isSome → (cl.lookup y).isSome) ∧ ∀ y, (y, NameKind.free) ∈ names → (cl.lookup y).isSome
  | [], acc, _, ha => ⟨acc, by rw [List.forIn_nil], ha, fun _ x => x, fun _ hm => (nomatch hm)⟩
  | (n, k) :: r, acc, hn, ha => by
    by_cases hk : k = .free
    · subst hk
      obtain ⟨q, hq⟩ := hn (n, .free) List.mem_cons_self rfl
      have hq' : env.cells.lookup n = some q := hq
      have ha' : ∀ y q', ((n, q) :: acc).lookup y = some q' → env.cells.lookup y = some q' := by
        intro y q' e
        rw [List.lookup_cons] at e
        cases hb : y == n with
        | true => rw [hb] at e; cases e; rw [beq_iff_eq.mp hb]; exact hq'
        | false => rw [hb] at e; exact ha y q' e
      obtain ⟨cl, e1, e2, e3, e4⟩ := closure_go f hf r ((n, q) :: acc) (fun y hy => hn y (List.mem_cons_of_mem _ hy)) ha'
      have hsome : ∀ y, (acc.lookup y).isSome → (((n, q) :: acc).lookup y).isSome := by
        intro y h
        rw [List.lookup_cons]
        cases y == n
        · exact h
        · rfl
      refine ⟨cl, ?_, e2, fun y h => e3 y (hsome y h), fun y hm => ?_⟩
      · rw [List.forIn_cons, hf, if_pos (by rfl)]
        simp only [cellOf, hq']
        exact e1
      · rcases List.mem_cons.mp hm with z | z
        · cases z
          exact e3 n (by rw [List.lookup_cons, beq_self_eq_true]; rfl)
        · exact e4 y z
    · obtain ⟨cl, e1, e2, e3, e4⟩ := closure_go f hf r acc (fun y hy => hn y (List.mem_cons_of_mem _ hy)) ha
      refine ⟨cl, ?_, e2, e3, fun y hm => ?_⟩
      · rw [List.forIn_cons, hf, if_neg (by simpa using hk)]
        exact e1
      · rcases List.mem_cons.mp hm with z | z
        · cases z; exact absurd rfl hk
        · exact e4 y z
theorem closure_of {env : Env} {scope : Scope} (h : ∀ y ∈ scope.names, y.2 = .free → ∃ q, env.cells.lookup y.1 = some q) :
    ∃ cl, closureFor scope env = pure cl ∧ ∀ y, scope.names.lookup y = some .free → cl.lookup y = env.cells.lookup y := by
  obtain ⟨cl, e1, e2, _, e4⟩ := closure_go (env := env) (fun (x : Str × NameKind) cs => if x.2 == .free then (do let a ← cellOf env x.1; pure (.yield ((x.1, a) :: cs))) else pure (.yield cs)) (fun _ _ _ => rfl) scope.names [] h (fun _ _ e => by cases e)
  refine ⟨cl, ?_, fun y hy => ?_⟩
  · show (forIn scope.names ([] : List (Str × Addr)) (fun (x : Str × NameKind) cs => if x.2 == .free then (do let a ← cellOf env x.1; pure (.yield ((x.1, a) :: cs))) else pure (.yield cs)) >>= fun cs => pure cs) = _
    rw [e1]; rfl
  · obtain ⟨q, hq⟩ := Option.isSome_iff_exists.mp (e4 y (mem_of_lookup hy))
    rw [hq, e2 y q hq]

theorem newEnv_comp {w : World} {A : Around} {E : Value → Shared → Prop} {s : Shared} {scope : Scope} {G : Addr} {cl : List (Str × Addr)} {qual : Str} {env : Env} {Q : Env → Shared → Prop}
    (h : Q { scope, locals := s.heap.objs.size, globals := G, cells := cellsFrom (s.heap.objs.size + 1) scope.names cl, qual, func := none, code := env.code, frame := env.frame, builtins := env.builtins } { s with heap := pushCells (s.heap.push { cls := .type "dict", data := .dict #[] }) scope.names }) :
    wpAny (model prog w) A (newFunctionEnv scope G cl [] qual none .none (some env)) Q E s := by
  simp only [newFunctionEnv, Option.isSome_some, if_true]
  refine wpAny_bind (wpAny_alloc ?_)
  refine wpAny_bind (wpAny_layCells _ (fun name kind cells => by cases hkc : kind == NameKind.cell <;> simp [hkc]) _ _ _ _ ?_)
  rw [show ({ s with heap := s.heap.push { cls := .type "dict", data := .dict #[] } } : Shared).heap.objs.size = s.heap.objs.size + 1 from Heap.size_push ..]
  exact wpAny_bind (wpAny_pure (wpAny_pure h))

theorem cells_none : ∀ (names : List (Str × NameKind)) (n : Nat) (acc : List (Str × Addr)) (h : Heap), (∀ y ∈ names, y.2 ≠ .cell) → cellsFrom n names acc = acc ∧ pushCells h names = h
  | [], _, _, _, _ => ⟨rfl, rfl⟩
  | (nm, k) :: r, n, acc, h, hc => by
    have hk : (k == NameKind.cell) = false := by have := hc (nm, k) List.mem_cons_self; simpa using this
    unfold cellsFrom pushCells
    rw [hk]
    exact cells_none r n acc h fun y hy => hc y (List.mem_cons_of_mem _ hy)
theorem cells_one (x : Str) : ∀ (names : List (Str × NameKind)) (n : Nat) (acc : List (Str × Addr)) (h : Heap), names.filter (fun y => y.2 == .cell) = [(x, .cell)] → cellsFrom n names acc = (x, n) :: acc ∧ pushCells h names = h.push { cls := .type "cell", data := .cell none }
  | [], _, _, _, hc => by cases hc
  | (nm, k) :: r, n, acc, h, hc => by
    unfold cellsFrom pushCells
    rw [List.filter_cons] at hc
    dsimp only at hc
    cases hk : k == NameKind.cell with
    | true =>
      rw [hk, if_pos rfl] at hc
      injection hc with e1 e2
      injection e1 with e1 _
      subst e1
      obtain ⟨a, b⟩ := cells_none r (n + 1) ((nm, n) :: acc) (h.push { cls := .type "cell", data := .cell none }) (fun y hy z => by
        have : y ∈ r.filter (fun y => y.2 == .cell) := List.mem_filter.mpr ⟨hy, by rw [z]; rfl⟩
        rw [e2] at this; cases this)
      rw [if_pos rfl, if_pos rfl]
      exact ⟨a, b⟩
    | false =>
      rw [hk, if_neg (by decide)] at hc
      rw [if_neg (by decide), if_neg (by decide)]
      exact cells_one x r n acc h hc

noncomputable def compOkB (sc : Scope) (x : Str) (caps : List Str) (g : Sc) : Bool :=
  sc.kind == .function && sc.names.all (fun y => y.2 != .local || sc.names.lookup y.1 == some .local) &&
  sc.names.all (fun y => y.2 != .free || caps.contains y.1) && caps.all (fun y => sc.names.lookup y == some .free) && g.gl.all (fun y => sc.names.lookup y == some .globalImplicit) &&
  ((sc.names.all (fun y => y.2 != .cell) && sc.names.lookup x == some .local && g.cp == []) ||
   (sc.names.filter (fun y => y.2 == .cell) == [(x, .cell)] && sc.names.lookup x == some .cell && caps == [] && g.cp == [x]))

structure CompOk (sc : Scope) (x : Str) (caps : List Str) (g : Sc) : Prop where
  kind : sc.kind = .function
  loc : ∀ y ∈ sc.names, y.2 = .local → sc.names.lookup y.1 = some .local
  free : ∀ y ∈ sc.names, y.2 = .free → y.1 ∈ caps
  cap : ∀ y ∈ caps, sc.names.lookup y = some .free
  gl : ∀ y ∈ g.gl, sc.names.lookup y = some .globalImplicit
  how : ((∀ y ∈ sc.names, y.2 ≠ .cell) ∧ sc.names.lookup x = some .local ∧ g.cp = []) ∨ (sc.names.filter (fun y => y.2 == .cell) = [(x, .cell)] ∧ sc.names.lookup x = some .cell ∧ caps = [] ∧ g.cp = [x])
theorem comp_ok {sc : Scope} {x : Str} {caps : List Str} {g : Sc} (h : compOkB sc x caps g = true) : CompOk sc x caps g := by
  unfold compOkB at h
  simp only [Bool.and_eq_true, beq_iff_eq, List.all_eq_true, Bool.or_eq_true, bne_iff_ne, ne_eq, List.contains_iff_mem] at h
  obtain ⟨⟨⟨⟨⟨h1, h2⟩, h3⟩, h4⟩, h5⟩, h6⟩ := h
  refine ⟨h1, fun y hy e => (h2 y hy).resolve_left (fun z => z e), fun y hy e => (h3 y hy).resolve_left (fun z => z e), h4, h5, ?_⟩
  rcases h6 with ⟨⟨a, b⟩, c⟩ | ⟨⟨⟨a, b⟩, c⟩, d⟩
  · exact .inl ⟨a, b, c⟩
  · exact .inr ⟨a, b, c, d⟩

noncomputable abbrev capD (ks : List Nat) (ds : List D) : List D := ks.map fun k => ds[k]?.getD .undef

section
variable {t : Tops} {B : Nat} {vars : List Str} {gls : Sc} {caps : List Str} {g : Sc}
theorem comp_block {w : World} {A : Around} {s : Shared} {elt iter : Expr} {x : Str} {px : Pos} {ifs : List Expr} {scope : Scope} {pos : Pos} {I : Addr} {env : Env} {P : Addr → Prop} {h1 : Heap} {ks : List Nat} {ds xs res : List D}
    {ft : List D → Option Bool} {fe : List D → Option D} {RR : Value → Addr → Result → Shared → Prop} {cl : List (Str × Addr)} (ok : CompOk scope x caps g) (hks : ks.map (fun k => vars[k]?) = caps.map some) (hcp : ∀ y ∈ caps, y ∈ gls.cp)
    (rm : Room B A) (htk : 0 < s.toks) (it : It w P xs h1 s.heap I) (x12 : Ext h1 s.heap) (cx : Ctx t w vars gls env P ds h1) (hcl : ∀ y, scope.names.lookup y = some .free → cl.lookup y = env.cells.lookup y)
    (hi : DenI t B (x :: caps) g ifs ft) (he : DenE t B (x :: caps) g elt fe) (e : compD (capD ks ds) ft fe xs = some res) (hxs : xs.length ≤ 65536)
    (hRR : ∀ D' C h' tk, 0 < tk → s.heap.get? C = none → (∃ m, h'.Ns C m) → Ext h1 h' → Rep (fun b => P b ∧ b ≠ C) h' (.ref D') (.list res) → RR (.ref D') C (.ok .next) { s with heap := h', toks := tk }) :
    wpAny (model prog w) A (newList []) (fun acc s₃ => wpAny (model prog w) A (newFunctionEnv scope env.globals cl [] env.qual none .none (some env)) (fun cenv s₄ =>
      codeAny (model prog w) A (.compStart (.ListComp elt [⟨.Name x px, iter, ifs, 0⟩] scope pos) 0 (.ref I) acc { cenv with scope := relabel scope env }) (RR acc cenv.locals) s₄) NoE s₃) NoE s := by
  refine wpAny_newObj_type (newEnv_comp ?_)
  dsimp only
  generalize hH2 : s.heap.push { cls := .type "list", dict := none, data := .seq ([] : List Value).toArray } = H2
  have hsz : H2.objs.size = s.heap.objs.size + 1 := by rw [← hH2, Heap.size_push]
  have hDC : s.heap.objs.size ≠ H2.objs.size := by rw [hsz]; exact Nat.ne_of_lt (Nat.lt_succ_self _)
  have dead : ∀ q, s.heap.objs.size ≤ q → s.heap.get? q = none := fun q hq => by
    cases e : s.heap.get? q with
    | none => rfl
    | some o' => exact absurd (Heap.lt_size e) (Nat.not_lt.mpr hq)
  have hacc2 : H2.get? s.heap.objs.size = some (LObj #[] 0) := hH2 ▸ Heap.get?_push_size _ rfl
  have x2 : Ext s.heap H2 := hH2 ▸ Ext.push _ _
  obtain ⟨K, hK⟩ : ∃ K, K = (if scope.names.lookup x = some .local then H2.objs.size else H2.objs.size + 1) := ⟨_, rfl⟩
  generalize hH3 : pushCells (H2.push { cls := .type "dict", data := .dict #[] }) scope.names = H3
  generalize hcs : cellsFrom (H2.objs.size + 1) scope.names cl = cells
  have x3 : Ext H2 H3 := fun b o e => hH3 ▸ pushCells_keeps _ _ b o (Heap.get?_push_of_some _ e)
  have ns3 : H3.Ns H2.objs.size (fun _ => none) := hH3 ▸ (Heap.Ns.new H2 (.type "dict")).keeps (pushCells_keeps _ _)
  have main : s.heap.get? K = none ∧ s.heap.objs.size ≠ K ∧ Good H2.objs.size K H3 ∧ Slot (compEnvC scope cells H2.objs.size env) H2.objs.size K x ∧ (∀ y ∈ caps, (compEnvC scope cells H2.objs.size env).cells.lookup y = cl.lookup y) ∧
      (∀ y ∈ g.cp, (compEnvC scope cells H2.objs.size env).kindOf y = some .cell ∧ ∃ q, (compEnvC scope cells H2.objs.size env).cells.lookup y = some q) := by
    rcases ok.how with ⟨a, b, c⟩ | ⟨a, b, c, d⟩
    · rw [if_pos b] at hK
      subst hK
      obtain ⟨z1, z2⟩ := cells_none scope.names (H2.objs.size + 1) cl (H2.push { cls := .type "dict", data := .dict #[] }) a
      rw [z1] at hcs
      subst hcs
      refine ⟨dead _ (by rw [hsz]; exact Nat.le_succ _), hDC, ⟨⟨_, ns3⟩, .inl rfl⟩, ⟨ok.kind, rfl, .inl ⟨rfl, lookup_relabel_local b⟩⟩, fun y _ => rfl, fun y hy => by rw [c] at hy; cases hy⟩
    · rw [if_neg (by rw [b]; decide)] at hK
      subst hK
      obtain ⟨z1, z2⟩ := cells_one x scope.names (H2.objs.size + 1) cl (H2.push { cls := .type "dict", data := .dict #[] }) a
      rw [z1] at hcs
      rw [z2] at hH3
      subst hcs
      have hkx : (compEnvC scope ((x, H2.objs.size + 1) :: cl) H2.objs.size env).kindOf x = some .cell := lookup_relabel_ne (by decide) b
      have hlx : (compEnvC scope ((x, H2.objs.size + 1) :: cl) H2.objs.size env).cells.lookup x = some (H2.objs.size + 1) := by
        show List.lookup x ((x, H2.objs.size + 1) :: cl) = _
        rw [List.lookup_cons, beq_self_eq_true]
      have hcell : H3.IsCell (H2.objs.size + 1) none := by
        have hs' : (H2.push { cls := .type "dict", data := .dict #[] }).objs.size = H2.objs.size + 1 := Heap.size_push ..
        rw [← hH3, ← hs']
        exact ⟨_, Heap.get?_push_size _ rfl, rfl⟩
      refine ⟨dead _ (by rw [hsz]; exact Nat.le_succ_of_le (Nat.le_succ _)), by rw [hsz]; exact Nat.ne_of_lt (Nat.lt_succ_of_lt (Nat.lt_succ_self _)), ⟨⟨_, ns3⟩, .inr ⟨_, hcell⟩⟩, ⟨ok.kind, rfl, .inr ⟨Nat.ne_of_gt (Nat.lt_succ_self _), hkx, hlx⟩⟩, (fun y hy => by rw [c] at hy; cases hy), fun y hy => ?_⟩
      rw [d] at hy
      simp only [List.mem_cons, List.not_mem_nil, or_false] at hy
      subst hy
      exact ⟨hkx, _, hlx⟩
  obtain ⟨dK, hDK, gd, sl, hcaps, hgcp⟩ := main
  have hctx : ∀ h' v d, Ext h1 h' → (∀ b, h'.get? b = none → P b ∧ b ≠ I ∧ b ≠ s.heap.objs.size ∧ b ≠ H2.objs.size ∧ b ≠ K) → Rd (compEnvC scope cells H2.objs.size env) h' x v → Rep (fun b => P b ∧ b ≠ I ∧ b ≠ s.heap.objs.size ∧ b ≠ H2.objs.size ∧ b ≠ K) h' v d →
      Ctx t w (x :: caps) g (compEnvC scope cells H2.objs.size env) (fun b => P b ∧ b ≠ I ∧ b ≠ s.heap.objs.size ∧ b ≠ H2.objs.size ∧ b ≠ K) (d :: capD ks ds) h' := by
    intro h' v d x1 fr' rdx rx
    refine ⟨let ⟨N, mg, mb, T⟩ := cx.top; ⟨N, mg, mb, T.keeps x1⟩, ok.kind, cx.glob, cx.blt, ?_, fun y hy => lookup_relabel_ne (by decide) (ok.gl y hy), fr', hgcp⟩
    intro k y dy hy hd hp
    cases k with
    | zero =>
      simp only [List.getElem?_cons_zero, Option.some.injEq] at hy hd
      subst hy hd
      exact ⟨v, rdx, rx⟩
    | succ k =>
      simp only [List.getElem?_cons_succ] at hy hd
      have hmem : y ∈ caps := List.mem_of_getElem? hy
      have h3 : (ks.map (fun k => vars[k]?))[k]? = some (some y) := by rw [hks, List.getElem?_map, hy]; rfl
      rw [List.getElem?_map] at h3 hd
      cases hk : ks[k]? with
      | none => rw [hk] at h3; cases h3
      | some j =>
        rw [hk] at h3 hd
        simp only [Option.map_some, Option.some.injEq] at h3 hd
        have hdj : ds[j]? = some dy := by
          cases hj : ds[j]? with
          | none => rw [hj] at hd; simp only [Option.getD_none] at hd; subst hd; cases hp
          | some z => rw [hj] at hd; simp only [Option.getD_some] at hd; rw [hd]
        obtain ⟨u, r, p⟩ := cx.rd j y dy h3 hdj hp
        obtain ⟨kc, q0, hq0⟩ := cx.cp y (hcp y hmem)
        have hfree := ok.cap y hmem
        refine ⟨u, ?_, p.mono (fun b o _ e => x1 b o e) fun b o e pb => ⟨pb, ?_, ?_, ?_, ?_⟩⟩
        · rcases r with ⟨kl, _⟩ | ⟨_, q, hl, hv⟩
          · rw [kc] at kl; cases kl
          · refine .inr ⟨.inl (lookup_relabel_free cx.kind kc hfree), q, ?_, hv.keeps x1⟩
            rw [hcaps y hmem, hcl y hfree, hl]
        · rintro rfl; rw [it.dead] at e; cases e
        · rintro rfl; have := x12 _ _ e; rw [dead _ (Nat.le_refl _)] at this; cases this
        · rintro rfl; have := x12 _ _ e; rw [dead _ (by rw [hsz]; exact Nat.le_succ _)] at this; cases this
        · rintro rfl; have := x12 _ _ e; rw [dK] at this; cases this
  have loop : ∀ s₃ : Shared, s₃ = { s with heap := H3 } →
      codeAny (model prog w) A (.compLoop (.ListComp elt [⟨.Name x px, iter, ifs, 0⟩] scope pos) 0 (.ref I) (.ref s.heap.objs.size) (compEnvC scope cells H2.objs.size env))
        (RR (.ref s.heap.objs.size) H2.objs.size) s₃ := by
    rintro s₃ rfl
    refine comp_loop (s := { s with heap := H3 }) (K := K) (C := H2.objs.size) rm htk it x12 (x2.trans x3) (dead _ (Nat.le_refl _)) (dead _ (by rw [hsz]; exact Nat.le_succ _)) dK hDC hDK (x3 _ _ hacc2) gd sl cx.fresh hctx hi he e hxs ?_
    intro h' tk k1 ns x1 r
    exact hRR _ _ h' tk k1 (dead _ (by rw [hsz]; exact Nat.le_succ _)) ns x1 r
  obtain ⟨⟨fp, Pi, Sti, W, st0, hfp, hPi, hIfp, hal⟩, hdead, hlive⟩ := id it
  have hst3 : Sti 0 H3 := (W A rm.handled).frame _ _ _ st0 fun b _ o e => x3 _ _ (x2 _ _ e)
  exact codeAny_compStart_list (loop _ rfl) ((W A rm.handled).self 0 { s with heap := H3 } _ _ hst3 (loop _ rfl))
end
end Mine

namespace Mine
open PySem PySem.Calls PyProof.Rows PyProof.V

noncomputable abbrev eComp (ks : List Nat) (fi : List D → Option D) (ft : List D → Option Bool) (fe : List D → Option D) : List D → Option D := fun ds => match fi ds with
  | some d => match itemsD d with
    | some xs => if xs.length ≤ 65536 then match compD (capD ks ds) ft fe xs with
        | some ys => some (.list ys)
        | none => none
      else none
    | none => none
  | none => none
theorem eComp_inv {ks : List Nat} {fi : List D → Option D} {ft : List D → Option Bool} {fe : List D → Option D} {ds : List D} {d : D} (e : eComp ks fi ft fe ds = some d) :
    ∃ di xs ys, fi ds = some di ∧ itemsD di = some xs ∧ xs.length ≤ 65536 ∧ compD (capD ks ds) ft fe xs = some ys ∧ d = .list ys := by
  unfold eComp at e
  cases e1 : fi ds with
  | none => rw [e1] at e; cases e
  | some di =>
    rw [e1] at e; dsimp only at e
    cases e2 : itemsD di with
    | none => rw [e2] at e; cases e
    | some xs =>
      rw [e2] at e; dsimp only at e
      by_cases hl : xs.length ≤ 65536
      · rw [if_pos hl] at e
        cases e3 : compD (capD ks ds) ft fe xs with
        | none => rw [e3] at e; cases e
        | some ys => rw [e3] at e; cases e; exact ⟨di, xs, ys, rfl, e2, hl, e3, rfl⟩
      · rw [if_neg hl] at e; cases e

section
variable {t : Tops} {B : Nat} {vars : List Str} {gls : Sc}
theorem den_comp {elt iter : Expr} {x : Str} {px : Pos} {ifs : List Expr} {scope : Scope} {pos : Pos} {fi : List D → Option D} {ft : List D → Option Bool} {fe : List D → Option D} (ks : List Nat) (caps : List Str) (g : Sc)
    (okb : compOkB scope x caps g = true) (hks : ks.map (fun k => vars[k]?) = caps.map some) (hcp : ∀ y ∈ caps, y ∈ gls.cp) (hit : DenE t B vars gls iter fi)
    (hi : DenI t B (x :: caps) g ifs ft) (he : DenE t B (x :: caps) g elt fe) (hs : ∀ env x, foldedSetIterable iter env x = pure x := by intro _ _; rfl) :
    DenE t B vars gls (.ListComp elt [⟨.Name x px, iter, ifs, 0⟩] scope pos) (eComp ks fi ft fe) := by
  intro w A s env P ds d Q rm htk cx e h
  obtain ⟨di, xs, ys, e1, e2, hl, e3, rfl⟩ := eComp_inv e
  have ok := comp_ok okb
  obtain ⟨cl, hclos, hcl⟩ := closure_of (env := env) (scope := scope) (fun y hy hf => (cx.cp y.1 (hcp _ (ok.free y hy hf))).2)
  rw [eval_ListComp]
  refine wpAny_comprehension_free (use := none) rfl (hs env) hclos ok.kind ok.loc (hit w A s env P ds di _ rm htk cx e1 fun v h1 tk1 k1 x1 r1 => ?_)
  refine iter_of (s := { s with heap := h1, toks := tk1 }) e2 r1 (cx.ext x1).fresh fun I h2 x2 it => ?_
  refine comp_block (s := { s with heap := h2, toks := tk1 }) (RR := fun acc C => compPost (model prog w) A NoE none Q acc C) ok hks hcp rm k1 it x2 (cx.ext x1) hcl hi he e3 hl ?_
  intro D' C h' tk k' dC ⟨m, ns⟩ x1' r
  refine ⟨m, ns, fun h'' sb => h _ h'' tk k' ?_ (r.mono (fun b o p e => (sb.2 b p.2).trans e) fun b o _ p => p.1)⟩
  intro b o e
  have hb : b ≠ C := by rintro rfl; have := x2 _ _ (x1 _ _ e); rw [dC] at this; cases this
  exact (sb.2 b hb).trans (x1' _ _ (x1 _ _ e))
end

section
variable {t : Tops} {B : Nat} {c : FC}
theorem den_acomp {elt iter : Expr} {x y : Str} {px py : Pos} {ifs : List Expr} {scope : Scope} {pos spos : Pos} {fi : List D → Option D} {ft : List D → Option Bool} {fe : List D → Option D} (okc : c.Ok) (k : Nat) (hk : c.locs[k]? = some y)
    (ks : List Nat) (caps : List Str) (g : Sc)
    (okb : compOkB scope x caps g = true) (hks : ks.map (fun k => c.locs[k]?) = caps.map some) (hcp : ∀ y ∈ caps, y ∈ c.gls.cp) (hit : DenE t B c.locs c.gls iter fi)
    (hi : DenI t B (x :: caps) g ifs ft) (he : DenE t B (x :: caps) g elt fe) (hsw : ∀ L a cd, swapsWith (.ListComp elt [⟨.Name x px, iter, ifs, 0⟩] scope pos) (some (.Name y py)) spos.line (c.env L a cd) = pure true)
    (hs : ∀ env x, foldedSetIterable iter env x = pure x := by intro _ _; rfl) :
    Den1 t B c (.Assign [.Name y py] (.ListComp elt [⟨.Name x px, iter, ifs, 0⟩] scope pos) spos) (sAssign k (eComp ks fi ft fe)) := by
  intro w A s h₀ Pr L a cd oa ds fl ds' Q rm htk S e h
  unfold sAssign at e
  cases e0 : eComp ks fi ft fe ds with
  | none => rw [e0] at e; cases e
  | some d =>
  rw [e0] at e; cases e
  obtain ⟨di, xs, ys, e1, e2, hl, e3, rfl⟩ := eComp_inv e0
  have ok := comp_ok okb
  have cx := S.ctx okc
  obtain ⟨cl, hclos, hcl⟩ := closure_of (env := c.env L a cd) (scope := scope) (fun y hy hf => (cx.cp y.1 (hcp _ (ok.free y hy hf))).2)
  rw [exec_Assign_Name_used _ _ _ _ (hsw L a cd)]
  refine wpAny_bind (wpAny_standAt (wpAny_bind ?_))
  show wpAny _ A (do let _ ← comprehension (.ListComp elt [⟨.Name x px, iter, ifs, 0⟩] scope pos) scope (c.env L a cd) _ (newList []) false (eval iter (c.env L a cd)) (some (assign (.Name y py) (c.env L a cd)))) _ _ s
  refine wpAny_bind (wpAny_mono (wpAny_comprehension_free (use := some (assign (.Name y py) (c.env L a cd))) (E := NoE) (Q := fun _ s' => Q .next s') rfl (hs _) hclos ok.kind ok.loc
    (hit w A s _ _ ds di _ rm htk cx e1 fun v h1 tk1 k1 x1 r1 => ?_)) (fun _ s' hq => wpAny_pure (wpAny_pure hq)) fun _ _ e => e)
  refine iter_of (s := { s with heap := h1, toks := tk1 }) e2 r1 (cx.ext x1).fresh fun I h2 x2 it => ?_
  refine comp_block (s := { s with heap := h2, toks := tk1 }) (RR := fun acc C => compPost (model prog w) A NoE (some (assign (.Name y py) (c.env L a cd))) (fun _ s' => Q .next s') acc C) ok hks hcp rm k1 it x2 (cx.ext x1) hcl hi he e3 hl ?_
  intro D' C h' tk k' dC ⟨m, ns⟩ x1' r
  have dCs : s.heap.get? C = none := (x1.trans x2).dead dC
  have xs' : Ext s.heap h' := x1.trans x1'
  have hlC : ∃ o, h'.get? C = some o := let ⟨o, es, ep, ho, _⟩ := ns; ⟨o, ho⟩
  have S2 : St t w c h₀ (fun b => Pr b ∧ b ≠ C) L a cd oa ds h' := S.guard xs' dCs hlC
  have hnp : ¬ Priv c L oa ds C := fun p => by obtain ⟨o, ho⟩ := S.plive C p; rw [dCs] at ho; cases ho
  have r' : Rep (Pv c (fun b => Pr b ∧ b ≠ C) L oa ds) h' (.ref D') (.list ys) := r.weak fun b p => ⟨⟨p.1.1, p.2⟩, p.1.2⟩
  show wpAny _ A (assign (.Name y py) (c.env L a cd) (.ref D')) _ _ _
  refine wpAny_assign_Name (S2.store (s := { s with heap := h', toks := tk }) okc k' hk r' fun h'' tk' k'' S3 kb => ?_)
  have hnp3 : ¬ Priv c L oa (ds.set k (.list ys)) C := fun p => hnp (priv_set r'.notOwn p)
  refine ⟨m, ?_, fun h3 sb => ?_⟩
  · obtain ⟨o, es, ep, ho, rr⟩ := ns
    exact ⟨o, es, ep, kb _ _ hnp ho, rr⟩
  · refine h .next h3 tk' oa k'' trivial (S3.done hnp3 (S.keep.dead dCs) (S.fresh C dCs) fun b o hb e => (sb.2 b hb).trans e) ⟨fun b o hb e => ?_, fun b p => .inl (priv_set r'.notOwn p)⟩
    have hbC : b ≠ C := by rintro rfl; rw [dCs] at e; cases e
    exact (sb.2 b hbC).trans (kb b o hb (xs' _ _ e))
end
end Mine

namespace Mine
open PySem PySem.Calls PyProof.Rows PyProof.V

section
variable {t : Tops} {w : World} {c : FC} {h₀ : Heap} {Pr Pr' : Addr → Prop} {L a : Addr} {cd : Value} {oa : Nat → Addr} {ds : List D} {h h' : Heap} {Z : Addr → Prop}
theorem St.guardZ (S : St t w c h₀ Pr L a cd oa ds h) (x : Ext h h') (hd : ∀ b, Z b → h.get? b = none) (hl : ∀ b, Z b → ∃ o, h'.get? b = some o) : St t w c h₀ (fun b => Pr b ∧ ¬ Z b) L a cd oa ds h' where
  keep := S.keep.trans x
  top := S.top
  pdead := S.pdead
  plive := fun b p => let ⟨o, ho⟩ := S.plive b p; ⟨o, x _ _ ho⟩
  ns := let ⟨m, hm⟩ := S.ns; ⟨m, hm.keeps x⟩
  cl := let ⟨cm, X⟩ := S.cl; ⟨cm, X.keeps x⟩
  fresh := fun b hb => ⟨S.fresh b (x.dead hb), fun z => by obtain ⟨o, ho⟩ := hl b z; rw [ho] at hb; cases hb⟩
  vars := fun k y d h1 h2 => (S.vars k y d h1 h2).mono (fun v r => r.ext x) (fun b o _ he => x b o he) (fun b o e p => ⟨⟨p.1, fun z => by rw [hd b z] at e; cases e⟩, p.2⟩) (fun _ o _ he => x _ o he)
  inj := S.inj
  len := S.len
  pown := fun k xs e => ⟨S.pown k xs e, fun z => by obtain ⟨o, ho⟩ := S.plive (oa k) (.inr (.inr ⟨k, xs, e, rfl⟩)); rw [hd _ z] at ho; cases ho⟩
theorem St.unguardZ (S : St t w c h₀ (fun b => Pr b ∧ ¬ Z b) L a cd oa ds h) : St t w c h₀ Pr L a cd oa ds h := S.repr (fun b o e p => p.1) (fun b e => (S.fresh b e).1)
theorem St.butZ (S : St t w c h₀ Pr L a cd oa ds h) (hI : ∀ b, Z b → ¬ Pr b) (hp : ∀ b, Z b → ¬ Priv c L oa ds b) (h0 : ∀ b, Z b → h₀.get? b = none) (hk : ∀ b o, ¬ Z b → h.get? b = some o → h'.get? b = some o) (hl : ∀ b, Z b → ∃ o, h'.get? b = some o) : St t w c h₀ Pr L a cd oa ds h' where
  keep := fun b o e => hk b o (fun z => by rw [h0 b z] at e; cases e) (S.keep b o e)
  top := S.top
  pdead := S.pdead
  plive := fun b p => let ⟨o, ho⟩ := S.plive b p; ⟨o, hk b o (fun z => hp b z p) ho⟩
  ns := let ⟨m, o, es, ep, ho, r⟩ := S.ns; ⟨m, o, es, ep, hk _ _ (fun z => hp _ z (.inl rfl)) ho, r⟩
  cl := let ⟨cm, X⟩ := S.cl; ⟨cm, ⟨fun n q e => let ⟨o, ho, hd⟩ := X.cell n q e; ⟨o, hk _ _ (fun z => hp _ z (.inr (.inl ⟨n, e⟩))) ho, hd⟩, X.apart, X.above⟩⟩
  fresh := fun b e => by
    refine S.fresh b ?_
    cases hb : h.get? b with
    | none => rfl
    | some o =>
      by_cases z : Z b
      · obtain ⟨o', ho'⟩ := hl b z; rw [ho'] at e; cases e
      · rw [hk b o z hb] at e; cases e
  vars := fun k x d h1 h2 => by
    have hrd : ∀ v, Rd (c.env L a cd) h x v → Rd (c.env L a cd) h' x v := by
      intro v r
      rcases r with ⟨ky, m, ⟨o, es, ep, ho, r⟩, hv⟩ | ⟨ky, q, hl', o, ho, hd⟩
      · exact .inl ⟨ky, m, ⟨o, es, ep, hk _ _ (fun z => hp _ z (.inl rfl)) ho, r⟩, hv⟩
      · exact .inr ⟨ky, q, hl', o, hk _ _ (fun z => hp _ z (.inr (.inl ⟨x, hl'⟩))) ho, hd⟩
    refine (S.vars k x d h1 h2).mono hrd (fun b o p e => hk b o (fun z => hI b z p.1) e) (fun b o e p => p) (fun xs o e he => hk _ o (fun z => hp _ z (.inr (.inr ⟨k, xs, e ▸ h2, rfl⟩))) he)
  inj := S.inj
  len := S.len
  pown := S.pown
theorem St.doneZ (S : St t w c h₀ (fun b => Pr b ∧ ¬ Z b) L a cd oa ds h) (hp : ∀ b, Z b → ¬ Priv c L oa ds b) (h0 : ∀ b, Z b → h₀.get? b = none) (hPr : ∀ b, Z b → Pr b) (hk : ∀ b o, ¬ Z b → h.get? b = some o → h'.get? b = some o) : St t w c h₀ Pr L a cd oa ds h' where
  keep := fun b o e => hk b o (fun z => by rw [h0 b z] at e; cases e) (S.keep b o e)
  top := S.top
  pdead := S.pdead
  plive := fun b p => let ⟨o, ho⟩ := S.plive b p; ⟨o, hk b o (fun z => hp b z p) ho⟩
  ns := let ⟨m, o, es, ep, ho, r⟩ := S.ns; ⟨m, o, es, ep, hk _ _ (fun z => hp _ z (.inl rfl)) ho, r⟩
  cl := let ⟨cm, X⟩ := S.cl; ⟨cm, ⟨fun n q e => let ⟨o, ho, hd⟩ := X.cell n q e; ⟨o, hk _ _ (fun z => hp _ z (.inr (.inl ⟨n, e⟩))) ho, hd⟩, X.apart, X.above⟩⟩
  fresh := fun b e => by
    by_cases z : Z b
    · exact hPr b z
    · refine (S.fresh b ?_).1
      cases hb : h.get? b with
      | none => rfl
      | some o => rw [hk b o z hb] at e; cases e
  vars := fun k x d h1 h2 => by
    have hrd : ∀ v, Rd (c.env L a cd) h x v → Rd (c.env L a cd) h' x v := by
      intro v r
      rcases r with ⟨ky, m, ⟨o, es, ep, ho, r⟩, hv⟩ | ⟨ky, q, hl', o, ho, hd⟩
      · exact .inl ⟨ky, m, ⟨o, es, ep, hk _ _ (fun z => hp _ z (.inl rfl)) ho, r⟩, hv⟩
      · exact .inr ⟨ky, q, hl', o, hk _ _ (fun z => hp _ z (.inr (.inl ⟨x, hl'⟩))) ho, hd⟩
    refine (S.vars k x d h1 h2).mono hrd (fun b o p e => hk b o p.1.2 e) (fun b o e p => ⟨p.1.1, p.2⟩) (fun xs o e he => hk _ o (fun z => hp _ z (.inr (.inr ⟨k, xs, e ▸ h2, rfl⟩))) he)
  inj := S.inj
  len := S.len
  pown := fun k xs e => (S.pown k xs e).1
end

noncomputable def enumD : Nat → List D → List D
  | _, [] => []
  | i, x :: xs => .tup [.int i, x] :: enumD (i + 1) xs
noncomputable abbrev sForEnum (set : D → List D → Option (List D)) (f1 : List D → Option D) (body : List D → Option (Fl × List D)) : List D → Option (Fl × List D) := fun ds => match f1 ds with
  | some (.list xs) => match forD set body (enumD 0 xs) ds with
    | some (.brk, ds1) => some (.next, ds1)
    | r => r
  | _ => none

section
variable {t : Tops} {B : Nat} {c : FC}
theorem den_forenum {iter : Expr} {elts : List Expr} {tk0 : Nat} {tp np cp pos : Pos} {body : List Stmt} {set : D → List D → Option (List D)} {f1 : List D → Option D} {gb : List D → Option (Fl × List D)} (ok : c.Ok) (hset : AsgOk t B c (.Tuple elts tk0 tp) set)
    (bn : BName t c.gls "enumerate" (.type "enumerate")) (h1 : DenE t B c.locs c.gls iter f1) (hb : DenS t B c body gb) (he : ∀ env, starEach [iter] env = (false, eval iter env) :: starEach [] env := by intro _; rfl)
    (hs : ∀ L a cd x, foldedSetIterable (.Call (.Name "enumerate" np) [iter] [] cp) (c.env L a cd) x = pure x := by intro _ _ _ _; rfl) :
    Den1 t B c (.For (.Tuple elts tk0 tp) (.Call (.Name "enumerate" np) [iter] [] cp) body [] pos) (sForEnum set f1 gb) := by
  intro w A s h₀ Pr L a cd oa ds fl ds' Q rm htk S e h
  unfold sForEnum at e
  split at e
  rotate_left
  · cases e
  rename_i xs e1
  cases e3 : forD set gb (enumD 0 xs) ds with
  | none => rw [e3] at e; cases e
  | some res =>
  rw [e3] at e
  have cx := S.ctx ok
  refine wpAny_For (Call_ (eval_builtin cx bn.hx bn.hv bn.hfree bn.hboot bn.hn bn.hd ?_)) (hs L a cd)
  refine callWith_type1 ((den_lcons h1 den_lnil he) w A s _ _ _ ds [.list xs] _ rm htk cx (by simp only [lCons, e1, lNil]) fun vs0 h1 tk1 k1 x1 rr => ?_) (he _) rfl
  cases rr with | cons r1 rr =>
  cases rr
  cases r1 with | list pl hl r =>
  rename_i l vs n
  refine call_enumerate_1 (s := { s with heap := h1, toks := tk1 }) hl fun h2 ie0 it0 hz2 x2 => ?_
  dsimp only at ie0 it0 hz2 x2 ⊢
  refine wpAny_pyIter_enum (s := { s with heap := h2, toks := tk1 }) ie0 ?_
  obtain ⟨it, hit⟩ : ∃ it, it = h1.objs.size := ⟨_, rfl⟩
  obtain ⟨ee, hee⟩ : ∃ ee, ee = it + 1 := ⟨_, rfl⟩
  rw [← hit] at ie0 it0 ⊢
  rw [← hee] at ie0 ⊢
  have dead1 : ∀ q, h1.objs.size ≤ q → h1.get? q = none := fun q hq => by
    cases e : h1.get? q with
    | none => rfl
    | some o' => exact absurd (Heap.lt_size e) (Nat.not_lt.mpr hq)
  have hdead : ∀ b, (b = ee ∨ b = it) → h1.get? b = none := by
    rintro b (rfl | rfl)
    · rw [hee, hit]; exact dead1 _ (Nat.le_succ _)
    · rw [hit]; exact dead1 _ (Nat.le_refl _)
  have hne : ee ≠ it := by rw [hee]; exact Nat.ne_of_gt (Nat.lt_succ_self _)
  have S1 := S.ext x1
  have hdead0 : ∀ b, (b = ee ∨ b = it) → h₀.get? b = none := fun b z => S1.keep.dead (hdead b z)
  have livs : ∀ {hh : Heap} {i : Nat} {old : Value}, IsEnum hh ee it i old → hh.IsListIter it l i → ∀ b, (b = ee ∨ b = it) → ∃ o, hh.get? b = some o := by
    rintro hh i old a1 ⟨o, ho, _⟩ b (rfl | rfl)
    · exact ⟨_, a1⟩
    · exact ⟨o, ho⟩
  have S2 : St t w c h₀ (fun b => Pr b ∧ ¬ (b = ee ∨ b = it)) L a cd oa ds h2 := S1.guardZ (Z := fun b => b = ee ∨ b = it) x2 hdead (livs (i := 0) ie0 it0)
  have fin : ∀ (f : Flow) (fl' : Fl) (h' : Heap) (tk : Nat) (oa' : Nat → Addr) (ds1 : List D), fl' = fl → ds1 = ds' → 0 < tk → FlOk (Pv c (fun b => Pr b ∧ ¬ (b = ee ∨ b = it)) L oa' ds1) h' f fl' → St t w c h₀ (fun b => Pr b ∧ ¬ (b = ee ∨ b = it)) L a cd oa' ds1 h' → Moved c L oa ds h1 oa' ds1 h' →
      Q f { s with heap := h', toks := tk } := by
    intro f fl' h' tk oa' ds1 e1 e2 kk fo S' mv
    subst e1 e2
    refine h f h' tk oa' kk ?_ S'.unguardZ ((Moved.ext x1).trans mv)
    cases f <;> cases fl' <;> first | exact fo | exact fo.elim | skip
    exact fo.weak fun b p => ⟨p.1.1, p.2⟩
  have hlen : vs.size = xs.length := by rw [← r.length, Array.length_toList]
  have hldead : ∀ b, (b = ee ∨ b = it) → l ≠ b := fun b z q => by rw [← q] at z; rw [hdead l z] at hl; cases hl
  refine codeAny_forLoop_any (fun n s' => ∃ i h' tk oa' ds1 old, s' = { s with heap := h', toks := tk } ∧ 0 < tk ∧ i ≤ xs.length ∧ n = xs.length - i ∧ IsEnum h' ee it ((i : Nat) : Int) old ∧ h'.IsListIter it l i ∧ St t w c h₀ (fun b => Pr b ∧ ¬ (b = ee ∨ b = it)) L a cd oa' ds1 h' ∧ Moved c L oa ds h1 oa' ds1 h' ∧
    (∀ b, (b = ee ∨ b = it) → ¬ Priv c L oa' ds1 b) ∧ forD set gb (enumD i (xs.drop i)) ds1 = some res) ?_ xs.length ⟨0, h2, tk1, oa, ds, .none, rfl, k1, Nat.zero_le _, rfl, ie0, it0, S2, Moved.ext x2, (fun b z p => by obtain ⟨o, ho⟩ := S1.plive b p; rw [hdead b z] at ho; cases ho), e3⟩
  rintro n s' ⟨i, h3, tk3, oa3, ds3, old, rfl, k3, hile, rfl, ie3, it3, S3, mv3, hnp3, e4⟩
  have hl3 : h3.get? l = some (LObj vs n) := mv3.keep _ _ pl.2 hl
  rcases Nat.lt_or_ge i xs.length with hi' | hi'
  · have hx : xs[i]? = some (xs[i]'hi') := List.getElem?_eq_getElem hi'
    have hdrop : xs.drop i = xs[i]'hi' :: xs.drop (i + 1) := List.drop_eq_getElem_cons hi'
    rw [hdrop] at e4
    unfold enumD forD at e4
    obtain ⟨v, hv, rv⟩ := r.get i _ hx
    rw [Array.getElem?_toList] at hv
    cases e5 : set (.tup [.int i, xs[i]'hi']) ds3 with
    | none => rw [e5] at e4; cases e4
    | some ds4 =>
    rw [e5] at e4; dsimp only at e4
    cases e6 : gb ds4 with
    | none => rw [e6] at e4; cases e4
    | some r5 =>
    obtain ⟨fl5, ds5⟩ := r5
    rw [e6] at e4
    refine wpAny_pyNext_enum_item (s := { s with heap := h3, toks := tk3 }) ie3 it3 (IsList_of hl3) hv hne fun h4 ieo it4 ht4 hz4 hk4 => ?_
    dsimp only at ieo it4 ht4 hz4 hk4 ⊢
    refine wpAny_letOwnedTupleGo_enum (s := { s with heap := h4, toks := tk3 + 1 }) ieo fun h5 ie5 hs5 => ?_
    dsimp only at hs5 ⊢
    have it5 : h5.IsListIter it l (i + 1) := it4.extBut hs5.extBut (Ne.symm hne)
    have hk5 : ∀ b o, ¬ (b = ee ∨ b = it) → h3.get? b = some o → h5.get? b = some o := fun b o z e => (hs5.2 b (fun q => z (.inl q))).trans (hk4 b o (fun q => z (.inl q)) (fun q => z (.inr q)) e)
    have hei : ee < h3.objs.size := Heap.lt_size ie3
    have ht5 : h5.get? h3.objs.size = some (TObj #[.int i tk3, v] 0) := (hs5.2 _ (Nat.ne_of_gt hei)).trans ht4
    have S4 : St t w c h₀ (fun b => Pr b ∧ ¬ (b = ee ∨ b = it)) L a cd oa3 ds3 h5 := S3.butZ (Z := fun b => b = ee ∨ b = it) (fun b z p => p.2 z) hnp3 hdead0 hk5 (livs (i := i + 1) (by exact_mod_cast ie5) it5)
    have mv5 : Moved c L oa ds h1 oa3 ds3 h5 := ⟨fun b o hb e => hk5 b o (fun z => by rw [hdead b z] at e; cases e) (mv3.keep b o hb e), mv3.priv⟩
    have rx' : Rep (Pv c (fun b => Pr b ∧ ¬ (b = ee ∨ b = it)) L oa3 ds3) h5 v (xs[i]'hi') := rv.mono (fun b o p e => mv5.keep b o p.2 e) fun b o e p => ⟨⟨p.1, fun z => by rw [hdead b z] at e; cases e⟩, fun p' => by
      rcases mv5.priv b p' with z | z
      · exact p.2 z
      · rw [z] at e; cases e⟩
    have hT : h3.get? h3.objs.size = none := dead_size _
    have rt : Rep (Pv c (fun b => Pr b ∧ ¬ (b = ee ∨ b = it)) L oa3 ds3) h5 (.ref h3.objs.size) (.tup [.int i, xs[i]'hi']) := .tup (S3.pfresh _ hT) ht5 (.cons (.int _ _) (.cons rx' .nil))
    refine wpAny_mono (hset w A { s with heap := h5, toks := tk3 + 1 } h₀ _ L a cd oa3 ds3 ds4 _ _ _ rm (Nat.succ_pos _) S4 rt e5 fun h6 tk6 kk6 S6 mv6 => ?_) (fun _ _ x => x) (fun _ _ x => x.elim)
    refine wpAny_mono (hb w A { s with heap := h6, toks := tk6 } h₀ _ L a cd oa3 ds4 fl5 ds5 _ rm kk6 S6 e6 fun f h7 tk7 oa7 kk7 fo7 S7 mv7 => ?_) (fun _ _ x => x) (fun _ _ x => x.elim)
    have mv67 := mv6.trans mv7
    have mvAll := mv5.trans mv67
    have hnp7 : ∀ b, (b = ee ∨ b = it) → ¬ Priv c L oa7 ds5 b := fun b z p => by
      rcases mv67.priv b p with q | q
      · exact hnp3 b z q
      · obtain ⟨o, ho⟩ := livs (i := i + 1) (by exact_mod_cast ie5) it5 b z
        rw [ho] at q; cases q
    cases f <;> cases fl5 <;> first | exact fo7.elim | skip
    · refine ⟨xs.length - (i + 1), by omega, i + 1, h7, tk7, oa7, ds5, v, rfl, kk7, hi', rfl, ?_, ?_, S7, mvAll, hnp7, e4⟩
      · exact mv67.keep _ _ (hnp3 _ (.inl rfl)) (by exact_mod_cast ie5)
      · exact it5.at fun o x => mv67.keep _ _ (hnp3 _ (.inr rfl)) x
    · cases e4
      cases e
      exact fin .next .next h7 tk7 oa7 _ rfl rfl kk7 trivial S7 mvAll
    · cases e4
      cases e
      exact fin _ _ h7 tk7 oa7 _ rfl rfl kk7 fo7 S7 mvAll
  · have hi2 : i = xs.length := Nat.le_antisymm hile hi'
    subst hi2
    rw [List.drop_length] at e4
    cases e4
    refine wpAny_pyNext_enum_end (s := { s with heap := h3, toks := tk3 }) rm.handled ie3 it3 (IsList_of hl3) (by rw [← hlen]; simp) fun h4 hx4 => ?_
    dsimp only at hx4 ⊢
    have hk4' : ∀ b o, ¬ (b = ee ∨ b = it) → h3.get? b = some o → h4.get? b = some o := fun b o z e => hx4 b o (fun q => z (.inr q)) e
    have S4 := S3.doneZ (Z := fun b => b = ee ∨ b = it) hnp3 hdead0 (fun b z => S1.fresh b (hdead b z)) hk4'
    have mv4 : Moved c L oa ds h1 oa3 ds3 h4 := ⟨fun b o hb e => hk4' b o (fun z => by rw [hdead b z] at e; cases e) (mv3.keep b o hb e), mv3.priv⟩
    cases e
    exact wpAny_execs_nil (h .next h4 tk3 oa3 k3 trivial S4 ((Moved.ext x1).trans mv4))
end
end Mine

namespace Mine
open PySem PySem.Calls PyProof.Rows PyProof.V

theorem iadd_lists {w : World} {A : Around} {E : Value → Shared → Prop} {s : Shared} {l b : Addr} {items items2 : Array Value} {n n2 : Nat} {Q : Value → Shared → Prop} (hl : s.heap.get? l = some (LObj items n)) (hb : s.heap.get? b = some (LObj items2 n2))
    (hz : items.size + items2.size ≤ 65536) (hQ : ∀ h' n', h'.get? l = some (LObj (items ++ items2) n') → Heap.SameBut l s.heap h' → Q (.ref l) { s with heap := h' }) :
    wpAny (model prog w) A (inplaceOp .Add (.ref l) (.ref b)) Q E s := by
  unfold inplaceOp
  refine wpAny_holding ?_
  have hfi : fillsInplaceSlot (.type "list") "add" (Operator.Add == .Add) = pure false := by
    unfold fillsInplaceSlot
    show (typeLookup (.type "list") (dunderI "add") >>= fun fi => pure (fi.isSome && !isSeqSlot fi)) = pure false
    rw [F.slot_list_iadd.lookup]
    show (pure ((some (Value.builtin "list.__iadd__")).isSome && !isSeqSlot (some (.builtin "list.__iadd__"))) : Sem Bool) = pure false
    rw [show isSeqSlot (some (.builtin "list.__iadd__")) = true by decide +kernel]; rfl
  have hsi : seqSlot? (.type "list") (dunderI "add") = pure (some (.builtin "list.__iadd__")) := PySem.seqSlot_of F.slot_list_iadd.lookup (by decide +kernel)
  have ha : s.TypeIs (.ref l) "list" := ⟨_, hl, rfl⟩
  refine wpAny_bind (wpAny_typeOf ha (wpAny_bind (wpAny_of_eq hfi ?_)))
  show wpAny (model prog w) A (if false = true then _ else _) Q E s
  rw [if_neg Bool.false_ne_true]
  refine wpAny_bind (wpAny_binaryOp1_none (nm := "add") ha ⟨_, hb, rfl⟩ noFill_list_add ?_)
  refine wpAny_bind (wpAny_of_eq hsi ?_)
  refine wpAny_bind (wpAny_rule ?_)
  have h1 := sizeLine_eq
  refine call_meets F.slot_list_iadd ha F.entry_list_iadd (F.args_list_iadd_2 _ _) (AutoSeq1.list___iadd___list_list_0 l items n b items2 n2 ?_ ?_ ?_) ⟨hl, hb, ?_⟩
  · simp only [Builtin.List.listTooLong, h1, Bool.and_eq_true, decide_eq_true_eq, not_and]
    intro _; omega
  · omega
  · omega
  · exact hQ _ (if (items ++ items2).size == items.size then n else n + 1) (Heap.get?_update_self (Obj.mapSeq (· ++ items2)) hl rfl) (Heap.SameBut.update ..)

section
variable {t : Tops} {B : Nat} {c : FC}
noncomputable abbrev sAugList (k : Nat) (f : List D → Option D) : List D → Option (Fl × List D) := fun ds => match f ds with
  | some (.list ys) => match ds[k]? with
    | some (.own xs) => if xs.length + ys.length ≤ 65536 then some (.next, ds.set k (.own (xs ++ ys))) else none
    | _ => none
  | _ => none
theorem den_auglist {x : Str} {pos' pos : Pos} {value : Expr} {f : List D → Option D} (ok : c.Ok) (k : Nat) (hk : c.locs[k]? = some x) (hv : DenE t B c.locs c.gls value f) : Den1 t B c (.AugAssign (.Name x pos') .Add value pos) (sAugList k f) := by
  intro w A s h₀ Pr L a cd oa ds fl ds' Q rm htk S e h
  unfold sAugList at e
  split at e
  rotate_left
  · cases e
  rename_i ys e1
  split at e
  rotate_left
  · cases e
  rename_i xs e2
  split at e
  rotate_left
  · cases e
  rename_i hz
  cases e
  have C := S.ctx ok
  obtain ⟨items, n, r1, r2, r3⟩ := S.vars k x _ hk e2
  refine wpAny_AugAssign_Name (r1.load C.kind ?_)
  refine hv w A s _ _ ds _ _ rm htk C e1 fun v h' tk kk xv rv => ?_
  cases rv with | list p hl r =>
  rename_i l vs n2
  have l1 := r3.length
  have l2 := r.length
  rw [Array.length_toList] at l1 l2
  refine iadd_lists (s := { s with heap := h', toks := tk }) (xv _ _ r2) hl (by omega) fun h2 n' ho hs => ?_
  obtain ⟨S2, mv2⟩ := (S.ext xv).turn ok (ys := xs ++ ys) e2 hs ho (by rw [Array.toList_append]; exact (r3.ext xv).append r)
  have hlt : k < ds.length := by
    rw [S.len]
    rcases Nat.lt_or_ge k c.locs.length with z | z
    · exact z
    · rw [List.getElem?_eq_none z] at hk; cases hk
  have e3 : (ds.set k (.own (xs ++ ys)))[k]? = some (.own (xs ++ ys)) := List.getElem?_set_self hlt
  obtain ⟨items', n3, q1, q2, q3⟩ := S2.vars k x _ hk e3
  refine store_ends (s := { s with heap := h2, toks := tk }) S2 ok kk hk fun h3 tk3 q ktk hq hqo hkeep hlive hns hcl hrd hrx => ?_
  have hkb : KeepB c L oa (ds.set k (.own (xs ++ ys))) h2 h3 := fun b o hb e => hkeep b o (fun e' => hb (e' ▸ hq)) e
  have S3 := S2.upd (d := .own (xs ++ ys)) (oa' := oa) hk ok.nodup hq (fun j zs _ => hqo j zs) hkeep hlive hns hcl hrd (fun _ _ _ _ => rfl) (fun b p => .inl (by rw [List.set_set] at p; exact p))
    ⟨items', n3, hrx, hkeep _ _ (fun z => hqo k _ e3 z) q2, q3.mono (fun b o p e => hkb b o p.2 e) fun b o _ p => ⟨p.1, fun p' => p.2 (by rw [List.set_set] at p'; exact p')⟩⟩
    (fun j zs zs' hj h1 _ z => hj (S2.inj j k zs _ h1 e3 z.symm)) (fun zs _ => S2.pown k _ e3)
  rw [List.set_set] at S3
  exact h .next h3 tk3 oa ktk trivial S3 (((Moved.ext xv).trans mv2).trans ⟨hkb, fun b p => .inl p⟩)
end
end Mine

namespace Mine
open PySem PySem.Calls PyProof.Rows PyProof.V

noncomputable def defItem? : Stmt → Option DefItem
  | .FunctionDef name params body [] none [] scope none _ pos => some ⟨name, params, body, scope, pos⟩
  | _ => none
noncomputable def theItems : List DefItem := prog.main.body.filterMap defItem?
noncomputable def itemAt (k : Nat) : DefItem := theItems[k]?.getD ⟨"", ⟨[], [], none, [], [], none, []⟩, [], { kind := .function, names := [], isGenerator := false, isCoroutine := false, more := [] }, ⟨0, 0, 0, 0⟩⟩
theorem items_len : theItems.length = 12 := by decide +kernel
theorem item_mem (k : Nat) (h : k < 12) : itemAt k ∈ theItems := by
  unfold itemAt
  rw [List.getElem?_eq_getElem (by rw [items_len]; exact h)]
  exact List.getElem_mem _
theorem item_names : theItems.map (·.name) = (["rgb_to_hls", "hsv_to_rgb", "pretty_flags", "in_table_b1", "map_table_b3", "_law_heaps", "_law_names", "_law_words", "_law_typed", "_law_paint", "_law_told", "law"] : List Str) := by decide +kernel
end Mine

namespace Mine
open PySem PySem.Calls PyProof.Rows PyProof.V

noncomputable def pairsOf : List (Option Expr) → List Expr → Option (List (PyData × PyData))
  | [], [] => some []
  | some k :: ks, v :: vs => match litOf? k, litOf? v, pairsOf ks vs with
    | some a, some b, some r => some ((a, b) :: r)
    | _, _, _ => none
  | _, _ => none
noncomputable def dictOf (x : Str) : Stmt → Option (List (PyData × PyData))
  | .Assign [.Name y _] (.Dict ks vs _) _ => if y == x then pairsOf ks vs else none
  | _ => none
noncomputable def tabOf (x : Str) : List (PyData × PyData) := (prog.main.body.findSome? (dictOf x)).getD []
noncomputable def flagTab : List (PyData × PyData) := tabOf "COMPILER_FLAG_NAMES"
noncomputable def b3Tab : List (PyData × PyData) := tabOf "b3_exceptions"
noncomputable def b1List : List Int := ([173, 847, 6150, 6155, 6156, 6157, 8203, 8204, 8205, 8288, 65279] : List Int) ++ (List.range 16).map fun (i : Nat) => (65024 + (i : Int) : Int)
noncomputable def b1S (i : Int) : Bool := b1List.contains i
noncomputable def topNames : List Str := (["COMPILER_FLAG_NAMES", "b1_set", "b3_exceptions"] : List Str) ++ theItems.map (·.name)
noncomputable def T0 : Tops := ⟨theItems, topNames, [("COMPILER_FLAG_NAMES", flagTab), ("b3_exceptions", b3Tab)], [("b1_set", b1S)]⟩
theorem set_mem : (("b1_set" : Str), b1S) ∈ T0.sets := List.mem_singleton.mpr rfl
theorem flagTab_mem : (("COMPILER_FLAG_NAMES" : Str), flagTab) ∈ T0.tabs := List.mem_cons_self
theorem b3Tab_mem : (("b3_exceptions" : Str), b3Tab) ∈ T0.tabs := List.mem_cons_of_mem _ List.mem_cons_self
noncomputable abbrev get2 (tab : List (PyData × PyData)) : List D → Option D := fun xs => match xs with
  | [.int i, .str y] => strOr (Spec.lookup (.int i) tab) (some (.str y))
  | _ => none
noncomputable abbrev get1 (tab : List (PyData × PyData)) : List D → Option D := fun xs => match xs with
  | [.int i] => strOr (Spec.lookup (.int i) tab) (some .none)
  | _ => none
noncomputable def sRel (k : Nat) (g : List D → Option (Fl × List D)) : List D → Option (Fl × List D) := fun ds => g (rel k ds)
theorem den_rel {t : Tops} {B : Nat} {c : FC} {sts : List Stmt} {g : List D → Option (Fl × List D)} (k : Nat) (hg : DenS t B c sts g) : DenS t B c sts (sRel k g) := den_release k hg
theorem top_names : topNames = (["COMPILER_FLAG_NAMES", "b1_set", "b3_exceptions", "rgb_to_hls", "hsv_to_rgb", "pretty_flags", "in_table_b1", "map_table_b3", "_law_heaps", "_law_names", "_law_words", "_law_typed", "_law_paint", "_law_told", "law"] : List Str) := by
  unfold topNames; rw [item_names]; rfl
theorem b_max {sc : Sc} (h : sc.gl.contains ("max" : Str) = true) : BName T0 sc "max" (.builtin "max") := ⟨List.contains_iff_mem.mp h, by rfl, by rw [show T0.names = _ from top_names]; decide +kernel, by decide +kernel, by decide +kernel, by decide +kernel⟩
theorem b_min {sc : Sc} (h : sc.gl.contains ("min" : Str) = true) : BName T0 sc "min" (.builtin "min") := ⟨List.contains_iff_mem.mp h, by rfl, by rw [show T0.names = _ from top_names]; decide +kernel, by decide +kernel, by decide +kernel, by decide +kernel⟩
theorem b_abs {sc : Sc} (h : sc.gl.contains ("abs" : Str) = true) : BName T0 sc "abs" (.builtin "abs") := ⟨List.contains_iff_mem.mp h, by rfl, by rw [show T0.names = _ from top_names]; decide +kernel, by decide +kernel, by decide +kernel, by decide +kernel⟩
theorem b_hex {sc : Sc} (h : sc.gl.contains ("hex" : Str) = true) : BName T0 sc "hex" (.builtin "hex") := ⟨List.contains_iff_mem.mp h, by rfl, by rw [show T0.names = _ from top_names]; decide +kernel, by decide +kernel, by decide +kernel, by decide +kernel⟩
theorem b_chr {sc : Sc} (h : sc.gl.contains ("chr" : Str) = true) : BName T0 sc "chr" (.builtin "chr") := ⟨List.contains_iff_mem.mp h, by rfl, by rw [show T0.names = _ from top_names]; decide +kernel, by decide +kernel, by decide +kernel, by decide +kernel⟩
theorem b_ord {sc : Sc} (h : sc.gl.contains ("ord" : Str) = true) : BName T0 sc "ord" (.builtin "ord") := ⟨List.contains_iff_mem.mp h, by rfl, by rw [show T0.names = _ from top_names]; decide +kernel, by decide +kernel, by decide +kernel, by decide +kernel⟩
theorem b_len {sc : Sc} (h : sc.gl.contains ("len" : Str) = true) : BName T0 sc "len" (.builtin "len") := ⟨List.contains_iff_mem.mp h, by rfl, by rw [show T0.names = _ from top_names]; decide +kernel, by decide +kernel, by decide +kernel, by decide +kernel⟩
theorem b_sum {sc : Sc} (h : sc.gl.contains ("sum" : Str) = true) : BName T0 sc "sum" (.builtin "sum") := ⟨List.contains_iff_mem.mp h, by rfl, by rw [show T0.names = _ from top_names]; decide +kernel, by decide +kernel, by decide +kernel, by decide +kernel⟩
theorem b_int {sc : Sc} (h : sc.gl.contains ("int" : Str) = true) : BName T0 sc "int" (.type "int") := ⟨List.contains_iff_mem.mp h, by rfl, by rw [show T0.names = _ from top_names]; decide +kernel, by decide +kernel, by decide +kernel, by decide +kernel⟩
theorem b_range {sc : Sc} (h : sc.gl.contains ("range" : Str) = true) : BName T0 sc "range" (.type "range") := ⟨List.contains_iff_mem.mp h, by rfl, by rw [show T0.names = _ from top_names]; decide +kernel, by decide +kernel, by decide +kernel, by decide +kernel⟩
theorem b_list {sc : Sc} (h : sc.gl.contains ("list" : Str) = true) : BName T0 sc "list" (.type "list") := ⟨List.contains_iff_mem.mp h, by rfl, by rw [show T0.names = _ from top_names]; decide +kernel, by decide +kernel, by decide +kernel, by decide +kernel⟩
theorem b_enumerate {sc : Sc} (h : sc.gl.contains ("enumerate" : Str) = true) : BName T0 sc "enumerate" (.type "enumerate") := ⟨List.contains_iff_mem.mp h, by rfl, by rw [show T0.names = _ from top_names]; decide +kernel, by decide +kernel, by decide +kernel, by decide +kernel⟩
end Mine

namespace Mine
open PySem PySem.Calls PyProof.Rows PyProof.V

noncomputable def c0 : FC := ⟨"rgb_to_hls", (itemAt 0).scope, ["r", "g", "b", "maxc", "minc", "sumc", "rangec", "l", "s", "rc", "gc", "bc", "h"], ⟨["max", "min"], []⟩⟩
theorem ok0 : c0.Ok := FC.ok_of (by decide +kernel)
noncomputable abbrev b0 : List D → Option (Fl × List D) := (sSeq (sAssign 3 (eCall dMax (lCons (eVar 0) (lCons (eVar 1) (lCons (eVar 2) lNil))))) (sSeq (sAssign 4 (eCall dMin (lCons (eVar 0) (lCons (eVar 1) (lCons (eVar 2) lNil))))) (sSeq (sAssign 5 (eBin dAdd (eVar 3) (eVar 4))) (sSeq (sAssign 6 (eBin dSub (eVar 3) (eVar 4))) (sSeq (sAssign 7 (eBin dDiv (eVar 5) (fun _ => some (.flt 4611686018427387904)))) (sSeq (sIf (tOf (eBin dEq (eVar 4) (eVar 3))) (sSeq (sRet (eTup (lCons (fun _ => some (.flt 0)) (lCons (eVar 7) (lCons (fun _ => some (.flt 0)) lNil))))) sNil) sNil) (sSeq (sIf (tOf (eBin dLe (eVar 7) (fun _ => some (.flt 4602678819172646912)))) (sSeq (sAssign 8 (eBin dDiv (eVar 6) (eVar 5))) sNil) (sSeq (sAssign 8 (eBin dDiv (eVar 6) (eBin dSub (eBin dSub (fun _ => some (.flt 4611686018427387904)) (eVar 3)) (eVar 4)))) sNil)) (sSeq (sAssign 9 (eBin dDiv (eBin dSub (eVar 3) (eVar 0)) (eVar 6))) (sSeq (sAssign 10 (eBin dDiv (eBin dSub (eVar 3) (eVar 1)) (eVar 6))) (sSeq (sAssign 11 (eBin dDiv (eBin dSub (eVar 3) (eVar 2)) (eVar 6))) (sSeq (sIf (tOf (eBin dEq (eVar 0) (eVar 3))) (sSeq (sAssign 12 (eBin dSub (eVar 11) (eVar 10))) sNil) (sSeq (sIf (tOf (eBin dEq (eVar 1) (eVar 3))) (sSeq (sAssign 12 (eBin dSub (eBin dAdd (fun _ => some (.flt 4611686018427387904)) (eVar 9)) (eVar 11))) sNil) (sSeq (sAssign 12 (eBin dSub (eBin dAdd (fun _ => some (.flt 4616189618054758400)) (eVar 10)) (eVar 9))) sNil)) sNil)) (sSeq (sAssign 12 (eBin dMod (eBin dDiv (eVar 12) (fun _ => some (.flt 4618441417868443648))) (fun _ => some (.flt 4607182418800017408)))) (sSeq (sRet (eTup (lCons (eVar 12) (lCons (eVar 7) (lCons (eVar 8) lNil))))) sNil)))))))))))))
set_option maxHeartbeats 4000000 in
theorem den0 : DenS T0 321 c0 (itemAt 0).body b0 := by
  refine @den_scons _ _ _ _ _ _ _ ?_ ?_
  refine @den_assign _ _ _ _ _ _ _ _ ok0 3 rfl ?_ (by intros; rfl)
  exact (@den_builtin _ _ _ _ _ _ _ _ _ _ _ _ (b_max (by decide +kernel)) call_max (@den_lcons _ _ _ _ _ _ _ _ (@den_var _ _ _ _ 0 _ _ rfl (by decide +kernel)) (@den_lcons _ _ _ _ _ _ _ _ (@den_var _ _ _ _ 1 _ _ rfl (by decide +kernel)) (@den_lcons _ _ _ _ _ _ _ _ (@den_var _ _ _ _ 2 _ _ rfl (by decide +kernel)) (@den_lnil _ _ _ _) (by intros; rfl)) (by intros; rfl)) (by intros; rfl)) (by intros; rfl) (by intros; rfl) (by decide))
  refine @den_scons _ _ _ _ _ _ _ ?_ ?_
  refine @den_assign _ _ _ _ _ _ _ _ ok0 4 rfl ?_ (by intros; rfl)
  exact (@den_builtin _ _ _ _ _ _ _ _ _ _ _ _ (b_min (by decide +kernel)) call_min (@den_lcons _ _ _ _ _ _ _ _ (@den_var _ _ _ _ 0 _ _ rfl (by decide +kernel)) (@den_lcons _ _ _ _ _ _ _ _ (@den_var _ _ _ _ 1 _ _ rfl (by decide +kernel)) (@den_lcons _ _ _ _ _ _ _ _ (@den_var _ _ _ _ 2 _ _ rfl (by decide +kernel)) (@den_lnil _ _ _ _) (by intros; rfl)) (by intros; rfl)) (by intros; rfl)) (by intros; rfl) (by intros; rfl) (by decide))
  refine @den_scons _ _ _ _ _ _ _ ?_ ?_
  refine @den_assign _ _ _ _ _ _ _ _ ok0 5 rfl ?_ (by intros; rfl)
  exact (@den_bin _ _ _ _ _ _ _ _ _ _ _ op_add (@den_var _ _ _ _ 3 _ _ rfl (by decide +kernel)) (@den_var _ _ _ _ 4 _ _ rfl (by decide +kernel)) (by decide))
  refine @den_scons _ _ _ _ _ _ _ ?_ ?_
  refine @den_assign _ _ _ _ _ _ _ _ ok0 6 rfl ?_ (by intros; rfl)
  exact (@den_bin _ _ _ _ _ _ _ _ _ _ _ op_sub (@den_var _ _ _ _ 3 _ _ rfl (by decide +kernel)) (@den_var _ _ _ _ 4 _ _ rfl (by decide +kernel)) (by decide))
  refine @den_scons _ _ _ _ _ _ _ ?_ ?_
  refine @den_assign _ _ _ _ _ _ _ _ ok0 7 rfl ?_ (by intros; rfl)
  exact (@den_bin _ _ _ _ _ _ _ _ _ _ _ op_div (@den_var _ _ _ _ 5 _ _ rfl (by decide +kernel)) (@den_flt _ _ _ _ 4611686018427387904 _ _) (by decide))
  refine @den_scons _ _ _ _ _ _ _ ?_ ?_
  refine @den_if _ _ _ _ _ _ _ _ _ _ ok0 ?_ ?_ ?_
  exact (@den_tcmp _ _ _ _ _ _ _ _ _ _ _ op_eq (@den_var _ _ _ _ 4 _ _ rfl (by decide +kernel)) (@den_var _ _ _ _ 3 _ _ rfl (by decide +kernel)) (by with_unfolding_all rfl) (by decide))
  refine @den_scons _ _ _ _ _ _ _ ?_ ?_
  refine @den_ret _ _ _ _ _ _ ok0 ?_
  exact (@den_tup _ _ _ _ _ _ _ _ (@den_lcons _ _ _ _ _ _ _ _ (@den_flt _ _ _ _ 0 _ _) (@den_lcons _ _ _ _ _ _ _ _ (@den_var _ _ _ _ 7 _ _ rfl (by decide +kernel)) (@den_lcons _ _ _ _ _ _ _ _ (@den_flt _ _ _ _ 0 _ _) (@den_lnil _ _ _ _) (by intros; rfl)) (by intros; rfl)) (by intros; rfl)))
  exact (@den_snil _ _ _)
  exact (@den_snil _ _ _)
  refine @den_scons _ _ _ _ _ _ _ ?_ ?_
  refine @den_if _ _ _ _ _ _ _ _ _ _ ok0 ?_ ?_ ?_
  exact (@den_tcmp _ _ _ _ _ _ _ _ _ _ _ op_le (@den_var _ _ _ _ 7 _ _ rfl (by decide +kernel)) (@den_flt _ _ _ _ 4602678819172646912 _ _) (by with_unfolding_all rfl) (by decide))
  refine @den_scons _ _ _ _ _ _ _ ?_ ?_
  refine @den_assign _ _ _ _ _ _ _ _ ok0 8 rfl ?_ (by intros; rfl)
  exact (@den_bin _ _ _ _ _ _ _ _ _ _ _ op_div (@den_var _ _ _ _ 6 _ _ rfl (by decide +kernel)) (@den_var _ _ _ _ 5 _ _ rfl (by decide +kernel)) (by decide))
  exact (@den_snil _ _ _)
  refine @den_scons _ _ _ _ _ _ _ ?_ ?_
  refine @den_assign _ _ _ _ _ _ _ _ ok0 8 rfl ?_ (by intros; rfl)
  exact (@den_bin _ _ _ _ _ _ _ _ _ _ _ op_div (@den_var _ _ _ _ 6 _ _ rfl (by decide +kernel)) (@den_bin _ _ _ _ _ _ _ _ _ _ _ op_sub (@den_bin _ _ _ _ _ _ _ _ _ _ _ op_sub (@den_flt _ _ _ _ 4611686018427387904 _ _) (@den_var _ _ _ _ 3 _ _ rfl (by decide +kernel)) (by decide)) (@den_var _ _ _ _ 4 _ _ rfl (by decide +kernel)) (by decide)) (by decide))
  exact (@den_snil _ _ _)
  refine @den_scons _ _ _ _ _ _ _ ?_ ?_
  refine @den_assign _ _ _ _ _ _ _ _ ok0 9 rfl ?_ (by intros; rfl)
  exact (@den_bin _ _ _ _ _ _ _ _ _ _ _ op_div (@den_bin _ _ _ _ _ _ _ _ _ _ _ op_sub (@den_var _ _ _ _ 3 _ _ rfl (by decide +kernel)) (@den_var _ _ _ _ 0 _ _ rfl (by decide +kernel)) (by decide)) (@den_var _ _ _ _ 6 _ _ rfl (by decide +kernel)) (by decide))
  refine @den_scons _ _ _ _ _ _ _ ?_ ?_
  refine @den_assign _ _ _ _ _ _ _ _ ok0 10 rfl ?_ (by intros; rfl)
  exact (@den_bin _ _ _ _ _ _ _ _ _ _ _ op_div (@den_bin _ _ _ _ _ _ _ _ _ _ _ op_sub (@den_var _ _ _ _ 3 _ _ rfl (by decide +kernel)) (@den_var _ _ _ _ 1 _ _ rfl (by decide +kernel)) (by decide)) (@den_var _ _ _ _ 6 _ _ rfl (by decide +kernel)) (by decide))
  refine @den_scons _ _ _ _ _ _ _ ?_ ?_
  refine @den_assign _ _ _ _ _ _ _ _ ok0 11 rfl ?_ (by intros; rfl)
  exact (@den_bin _ _ _ _ _ _ _ _ _ _ _ op_div (@den_bin _ _ _ _ _ _ _ _ _ _ _ op_sub (@den_var _ _ _ _ 3 _ _ rfl (by decide +kernel)) (@den_var _ _ _ _ 2 _ _ rfl (by decide +kernel)) (by decide)) (@den_var _ _ _ _ 6 _ _ rfl (by decide +kernel)) (by decide))
  refine @den_scons _ _ _ _ _ _ _ ?_ ?_
  refine @den_if _ _ _ _ _ _ _ _ _ _ ok0 ?_ ?_ ?_
  exact (@den_tcmp _ _ _ _ _ _ _ _ _ _ _ op_eq (@den_var _ _ _ _ 0 _ _ rfl (by decide +kernel)) (@den_var _ _ _ _ 3 _ _ rfl (by decide +kernel)) (by with_unfolding_all rfl) (by decide))
  refine @den_scons _ _ _ _ _ _ _ ?_ ?_
  refine @den_assign _ _ _ _ _ _ _ _ ok0 12 rfl ?_ (by intros; rfl)
  exact (@den_bin _ _ _ _ _ _ _ _ _ _ _ op_sub (@den_var _ _ _ _ 11 _ _ rfl (by decide +kernel)) (@den_var _ _ _ _ 10 _ _ rfl (by decide +kernel)) (by decide))
  exact (@den_snil _ _ _)
  refine @den_scons _ _ _ _ _ _ _ ?_ ?_
  refine @den_if _ _ _ _ _ _ _ _ _ _ ok0 ?_ ?_ ?_
  exact (@den_tcmp _ _ _ _ _ _ _ _ _ _ _ op_eq (@den_var _ _ _ _ 1 _ _ rfl (by decide +kernel)) (@den_var _ _ _ _ 3 _ _ rfl (by decide +kernel)) (by with_unfolding_all rfl) (by decide))
  refine @den_scons _ _ _ _ _ _ _ ?_ ?_
  refine @den_assign _ _ _ _ _ _ _ _ ok0 12 rfl ?_ (by intros; rfl)
  exact (@den_bin _ _ _ _ _ _ _ _ _ _ _ op_sub (@den_bin _ _ _ _ _ _ _ _ _ _ _ op_add (@den_flt _ _ _ _ 4611686018427387904 _ _) (@den_var _ _ _ _ 9 _ _ rfl (by decide +kernel)) (by decide)) (@den_var _ _ _ _ 11 _ _ rfl (by decide +kernel)) (by decide))
  exact (@den_snil _ _ _)
  refine @den_scons _ _ _ _ _ _ _ ?_ ?_
  refine @den_assign _ _ _ _ _ _ _ _ ok0 12 rfl ?_ (by intros; rfl)
  exact (@den_bin _ _ _ _ _ _ _ _ _ _ _ op_sub (@den_bin _ _ _ _ _ _ _ _ _ _ _ op_add (@den_flt _ _ _ _ 4616189618054758400 _ _) (@den_var _ _ _ _ 10 _ _ rfl (by decide +kernel)) (by decide)) (@den_var _ _ _ _ 9 _ _ rfl (by decide +kernel)) (by decide))
  exact (@den_snil _ _ _)
  exact (@den_snil _ _ _)
  refine @den_scons _ _ _ _ _ _ _ ?_ ?_
  refine @den_assign _ _ _ _ _ _ _ _ ok0 12 rfl ?_ (by intros; rfl)
  exact (@den_bin _ _ _ _ _ _ _ _ _ _ _ op_mod (@den_bin _ _ _ _ _ _ _ _ _ _ _ op_div (@den_var _ _ _ _ 12 _ _ rfl (by decide +kernel)) (@den_flt _ _ _ _ 4618441417868443648 _ _) (by decide)) (@den_flt _ _ _ _ 4607182418800017408 _ _) (by decide))
  refine @den_scons _ _ _ _ _ _ _ ?_ ?_
  refine @den_ret _ _ _ _ _ _ ok0 ?_
  exact (@den_tup _ _ _ _ _ _ _ _ (@den_lcons _ _ _ _ _ _ _ _ (@den_var _ _ _ _ 12 _ _ rfl (by decide +kernel)) (@den_lcons _ _ _ _ _ _ _ _ (@den_var _ _ _ _ 7 _ _ rfl (by decide +kernel)) (@den_lcons _ _ _ _ _ _ _ _ (@den_var _ _ _ _ 8 _ _ rfl (by decide +kernel)) (@den_lnil _ _ _ _) (by intros; rfl)) (by intros; rfl)) (by intros; rfl)))
  exact (@den_snil _ _ _)
noncomputable def f0 : List D → Option D := fnD 3 13 b0
theorem fn0 : FnDen T0 320 "rgb_to_hls" f0 := fn_of (c := c0) (ps := ["r", "g", "b"]) (rest := ["maxc", "minc", "sumc", "rangec", "l", "s", "rc", "gc", "bc", "h"]) ok0 rfl (item_mem 0 (by decide)) rfl (fun pm cd doc vs h => by match vs, h with | [a0, a1, a2], _ => rfl) rfl rfl den0

noncomputable def c1 : FC := ⟨"hsv_to_rgb", (itemAt 1).scope, ["h", "s", "v", "i", "f", "p", "q", "t"], ⟨["int"], []⟩⟩
theorem ok1 : c1.Ok := FC.ok_of (by decide +kernel)
noncomputable abbrev b1 : List D → Option (Fl × List D) := (sSeq (sIf (tOf (eBin dEq (eVar 1) (fun _ => some (.flt 0)))) (sSeq (sRet (eTup (lCons (eVar 2) (lCons (eVar 2) (lCons (eVar 2) lNil))))) sNil) sNil) (sSeq (sAssign 3 (eCall dInt (lCons (eBin dMul (eVar 0) (fun _ => some (.flt 4618441417868443648))) lNil))) (sSeq (sAssign 4 (eBin dSub (eBin dMul (eVar 0) (fun _ => some (.flt 4618441417868443648))) (eVar 3))) (sSeq (sAssign 5 (eBin dMul (eVar 2) (eBin dSub (fun _ => some (.flt 4607182418800017408)) (eVar 1)))) (sSeq (sAssign 6 (eBin dMul (eVar 2) (eBin dSub (fun _ => some (.flt 4607182418800017408)) (eBin dMul (eVar 1) (eVar 4))))) (sSeq (sAssign 7 (eBin dMul (eVar 2) (eBin dSub (fun _ => some (.flt 4607182418800017408)) (eBin dMul (eVar 1) (eBin dSub (fun _ => some (.flt 4607182418800017408)) (eVar 4)))))) (sSeq (sAssign 3 (eBin dMod (eVar 3) (fun _ => some (.int 6)))) (sSeq (sIf (tOf (eBin dEq (eVar 3) (fun _ => some (.int 0)))) (sSeq (sRet (eTup (lCons (eVar 2) (lCons (eVar 7) (lCons (eVar 5) lNil))))) sNil) sNil) (sSeq (sIf (tOf (eBin dEq (eVar 3) (fun _ => some (.int 1)))) (sSeq (sRet (eTup (lCons (eVar 6) (lCons (eVar 2) (lCons (eVar 5) lNil))))) sNil) sNil) (sSeq (sIf (tOf (eBin dEq (eVar 3) (fun _ => some (.int 2)))) (sSeq (sRet (eTup (lCons (eVar 5) (lCons (eVar 2) (lCons (eVar 7) lNil))))) sNil) sNil) (sSeq (sIf (tOf (eBin dEq (eVar 3) (fun _ => some (.int 3)))) (sSeq (sRet (eTup (lCons (eVar 5) (lCons (eVar 6) (lCons (eVar 2) lNil))))) sNil) sNil) (sSeq (sIf (tOf (eBin dEq (eVar 3) (fun _ => some (.int 4)))) (sSeq (sRet (eTup (lCons (eVar 7) (lCons (eVar 5) (lCons (eVar 2) lNil))))) sNil) sNil) (sSeq (sIf (tOf (eBin dEq (eVar 3) (fun _ => some (.int 5)))) (sSeq (sRet (eTup (lCons (eVar 2) (lCons (eVar 5) (lCons (eVar 6) lNil))))) sNil) sNil) sNil)))))))))))))
set_option maxHeartbeats 4000000 in
theorem den1 : DenS T0 321 c1 (itemAt 1).body b1 := by
  refine @den_scons _ _ _ _ _ _ _ ?_ ?_
  refine @den_if _ _ _ _ _ _ _ _ _ _ ok1 ?_ ?_ ?_
  exact (@den_tcmp _ _ _ _ _ _ _ _ _ _ _ op_eq (@den_var _ _ _ _ 1 _ _ rfl (by decide +kernel)) (@den_flt _ _ _ _ 0 _ _) (by with_unfolding_all rfl) (by decide))
  refine @den_scons _ _ _ _ _ _ _ ?_ ?_
  refine @den_ret _ _ _ _ _ _ ok1 ?_
  exact (@den_tup _ _ _ _ _ _ _ _ (@den_lcons _ _ _ _ _ _ _ _ (@den_var _ _ _ _ 2 _ _ rfl (by decide +kernel)) (@den_lcons _ _ _ _ _ _ _ _ (@den_var _ _ _ _ 2 _ _ rfl (by decide +kernel)) (@den_lcons _ _ _ _ _ _ _ _ (@den_var _ _ _ _ 2 _ _ rfl (by decide +kernel)) (@den_lnil _ _ _ _) (by intros; rfl)) (by intros; rfl)) (by intros; rfl)))
  exact (@den_snil _ _ _)
  exact (@den_snil _ _ _)
  refine @den_scons _ _ _ _ _ _ _ ?_ ?_
  refine @den_assign _ _ _ _ _ _ _ _ ok1 3 rfl ?_ (by intros; rfl)
  exact (@den_type _ _ _ _ _ _ _ _ _ _ _ _ (b_int (by decide +kernel)) call_int (@den_lcons _ _ _ _ _ _ _ _ (@den_bin _ _ _ _ _ _ _ _ _ _ _ op_mul (@den_var _ _ _ _ 0 _ _ rfl (by decide +kernel)) (@den_flt _ _ _ _ 4618441417868443648 _ _) (by decide)) (@den_lnil _ _ _ _) (by intros; rfl)) (by intros; rfl) (by intros; rfl) (by decide))
  refine @den_scons _ _ _ _ _ _ _ ?_ ?_
  refine @den_assign _ _ _ _ _ _ _ _ ok1 4 rfl ?_ (by intros; rfl)
  exact (@den_bin _ _ _ _ _ _ _ _ _ _ _ op_sub (@den_bin _ _ _ _ _ _ _ _ _ _ _ op_mul (@den_var _ _ _ _ 0 _ _ rfl (by decide +kernel)) (@den_flt _ _ _ _ 4618441417868443648 _ _) (by decide)) (@den_var _ _ _ _ 3 _ _ rfl (by decide +kernel)) (by decide))
  refine @den_scons _ _ _ _ _ _ _ ?_ ?_
  refine @den_assign _ _ _ _ _ _ _ _ ok1 5 rfl ?_ (by intros; rfl)
  exact (@den_bin _ _ _ _ _ _ _ _ _ _ _ op_mul (@den_var _ _ _ _ 2 _ _ rfl (by decide +kernel)) (@den_bin _ _ _ _ _ _ _ _ _ _ _ op_sub (@den_flt _ _ _ _ 4607182418800017408 _ _) (@den_var _ _ _ _ 1 _ _ rfl (by decide +kernel)) (by decide)) (by decide))
  refine @den_scons _ _ _ _ _ _ _ ?_ ?_
  refine @den_assign _ _ _ _ _ _ _ _ ok1 6 rfl ?_ (by intros; rfl)
  exact (@den_bin _ _ _ _ _ _ _ _ _ _ _ op_mul (@den_var _ _ _ _ 2 _ _ rfl (by decide +kernel)) (@den_bin _ _ _ _ _ _ _ _ _ _ _ op_sub (@den_flt _ _ _ _ 4607182418800017408 _ _) (@den_bin _ _ _ _ _ _ _ _ _ _ _ op_mul (@den_var _ _ _ _ 1 _ _ rfl (by decide +kernel)) (@den_var _ _ _ _ 4 _ _ rfl (by decide +kernel)) (by decide)) (by decide)) (by decide))
  refine @den_scons _ _ _ _ _ _ _ ?_ ?_
  refine @den_assign _ _ _ _ _ _ _ _ ok1 7 rfl ?_ (by intros; rfl)
  exact (@den_bin _ _ _ _ _ _ _ _ _ _ _ op_mul (@den_var _ _ _ _ 2 _ _ rfl (by decide +kernel)) (@den_bin _ _ _ _ _ _ _ _ _ _ _ op_sub (@den_flt _ _ _ _ 4607182418800017408 _ _) (@den_bin _ _ _ _ _ _ _ _ _ _ _ op_mul (@den_var _ _ _ _ 1 _ _ rfl (by decide +kernel)) (@den_bin _ _ _ _ _ _ _ _ _ _ _ op_sub (@den_flt _ _ _ _ 4607182418800017408 _ _) (@den_var _ _ _ _ 4 _ _ rfl (by decide +kernel)) (by decide)) (by decide)) (by decide)) (by decide))
  refine @den_scons _ _ _ _ _ _ _ ?_ ?_
  refine @den_assign _ _ _ _ _ _ _ _ ok1 3 rfl ?_ (by intros; rfl)
  exact (@den_bin _ _ _ _ _ _ _ _ _ _ _ op_mod (@den_var _ _ _ _ 3 _ _ rfl (by decide +kernel)) (@den_int _ _ _ _ 6 _ _) (by decide))
  refine @den_scons _ _ _ _ _ _ _ ?_ ?_
  refine @den_if _ _ _ _ _ _ _ _ _ _ ok1 ?_ ?_ ?_
  exact (@den_tcmp _ _ _ _ _ _ _ _ _ _ _ op_eq (@den_var _ _ _ _ 3 _ _ rfl (by decide +kernel)) (@den_int _ _ _ _ 0 _ _) (by with_unfolding_all rfl) (by decide))
  refine @den_scons _ _ _ _ _ _ _ ?_ ?_
  refine @den_ret _ _ _ _ _ _ ok1 ?_
  exact (@den_tup _ _ _ _ _ _ _ _ (@den_lcons _ _ _ _ _ _ _ _ (@den_var _ _ _ _ 2 _ _ rfl (by decide +kernel)) (@den_lcons _ _ _ _ _ _ _ _ (@den_var _ _ _ _ 7 _ _ rfl (by decide +kernel)) (@den_lcons _ _ _ _ _ _ _ _ (@den_var _ _ _ _ 5 _ _ rfl (by decide +kernel)) (@den_lnil _ _ _ _) (by intros; rfl)) (by intros; rfl)) (by intros; rfl)))
  exact (@den_snil _ _ _)
  exact (@den_snil _ _ _)
  refine @den_scons _ _ _ _ _ _ _ ?_ ?_
  refine @den_if _ _ _ _ _ _ _ _ _ _ ok1 ?_ ?_ ?_
  exact (@den_tcmp _ _ _ _ _ _ _ _ _ _ _ op_eq (@den_var _ _ _ _ 3 _ _ rfl (by decide +kernel)) (@den_int _ _ _ _ 1 _ _) (by with_unfolding_all rfl) (by decide))
  refine @den_scons _ _ _ _ _ _ _ ?_ ?_
  refine @den_ret _ _ _ _ _ _ ok1 ?_
  exact (@den_tup _ _ _ _ _ _ _ _ (@den_lcons _ _ _ _ _ _ _ _ (@den_var _ _ _ _ 6 _ _ rfl (by decide +kernel)) (@den_lcons _ _ _ _ _ _ _ _ (@den_var _ _ _ _ 2 _ _ rfl (by decide +kernel)) (@den_lcons _ _ _ _ _ _ _ _ (@den_var _ _ _ _ 5 _ _ rfl (by decide +kernel)) (@den_lnil _ _ _ _) (by intros; rfl)) (by intros; rfl)) (by intros; rfl)))
  exact (@den_snil _ _ _)
  exact (@den_snil _ _ _)
  refine @den_scons _ _ _ _ _ _ _ ?_ ?_
  refine @den_if _ _ _ _ _ _ _ _ _ _ ok1 ?_ ?_ ?_
  exact (@den_tcmp _ _ _ _ _ _ _ _ _ _ _ op_eq (@den_var _ _ _ _ 3 _ _ rfl (by decide +kernel)) (@den_int _ _ _ _ 2 _ _) (by with_unfolding_all rfl) (by decide))
  refine @den_scons _ _ _ _ _ _ _ ?_ ?_
  refine @den_ret _ _ _ _ _ _ ok1 ?_
  exact (@den_tup _ _ _ _ _ _ _ _ (@den_lcons _ _ _ _ _ _ _ _ (@den_var _ _ _ _ 5 _ _ rfl (by decide +kernel)) (@den_lcons _ _ _ _ _ _ _ _ (@den_var _ _ _ _ 2 _ _ rfl (by decide +kernel)) (@den_lcons _ _ _ _ _ _ _ _ (@den_var _ _ _ _ 7 _ _ rfl (by decide +kernel)) (@den_lnil _ _ _ _) (by intros; rfl)) (by intros; rfl)) (by intros; rfl)))
  exact (@den_snil _ _ _)
  exact (@den_snil _ _ _)
  refine @den_scons _ _ _ _ _ _ _ ?_ ?_
  refine @den_if _ _ _ _ _ _ _ _ _ _ ok1 ?_ ?_ ?_
  exact (@den_tcmp _ _ _ _ _ _ _ _ _ _ _ op_eq (@den_var _ _ _ _ 3 _ _ rfl (by decide +kernel)) (@den_int _ _ _ _ 3 _ _) (by with_unfolding_all rfl) (by decide))
  refine @den_scons _ _ _ _ _ _ _ ?_ ?_
  refine @den_ret _ _ _ _ _ _ ok1 ?_
  exact (@den_tup _ _ _ _ _ _ _ _ (@den_lcons _ _ _ _ _ _ _ _ (@den_var _ _ _ _ 5 _ _ rfl (by decide +kernel)) (@den_lcons _ _ _ _ _ _ _ _ (@den_var _ _ _ _ 6 _ _ rfl (by decide +kernel)) (@den_lcons _ _ _ _ _ _ _ _ (@den_var _ _ _ _ 2 _ _ rfl (by decide +kernel)) (@den_lnil _ _ _ _) (by intros; rfl)) (by intros; rfl)) (by intros; rfl)))
  exact (@den_snil _ _ _)
  exact (@den_snil _ _ _)
  refine @den_scons _ _ _ _ _ _ _ ?_ ?_
  refine @den_if _ _ _ _ _ _ _ _ _ _ ok1 ?_ ?_ ?_
  exact (@den_tcmp _ _ _ _ _ _ _ _ _ _ _ op_eq (@den_var _ _ _ _ 3 _ _ rfl (by decide +kernel)) (@den_int _ _ _ _ 4 _ _) (by with_unfolding_all rfl) (by decide))
  refine @den_scons _ _ _ _ _ _ _ ?_ ?_
  refine @den_ret _ _ _ _ _ _ ok1 ?_
  exact (@den_tup _ _ _ _ _ _ _ _ (@den_lcons _ _ _ _ _ _ _ _ (@den_var _ _ _ _ 7 _ _ rfl (by decide +kernel)) (@den_lcons _ _ _ _ _ _ _ _ (@den_var _ _ _ _ 5 _ _ rfl (by decide +kernel)) (@den_lcons _ _ _ _ _ _ _ _ (@den_var _ _ _ _ 2 _ _ rfl (by decide +kernel)) (@den_lnil _ _ _ _) (by intros; rfl)) (by intros; rfl)) (by intros; rfl)))
  exact (@den_snil _ _ _)
  exact (@den_snil _ _ _)
  refine @den_scons _ _ _ _ _ _ _ ?_ ?_
  refine @den_if _ _ _ _ _ _ _ _ _ _ ok1 ?_ ?_ ?_
  exact (@den_tcmp _ _ _ _ _ _ _ _ _ _ _ op_eq (@den_var _ _ _ _ 3 _ _ rfl (by decide +kernel)) (@den_int _ _ _ _ 5 _ _) (by with_unfolding_all rfl) (by decide))
  refine @den_scons _ _ _ _ _ _ _ ?_ ?_
  refine @den_ret _ _ _ _ _ _ ok1 ?_
  exact (@den_tup _ _ _ _ _ _ _ _ (@den_lcons _ _ _ _ _ _ _ _ (@den_var _ _ _ _ 2 _ _ rfl (by decide +kernel)) (@den_lcons _ _ _ _ _ _ _ _ (@den_var _ _ _ _ 5 _ _ rfl (by decide +kernel)) (@den_lcons _ _ _ _ _ _ _ _ (@den_var _ _ _ _ 6 _ _ rfl (by decide +kernel)) (@den_lnil _ _ _ _) (by intros; rfl)) (by intros; rfl)) (by intros; rfl)))
  exact (@den_snil _ _ _)
  exact (@den_snil _ _ _)
  exact (@den_snil _ _ _)
noncomputable def f1 : List D → Option D := fnD 3 8 b1
theorem fn1 : FnDen T0 320 "hsv_to_rgb" f1 := fn_of (c := c1) (ps := ["h", "s", "v"]) (rest := ["i", "f", "p", "q", "t"]) ok1 rfl (item_mem 1 (by decide)) rfl (fun pm cd doc vs h => by match vs, h with | [a0, a1, a2], _ => rfl) rfl rfl den1

noncomputable def c2 : FC := ⟨"pretty_flags", (itemAt 2).scope, ["flags", "names", "i", "flag"], ⟨["COMPILER_FLAG_NAMES", "hex", "range"], []⟩⟩
theorem ok2 : c2.Ok := FC.ok_of (by decide +kernel)
noncomputable abbrev b2 : List D → Option (Fl × List D) := (sSeq (sAssignOwn 1 []) (sSeq (sFor (setK 2) (eCall dRange (lCons (fun _ => some (.int 32)) lNil)) (sSeq (sAssign 3 (eBin dLShift (fun _ => some (.int 1)) (eVar 2))) (sSeq (sIf (tOf (eBin dAnd (eVar 0) (eVar 3))) (sSeq (sAppend 1 (eCall (get2 flagTab) (lCons (eVar 3) (lCons (eCall dHex (lCons (eVar 3) lNil)) lNil)))) (sSeq (sAug 0 dXor (eVar 3)) (sSeq (sIf (tNot (tOf (eVar 0))) (sSeq sBrk sNil) sNil) sNil))) sNil) sNil)) (sSeq (sAppend 1 (eCall dHex (lCons (eVar 0) lNil))) sNil)) (sRel 1 (sSeq (sRet (eCall dJoin (lCons (fun _ => some (.str ", ")) (lCons (eVar 1) lNil)))) sNil))))
set_option maxHeartbeats 4000000 in
theorem den2 : DenS T0 321 c2 (itemAt 2).body b2 := by
  refine @den_scons _ _ _ _ _ _ _ ?_ ?_
  exact @den_assignOwn _ _ _ _ _ _ _ _ _ ok2 1 rfl .nil (by decide) (by intros; rfl)
  refine @den_scons _ _ _ _ _ _ _ ?_ ?_
  refine @den_for _ _ _ _ _ _ _ _ _ _ _ _ ok2 (@asg_name _ _ _ _ _ ok2 2 rfl) ?_ ?_ ?_ (by intros; rfl)
  exact (@den_type _ _ _ _ _ _ _ _ _ _ _ _ (b_range (by decide +kernel)) call_range (@den_lcons _ _ _ _ _ _ _ _ (@den_int _ _ _ _ 32 _ _) (@den_lnil _ _ _ _) (by intros; rfl)) (by intros; rfl) (by intros; rfl) (by decide))
  refine @den_scons _ _ _ _ _ _ _ ?_ ?_
  refine @den_assign _ _ _ _ _ _ _ _ ok2 3 rfl ?_ (by intros; rfl)
  exact (@den_bin _ _ _ _ _ _ _ _ _ _ _ op_lshift (@den_int _ _ _ _ 1 _ _) (@den_var _ _ _ _ 2 _ _ rfl (by decide +kernel)) (by decide))
  refine @den_scons _ _ _ _ _ _ _ ?_ ?_
  refine @den_if _ _ _ _ _ _ _ _ _ _ ok2 ?_ ?_ ?_
  exact (@den_tplain _ _ _ _ _ _ (@den_bin _ _ _ _ _ _ _ _ _ _ _ op_and (@den_var _ _ _ _ 0 _ _ rfl (by decide +kernel)) (@den_var _ _ _ _ 3 _ _ rfl (by decide +kernel)) (by decide)) (by intros; rfl))
  refine @den_scons _ _ _ _ _ _ _ ?_ ?_
  exact @den_append _ _ _ _ _ _ _ _ _ _ ok2 1 rfl (@den_get2 _ _ _ _ _ _ _ _ _ _ _ _ (by decide +kernel) flagTab_mem (by decide +kernel) (@den_lcons _ _ _ _ _ _ _ _ (@den_var _ _ _ _ 3 _ _ rfl (by decide +kernel)) (@den_lcons _ _ _ _ _ _ _ _ (@den_builtin _ _ _ _ _ _ _ _ _ _ _ _ (b_hex (by decide +kernel)) call_hex (@den_lcons _ _ _ _ _ _ _ _ (@den_var _ _ _ _ 3 _ _ rfl (by decide +kernel)) (@den_lnil _ _ _ _) (by intros; rfl)) (by intros; rfl) (by intros; rfl) (by decide)) (@den_lnil _ _ _ _) (by intros; rfl)) (by intros; rfl)) _ (by intros; rfl) (by intros; rfl) (by intros; rfl)) _ (by intros; rfl) (by intros; rfl) (by decide +kernel) (by intros; rfl) (by intros; rfl)
  refine @den_scons _ _ _ _ _ _ _ ?_ ?_
  refine @den_aug _ _ _ _ _ _ _ _ _ _ ok2 0 rfl op_ixor ?_ (by decide)
  exact (@den_var _ _ _ _ 3 _ _ rfl (by decide +kernel))
  refine @den_scons _ _ _ _ _ _ _ ?_ ?_
  refine @den_if _ _ _ _ _ _ _ _ _ _ ok2 ?_ ?_ ?_
  exact (@den_tnot _ _ _ _ _ _ _ (@den_tplain _ _ _ _ _ _ (@den_var _ _ _ _ 0 _ _ rfl (by decide +kernel)) (by intros; rfl)))
  refine @den_scons _ _ _ _ _ _ _ ?_ ?_
  exact (@den_brk _ _ _ _)
  exact (@den_snil _ _ _)
  exact (@den_snil _ _ _)
  exact (@den_snil _ _ _)
  exact (@den_snil _ _ _)
  exact (@den_snil _ _ _)
  refine @den_scons _ _ _ _ _ _ _ ?_ ?_
  exact @den_append _ _ _ _ _ _ _ _ _ _ ok2 1 rfl (@den_builtin _ _ _ _ _ _ _ _ _ _ _ _ (b_hex (by decide +kernel)) call_hex (@den_lcons _ _ _ _ _ _ _ _ (@den_var _ _ _ _ 0 _ _ rfl (by decide +kernel)) (@den_lnil _ _ _ _) (by intros; rfl)) (by intros; rfl) (by intros; rfl) (by decide)) _ (by intros; rfl) (by intros; rfl) (by decide +kernel) (by intros; rfl) (by intros; rfl)
  exact (@den_snil _ _ _)
  refine @den_rel _ _ _ _ _ 1 ?_
  refine @den_scons _ _ _ _ _ _ _ ?_ ?_
  refine @den_ret _ _ _ _ _ _ ok2 ?_
  exact (@den_meth _ _ _ _ _ _ _ _ _ _ _ _ _ _ m_join (@den_str _ _ _ _ ", " _ _) (@den_lcons _ _ _ _ _ _ _ _ (@den_var _ _ _ _ 1 _ _ rfl (by decide +kernel)) (@den_lnil _ _ _ _) (by intros; rfl)) _ (by intros; rfl) (by intros; rfl) (by intros; rfl) (by decide))
  exact (@den_snil _ _ _)
noncomputable def f2 : List D → Option D := fnD 1 4 b2
theorem fn2 : FnDen T0 320 "pretty_flags" f2 := fn_of (c := c2) (ps := ["flags"]) (rest := ["names", "i", "flag"]) ok2 rfl (item_mem 2 (by decide)) rfl (fun pm cd doc vs h => by match vs, h with | [a0], _ => rfl) rfl rfl den2

noncomputable def c3 : FC := ⟨"in_table_b1", (itemAt 3).scope, ["code"], ⟨["b1_set", "ord"], []⟩⟩
theorem ok3 : c3.Ok := FC.ok_of (by decide +kernel)
noncomputable abbrev b3 : List D → Option (Fl × List D) := (sSeq (sRet (eInSet b1S (eCall dOrd (lCons (eVar 0) lNil)))) sNil)
set_option maxHeartbeats 4000000 in
theorem den3 : DenS T0 321 c3 (itemAt 3).body b3 := by
  refine @den_scons _ _ _ _ _ _ _ ?_ ?_
  refine @den_ret _ _ _ _ _ _ ok3 ?_
  exact (@den_inset _ _ _ _ _ _ _ _ _ _ (by decide +kernel) set_mem (by decide +kernel) (@den_builtin _ _ _ _ _ _ _ _ _ _ _ _ (b_ord (by decide +kernel)) call_ord (@den_lcons _ _ _ _ _ _ _ _ (@den_var _ _ _ _ 0 _ _ rfl (by decide +kernel)) (@den_lnil _ _ _ _) (by intros; rfl)) (by intros; rfl) (by intros; rfl) (by decide)) (by with_unfolding_all rfl))
  exact (@den_snil _ _ _)
noncomputable def f3 : List D → Option D := fnD 1 1 b3
theorem fn3 : FnDen T0 320 "in_table_b1" f3 := fn_of (c := c3) (ps := ["code"]) (rest := []) ok3 rfl (item_mem 3 (by decide)) rfl (fun pm cd doc vs h => by match vs, h with | [a0], _ => rfl) rfl rfl den3

noncomputable def c4 : FC := ⟨"map_table_b3", (itemAt 4).scope, ["code", "r"], ⟨["b3_exceptions", "ord"], []⟩⟩
theorem ok4 : c4.Ok := FC.ok_of (by decide +kernel)
noncomputable abbrev b4 : List D → Option (Fl × List D) := (sSeq (sAssign 1 (eCall (get1 b3Tab) (lCons (eCall dOrd (lCons (eVar 0) lNil)) lNil))) (sSeq (sIf (tOf (eBin dIsNot (eVar 1) (fun _ => some .none))) (sSeq (sRet (eVar 1)) sNil) sNil) (sSeq (sRet (eCall dLower (lCons (eVar 0) lNil))) sNil)))
set_option maxHeartbeats 4000000 in
theorem den4 : DenS T0 321 c4 (itemAt 4).body b4 := by
  refine @den_scons _ _ _ _ _ _ _ ?_ ?_
  refine @den_assign _ _ _ _ _ _ _ _ ok4 1 rfl ?_ (by intros; rfl)
  exact (@den_get1 _ _ _ _ _ _ _ _ _ _ _ (by decide +kernel) b3Tab_mem (by decide +kernel) (@den_lcons _ _ _ _ _ _ _ _ (@den_builtin _ _ _ _ _ _ _ _ _ _ _ _ (b_ord (by decide +kernel)) call_ord (@den_lcons _ _ _ _ _ _ _ _ (@den_var _ _ _ _ 0 _ _ rfl (by decide +kernel)) (@den_lnil _ _ _ _) (by intros; rfl)) (by intros; rfl) (by intros; rfl) (by decide)) (@den_lnil _ _ _ _) (by intros; rfl)) _ (by intros; rfl) (by intros; rfl) (by intros; rfl))
  refine @den_scons _ _ _ _ _ _ _ ?_ ?_
  refine @den_if _ _ _ _ _ _ _ _ _ _ ok4 ?_ ?_ ?_
  exact (@den_tcmp _ _ _ _ _ _ _ _ _ _ _ op_isnot (@den_var _ _ _ _ 1 _ _ rfl (by decide +kernel)) (@den_none _ _ _ _ _ _) (by with_unfolding_all rfl) (by decide))
  refine @den_scons _ _ _ _ _ _ _ ?_ ?_
  refine @den_ret _ _ _ _ _ _ ok4 ?_
  exact (@den_var _ _ _ _ 1 _ _ rfl (by decide +kernel))
  exact (@den_snil _ _ _)
  exact (@den_snil _ _ _)
  refine @den_scons _ _ _ _ _ _ _ ?_ ?_
  refine @den_ret _ _ _ _ _ _ ok4 ?_
  exact (@den_meth0 _ _ _ _ _ _ _ _ _ _ _ m_lower (@den_var _ _ _ _ 0 _ _ rfl (by decide +kernel)) _ (by intros; rfl) (by decide))
  exact (@den_snil _ _ _)
noncomputable def f4 : List D → Option D := fnD 1 2 b4
theorem fn4 : FnDen T0 320 "map_table_b3" f4 := fn_of (c := c4) (ps := ["code"]) (rest := ["r"]) ok4 rfl (item_mem 4 (by decide)) rfl (fun pm cd doc vs h => by match vs, h with | [a0], _ => rfl) rfl rfl den4

noncomputable def c5 : FC := ⟨"_law_heaps", (itemAt 5).scope, ["script", "heaps", "place", "number"], ⟨["enumerate"], []⟩⟩
theorem ok5 : c5.Ok := FC.ok_of (by decide +kernel)
noncomputable abbrev b5 : List D → Option (Fl × List D) := (sSeq (sAssignOwn 1 [.int 21541, .int 9077, .int 1559798674]) (sSeq (sForEnum (setPair 2 3) (eBin dUpto (eVar 0) (fun _ => some (.int 63))) (sSeq (sAugIdx 1 (eBin dMod (eVar 2) (fun _ => some (.int 3))) (eBin dMod (eVar 3) (eBin dPow (fun _ => some (.int 10)) (fun _ => some (.int 12))))) sNil)) (sRel 1 (sSeq (sRet (eVar 1)) sNil))))
set_option maxHeartbeats 4000000 in
theorem den5 : DenS T0 321 c5 (itemAt 5).body b5 := by
  refine @den_scons _ _ _ _ _ _ _ ?_ ?_
  exact @den_assignOwn _ _ _ _ _ _ _ _ _ ok5 1 rfl (.int _ _ _ (.int _ _ _ (.int _ _ _ .nil))) (by decide) (by intros; rfl)
  refine @den_scons _ _ _ _ _ _ _ ?_ ?_
  refine @den_forenum _ _ _ _ _ _ _ _ _ _ _ _ _ _ ok5 (@asg_pair _ _ _ _ _ _ _ _ _ ok5 2 3 rfl rfl) (b_enumerate (by decide +kernel)) ?_ ?_ (by intros; rfl) (by intros; rfl)
  exact (@den_slice_hi _ _ _ _ _ _ _ _ _ _ (@den_var _ _ _ _ 0 _ _ rfl (by decide +kernel)) (@den_int _ _ _ _ 63 _ _))
  refine @den_scons _ _ _ _ _ _ _ ?_ ?_
  refine @den_augidx _ _ _ _ _ _ _ _ _ _ _ ok5 1 rfl ?_ ?_ (by intros; rfl) (by decide +kernel)
  exact (@den_bin _ _ _ _ _ _ _ _ _ _ _ op_mod (@den_var _ _ _ _ 2 _ _ rfl (by decide +kernel)) (@den_int _ _ _ _ 3 _ _) (by decide))
  exact (@den_bin _ _ _ _ _ _ _ _ _ _ _ op_mod (@den_var _ _ _ _ 3 _ _ rfl (by decide +kernel)) (@den_bin _ _ _ _ _ _ _ _ _ _ _ op_pow (@den_int _ _ _ _ 10 _ _) (@den_int _ _ _ _ 12 _ _) (by decide)) (by decide))
  exact (@den_snil _ _ _)
  refine @den_rel _ _ _ _ _ 1 ?_
  refine @den_scons _ _ _ _ _ _ _ ?_ ?_
  refine @den_ret _ _ _ _ _ _ ok5 ?_
  exact (@den_var _ _ _ _ 1 _ _ rfl (by decide +kernel))
  exact (@den_snil _ _ _)
noncomputable def f5 : List D → Option D := fnD 1 4 b5
theorem fn5 : FnDen T0 320 "_law_heaps" f5 := fn_of (c := c5) (ps := ["script"]) (rest := ["heaps", "place", "number"]) ok5 rfl (item_mem 5 (by decide)) rfl (fun pm cd doc vs h => by match vs, h with | [a0], _ => rfl) rfl rfl den5

noncomputable def c6 : FC := ⟨"_law_names", (itemAt 6).scope, ["shift", "names"], ⟨["range"], []⟩⟩
theorem ok6 : c6.Ok := FC.ok_of (by decide +kernel)
noncomputable abbrev b6 : List D → Option (Fl × List D) := (sSeq (sAssignOwn 1 [.str "OPTIMIZED", .str "NEWLOCALS", .str "VARARGS", .str "VARKEYWORDS", .str "NESTED", .str "GENERATOR", .str "NOFREE"]) (sSeq (sAugList 1 (eList (lCons (fun _ => some (.str "COROUTINE")) (lCons (fun _ => some (.str "ITERABLE_COROUTINE")) (lCons (fun _ => some (.str "ASYNC_GENERATOR")) lNil))))) (sRel 1 (sSeq (sRet (eTri dSlice (eBin dAdd (eVar 1) (eComp [] (eCall dRange (lCons (fun _ => some (.int 10)) (lCons (eBin dAdd (eVar 0) (fun _ => some (.int 8))) lNil))) (fun _ => some true) (eCall dHex (lCons (eBin dPow (fun _ => some (.int 2)) (eVar 0)) lNil)))) (eVar 0) (eBin dAdd (eVar 0) (fun _ => some (.int 8))))) sNil))))
set_option maxHeartbeats 4000000 in
theorem den6 : DenS T0 321 c6 (itemAt 6).body b6 := by
  refine @den_scons _ _ _ _ _ _ _ ?_ ?_
  exact @den_assignOwn _ _ _ _ _ _ _ _ _ ok6 1 rfl (.str _ _ _ (.str _ _ _ (.str _ _ _ (.str _ _ _ (.str _ _ _ (.str _ _ _ (.str _ _ _ .nil))))))) (by decide) (by intros; rfl)
  refine @den_scons _ _ _ _ _ _ _ ?_ ?_
  refine @den_auglist _ _ _ _ _ _ _ _ ok6 1 rfl ?_
  exact (@den_list _ _ _ _ _ _ _ (@den_lcons _ _ _ _ _ _ _ _ (@den_str _ _ _ _ "COROUTINE" _ _) (@den_lcons _ _ _ _ _ _ _ _ (@den_str _ _ _ _ "ITERABLE_COROUTINE" _ _) (@den_lcons _ _ _ _ _ _ _ _ (@den_str _ _ _ _ "ASYNC_GENERATOR" _ _) (@den_lnil _ _ _ _) (by intros; rfl)) (by intros; rfl)) (by intros; rfl)))
  refine @den_rel _ _ _ _ _ 1 ?_
  refine @den_scons _ _ _ _ _ _ _ ?_ ?_
  refine @den_ret _ _ _ _ _ _ ok6 ?_
  exact (@den_slice _ _ _ _ _ _ _ _ _ _ _ _ (@den_bin _ _ _ _ _ _ _ _ _ _ _ op_add (@den_var _ _ _ _ 1 _ _ rfl (by decide +kernel)) (@den_comp _ _ _ _ _ _ _ _ _ _ _ _ _ _ [] [] ⟨["hex"], []⟩ (by decide +kernel) (by decide +kernel) (by decide +kernel) (@den_type _ _ _ _ _ _ _ _ _ _ _ _ (b_range (by decide +kernel)) call_range (@den_lcons _ _ _ _ _ _ _ _ (@den_int _ _ _ _ 10 _ _) (@den_lcons _ _ _ _ _ _ _ _ (@den_bin _ _ _ _ _ _ _ _ _ _ _ op_add (@den_var _ _ _ _ 0 _ _ rfl (by decide +kernel)) (@den_int _ _ _ _ 8 _ _) (by decide)) (@den_lnil _ _ _ _) (by intros; rfl)) (by intros; rfl)) (by intros; rfl) (by intros; rfl) (by decide)) (@den_inone _ _ _ _) (@den_builtin _ _ _ _ _ _ _ _ _ _ _ _ (b_hex (by decide +kernel)) call_hex (@den_lcons _ _ _ _ _ _ _ _ (@den_bin _ _ _ _ _ _ _ _ _ _ _ op_pow (@den_int _ _ _ _ 2 _ _) (@den_var _ _ _ _ 0 _ _ rfl (by decide +kernel)) (by decide)) (@den_lnil _ _ _ _) (by intros; rfl)) (by intros; rfl) (by intros; rfl) (by decide)) (by intros; rfl)) (by decide)) (@den_var _ _ _ _ 0 _ _ rfl (by decide +kernel)) (@den_bin _ _ _ _ _ _ _ _ _ _ _ op_add (@den_var _ _ _ _ 0 _ _ rfl (by decide +kernel)) (@den_int _ _ _ _ 8 _ _) (by decide)))
  exact (@den_snil _ _ _)
noncomputable def f6 : List D → Option D := fnD 1 2 b6
theorem fn6 : FnDen T0 320 "_law_names" f6 := fn_of (c := c6) (ps := ["shift"]) (rest := ["names"]) ok6 rfl (item_mem 6 (by decide)) rfl (fun pm cd doc vs h => by match vs, h with | [a0], _ => rfl) rfl rfl den6

noncomputable def c7 : FC := ⟨"_law_words", (itemAt 7).scope, ["names", "crowd", "told"], ⟨["range"], ["names", "crowd"]⟩⟩
theorem ok7 : c7.Ok := FC.ok_of (by decide +kernel)
noncomputable abbrev b7 : List D → Option (Fl × List D) := (sSeq (sAssign 2 (eComp [0, 1] (eCall dRange (lCons (fun _ => some (.int 8)) lNil)) (tOf (eBin dAnd (eBin dRShift (eVar 2) (eVar 0)) (fun _ => some (.int 1)))) (eBin dIdx (eVar 1) (eVar 0)))) (sSeq (sRet (eIf (tOf (eBin dNe (eVar 2) (eList lNil))) (eCall dJoin (lCons (fun _ => some (.str ", ")) (lCons (eVar 2) lNil))) (fun _ => some (.str "0x0")))) sNil))
set_option maxHeartbeats 4000000 in
theorem den7 : DenS T0 321 c7 (itemAt 7).body b7 := by
  refine @den_scons _ _ _ _ _ _ _ ?_ ?_
  exact @den_acomp _ _ _ _ _ _ _ _ _ _ _ _ _ _ _ _ ok7 2 rfl [0, 1] ["names", "crowd"] ⟨[], []⟩ (by decide +kernel) (by decide +kernel) (by decide +kernel) (@den_type _ _ _ _ _ _ _ _ _ _ _ _ (b_range (by decide +kernel)) call_range (@den_lcons _ _ _ _ _ _ _ _ (@den_int _ _ _ _ 8 _ _) (@den_lnil _ _ _ _) (by intros; rfl)) (by intros; rfl) (by intros; rfl) (by decide)) (@den_ione _ _ _ _ _ _ (@den_tplain _ _ _ _ _ _ (@den_bin _ _ _ _ _ _ _ _ _ _ _ op_and (@den_bin _ _ _ _ _ _ _ _ _ _ _ op_rshift (@den_var _ _ _ _ 2 _ _ rfl (by decide +kernel)) (@den_var _ _ _ _ 0 _ _ rfl (by decide +kernel)) (by decide)) (@den_int _ _ _ _ 1 _ _) (by decide)) (by intros; rfl))) (@den_idx _ _ _ _ _ _ _ _ _ (@den_var _ _ _ _ 1 _ _ rfl (by decide +kernel)) (@den_var _ _ _ _ 0 _ _ rfl (by decide +kernel)) (by intros; rfl)) (by intro _ _ _; rfl) (by intros; rfl)
  refine @den_scons _ _ _ _ _ _ _ ?_ ?_
  refine @den_ret _ _ _ _ _ _ ok7 ?_
  exact (@den_ife _ _ _ _ _ _ _ _ _ _ _ (@den_tcmp _ _ _ _ _ _ _ _ _ _ _ op_ne (@den_var _ _ _ _ 2 _ _ rfl (by decide +kernel)) (@den_list _ _ _ _ _ _ _ (@den_lnil _ _ _ _)) (by with_unfolding_all rfl) (by decide)) (@den_meth _ _ _ _ _ _ _ _ _ _ _ _ _ _ m_join (@den_str _ _ _ _ ", " _ _) (@den_lcons _ _ _ _ _ _ _ _ (@den_var _ _ _ _ 2 _ _ rfl (by decide +kernel)) (@den_lnil _ _ _ _) (by intros; rfl)) _ (by intros; rfl) (by intros; rfl) (by intros; rfl) (by decide)) (@den_str _ _ _ _ "0x0" _ _))
  exact (@den_snil _ _ _)
noncomputable def f7 : List D → Option D := fnD 2 3 b7
theorem fn7 : FnDen T0 320 "_law_words" f7 := fn_of (c := c7) (ps := ["names", "crowd"]) (rest := ["told"]) ok7 rfl (item_mem 7 (by decide)) rfl (fun pm cd doc vs h => by match vs, h with | [a0, a1], _ => rfl) rfl rfl den7

noncomputable def c8 : FC := ⟨"_law_typed", (itemAt 8).scope, ["words", "unseen", "turn", "text", "greats", "sign"], ⟨["chr", "ord"], []⟩⟩
theorem ok8 : c8.Ok := FC.ok_of (by decide +kernel)
noncomputable abbrev b8 : List D → Option (Fl × List D) := (sSeq (sAssign 3 (fun _ => some (.str ""))) (sSeq (sAssign 4 (eList (lCons (fun _ => some (.int 119808)) (lCons (fun _ => some (.int 119912)) (lCons (fun _ => some (.int 120016)) (lCons (fun _ => some (.int 120172)) (lCons (fun _ => some (.int 120224)) (lCons (fun _ => some (.int 120276)) (lCons (fun _ => some (.int 120328)) (lCons (fun _ => some (.int 120380)) (lCons (fun _ => some (.int 120432)) lNil))))))))))) (sSeq (sFor (setK 5) (eReplace "NO" 8470 (eReplace "ST" 64262 (eVar 0))) (sSeq (sAssign 2 (eBin dMod (eBin dAdd (eVar 2) (fun _ => some (.int 25))) (fun _ => some (.int 324)))) (sSeq (sIf (tOf (eBin dEq (eBin dMod (eVar 2) (fun _ => some (.int 12))) (fun _ => some (.int 5)))) (sSeq (sAug 3 dIAdd (eCall dChr (lCons (eBin dIdx (eVar 1) (eBin dFloorDiv (eVar 2) (fun _ => some (.int 12)))) lNil))) sNil) sNil) (sSeq (sIf (tOr (tChain dLe dLe (fun _ => some (.str "A")) (eVar 5) (fun _ => some (.str "Z"))) (tOf (eBin dEq (eVar 5) (fun _ => some (.str "x"))))) (sSeq (sAug 3 dIAdd (eCall dChr (lCons (eBin dAdd (eBin dSub (eBin dMod (eCall dOrd (lCons (eVar 5) lNil)) (fun _ => some (.int 32))) (fun _ => some (.int 1))) (eBin dIdx (eList (lCons (fun _ => some (.int 97)) (lCons (fun _ => some (.int 65)) (lCons (eBin dIdx (eVar 4) (eBin dMod (eBin dFloorDiv (eVar 2) (fun _ => some (.int 4))) (fun _ => some (.int 9)))) (lCons (eBin dIdx (eVar 4) (eBin dFloorDiv (eVar 2) (fun _ => some (.int 36)))) lNil))))) (eBin dMod (eVar 2) (fun _ => some (.int 4))))) lNil))) sNil) (sSeq (sAug 3 dIAdd (eVar 5)) sNil)) sNil))) sNil) (sSeq (sRet (eVar 3)) sNil))))
set_option maxHeartbeats 4000000 in
theorem den8 : DenS T0 321 c8 (itemAt 8).body b8 := by
  refine @den_scons _ _ _ _ _ _ _ ?_ ?_
  refine @den_assign _ _ _ _ _ _ _ _ ok8 3 rfl ?_ (by intros; rfl)
  exact (@den_str _ _ _ _ "" _ _)
  refine @den_scons _ _ _ _ _ _ _ ?_ ?_
  refine @den_assign _ _ _ _ _ _ _ _ ok8 4 rfl ?_ (by intros; rfl)
  exact (@den_list _ _ _ _ _ _ _ (@den_lcons _ _ _ _ _ _ _ _ (@den_int _ _ _ _ 119808 _ _) (@den_lcons _ _ _ _ _ _ _ _ (@den_int _ _ _ _ 119912 _ _) (@den_lcons _ _ _ _ _ _ _ _ (@den_int _ _ _ _ 120016 _ _) (@den_lcons _ _ _ _ _ _ _ _ (@den_int _ _ _ _ 120172 _ _) (@den_lcons _ _ _ _ _ _ _ _ (@den_int _ _ _ _ 120224 _ _) (@den_lcons _ _ _ _ _ _ _ _ (@den_int _ _ _ _ 120276 _ _) (@den_lcons _ _ _ _ _ _ _ _ (@den_int _ _ _ _ 120328 _ _) (@den_lcons _ _ _ _ _ _ _ _ (@den_int _ _ _ _ 120380 _ _) (@den_lcons _ _ _ _ _ _ _ _ (@den_int _ _ _ _ 120432 _ _) (@den_lnil _ _ _ _) (by intros; rfl)) (by intros; rfl)) (by intros; rfl)) (by intros; rfl)) (by intros; rfl)) (by intros; rfl)) (by intros; rfl)) (by intros; rfl)) (by intros; rfl)))
  refine @den_scons _ _ _ _ _ _ _ ?_ ?_
  refine @den_for _ _ _ _ _ _ _ _ _ _ _ _ ok8 (@asg_name _ _ _ _ _ ok8 5 rfl) ?_ ?_ ?_ (by intros; rfl)
  exact (@den_replace _ _ _ _ _ _ _ _ _ _ _ _ _ _ _ _ (b_chr (by decide +kernel)) (@den_replace _ _ _ _ _ _ _ _ _ _ _ _ _ _ _ _ (b_chr (by decide +kernel)) (@den_var _ _ _ _ 0 _ _ rfl (by decide +kernel)) _ (by intros; rfl)) _ (by intros; rfl))
  refine @den_scons _ _ _ _ _ _ _ ?_ ?_
  refine @den_assign _ _ _ _ _ _ _ _ ok8 2 rfl ?_ (by intros; rfl)
  exact (@den_bin _ _ _ _ _ _ _ _ _ _ _ op_mod (@den_bin _ _ _ _ _ _ _ _ _ _ _ op_add (@den_var _ _ _ _ 2 _ _ rfl (by decide +kernel)) (@den_int _ _ _ _ 25 _ _) (by decide)) (@den_int _ _ _ _ 324 _ _) (by decide))
  refine @den_scons _ _ _ _ _ _ _ ?_ ?_
  refine @den_if _ _ _ _ _ _ _ _ _ _ ok8 ?_ ?_ ?_
  exact (@den_tcmp _ _ _ _ _ _ _ _ _ _ _ op_eq (@den_bin _ _ _ _ _ _ _ _ _ _ _ op_mod (@den_var _ _ _ _ 2 _ _ rfl (by decide +kernel)) (@den_int _ _ _ _ 12 _ _) (by decide)) (@den_int _ _ _ _ 5 _ _) (by with_unfolding_all rfl) (by decide))
  refine @den_scons _ _ _ _ _ _ _ ?_ ?_
  refine @den_aug _ _ _ _ _ _ _ _ _ _ ok8 3 rfl op_iadd ?_ (by decide)
  exact (@den_builtin _ _ _ _ _ _ _ _ _ _ _ _ (b_chr (by decide +kernel)) call_chr (@den_lcons _ _ _ _ _ _ _ _ (@den_idx _ _ _ _ _ _ _ _ _ (@den_var _ _ _ _ 1 _ _ rfl (by decide +kernel)) (@den_bin _ _ _ _ _ _ _ _ _ _ _ op_floordiv (@den_var _ _ _ _ 2 _ _ rfl (by decide +kernel)) (@den_int _ _ _ _ 12 _ _) (by decide)) (by intros; rfl)) (@den_lnil _ _ _ _) (by intros; rfl)) (by intros; rfl) (by intros; rfl) (by decide))
  exact (@den_snil _ _ _)
  exact (@den_snil _ _ _)
  refine @den_scons _ _ _ _ _ _ _ ?_ ?_
  refine @den_if _ _ _ _ _ _ _ _ _ _ ok8 ?_ ?_ ?_
  exact (@den_tor _ _ _ _ _ _ _ _ _ (@den_tchain _ _ _ _ _ _ _ _ _ _ _ _ _ _ _ op_le op_le (@den_str _ _ _ _ "A" _ _) (@den_var _ _ _ _ 5 _ _ rfl (by decide +kernel)) (@den_str _ _ _ _ "Z" _ _) (by with_unfolding_all rfl) (by decide)) (@den_tcmp _ _ _ _ _ _ _ _ _ _ _ op_eq (@den_var _ _ _ _ 5 _ _ rfl (by decide +kernel)) (@den_str _ _ _ _ "x" _ _) (by with_unfolding_all rfl) (by decide)))
  refine @den_scons _ _ _ _ _ _ _ ?_ ?_
  refine @den_aug _ _ _ _ _ _ _ _ _ _ ok8 3 rfl op_iadd ?_ (by decide)
  exact (@den_builtin _ _ _ _ _ _ _ _ _ _ _ _ (b_chr (by decide +kernel)) call_chr (@den_lcons _ _ _ _ _ _ _ _ (@den_bin _ _ _ _ _ _ _ _ _ _ _ op_add (@den_bin _ _ _ _ _ _ _ _ _ _ _ op_sub (@den_bin _ _ _ _ _ _ _ _ _ _ _ op_mod (@den_builtin _ _ _ _ _ _ _ _ _ _ _ _ (b_ord (by decide +kernel)) call_ord (@den_lcons _ _ _ _ _ _ _ _ (@den_var _ _ _ _ 5 _ _ rfl (by decide +kernel)) (@den_lnil _ _ _ _) (by intros; rfl)) (by intros; rfl) (by intros; rfl) (by decide)) (@den_int _ _ _ _ 32 _ _) (by decide)) (@den_int _ _ _ _ 1 _ _) (by decide)) (@den_idx _ _ _ _ _ _ _ _ _ (@den_list _ _ _ _ _ _ _ (@den_lcons _ _ _ _ _ _ _ _ (@den_int _ _ _ _ 97 _ _) (@den_lcons _ _ _ _ _ _ _ _ (@den_int _ _ _ _ 65 _ _) (@den_lcons _ _ _ _ _ _ _ _ (@den_idx _ _ _ _ _ _ _ _ _ (@den_var _ _ _ _ 4 _ _ rfl (by decide +kernel)) (@den_bin _ _ _ _ _ _ _ _ _ _ _ op_mod (@den_bin _ _ _ _ _ _ _ _ _ _ _ op_floordiv (@den_var _ _ _ _ 2 _ _ rfl (by decide +kernel)) (@den_int _ _ _ _ 4 _ _) (by decide)) (@den_int _ _ _ _ 9 _ _) (by decide)) (by intros; rfl)) (@den_lcons _ _ _ _ _ _ _ _ (@den_idx _ _ _ _ _ _ _ _ _ (@den_var _ _ _ _ 4 _ _ rfl (by decide +kernel)) (@den_bin _ _ _ _ _ _ _ _ _ _ _ op_floordiv (@den_var _ _ _ _ 2 _ _ rfl (by decide +kernel)) (@den_int _ _ _ _ 36 _ _) (by decide)) (by intros; rfl)) (@den_lnil _ _ _ _) (by intros; rfl)) (by intros; rfl)) (by intros; rfl)) (by intros; rfl))) (@den_bin _ _ _ _ _ _ _ _ _ _ _ op_mod (@den_var _ _ _ _ 2 _ _ rfl (by decide +kernel)) (@den_int _ _ _ _ 4 _ _) (by decide)) (by intros; rfl)) (by decide)) (@den_lnil _ _ _ _) (by intros; rfl)) (by intros; rfl) (by intros; rfl) (by decide))
  exact (@den_snil _ _ _)
  refine @den_scons _ _ _ _ _ _ _ ?_ ?_
  refine @den_aug _ _ _ _ _ _ _ _ _ _ ok8 3 rfl op_iadd ?_ (by decide)
  exact (@den_var _ _ _ _ 5 _ _ rfl (by decide +kernel))
  exact (@den_snil _ _ _)
  exact (@den_snil _ _ _)
  exact (@den_snil _ _ _)
  refine @den_scons _ _ _ _ _ _ _ ?_ ?_
  refine @den_ret _ _ _ _ _ _ ok8 ?_
  exact (@den_var _ _ _ _ 3 _ _ rfl (by decide +kernel))
  exact (@den_snil _ _ _)
noncomputable def f8 : List D → Option D := fnD 3 6 b8
theorem fn8 : FnDen T0 320 "_law_typed" f8 := fn_of (c := c8) (ps := ["words", "unseen", "turn"]) (rest := ["text", "greats", "sign"]) ok8 rfl (item_mem 8 (by decide)) rfl (fun pm cd doc vs h => by match vs, h with | [a0, a1, a2], _ => rfl) rfl rfl den8

noncomputable def c9 : FC := ⟨"_law_paint", (itemAt 9).scope, ["spot", "value", "share", "near"], ⟨["range"], ["spot", "value", "share"]⟩⟩
theorem ok9 : c9.Ok := FC.ok_of (by decide +kernel)
noncomputable abbrev b9 : List D → Option (Fl × List D) := (sSeq (sAssign 3 (eComp [0] (eCall dRange (lCons (fun _ => some (.int 3)) lNil)) (fun _ => some true) (eCall dAbs (lCons (eBin dSub (eBin dMod (eBin dAdd (eBin dSub (eBin dMul (fun _ => some (.int 3)) (eVar 1)) (eBin dMul (fun _ => some (.int 32)) (eVar 0))) (fun _ => some (.int 48))) (fun _ => some (.int 96))) (fun _ => some (.int 48))) lNil)))) (sSeq (sRet (eComp [1, 2] (eVar 3) (fun _ => some true) (eBin dDiv (eBin dMul (eVar 1) (eBin dSub (fun _ => some (.int 64)) (eBin dMul (eVar 2) (eBin dSub (fun _ => some (.int 16)) (eCall dMax (lCons (fun _ => some (.int 0)) (lCons (eCall dMin (lCons (fun _ => some (.int 16)) (lCons (eBin dSub (fun _ => some (.int 32)) (eVar 0)) lNil))) lNil))))))) (fun _ => some (.int 256))))) sNil))
set_option maxHeartbeats 4000000 in
theorem den9 : DenS T0 321 c9 (itemAt 9).body b9 := by
  refine @den_scons _ _ _ _ _ _ _ ?_ ?_
  exact @den_acomp _ _ _ _ _ _ _ _ _ _ _ _ _ _ _ _ ok9 3 rfl [0] ["spot"] ⟨["abs"], []⟩ (by decide +kernel) (by decide +kernel) (by decide +kernel) (@den_type _ _ _ _ _ _ _ _ _ _ _ _ (b_range (by decide +kernel)) call_range (@den_lcons _ _ _ _ _ _ _ _ (@den_int _ _ _ _ 3 _ _) (@den_lnil _ _ _ _) (by intros; rfl)) (by intros; rfl) (by intros; rfl) (by decide)) (@den_inone _ _ _ _) (@den_builtin _ _ _ _ _ _ _ _ _ _ _ _ (b_abs (by decide +kernel)) call_abs (@den_lcons _ _ _ _ _ _ _ _ (@den_bin _ _ _ _ _ _ _ _ _ _ _ op_sub (@den_bin _ _ _ _ _ _ _ _ _ _ _ op_mod (@den_bin _ _ _ _ _ _ _ _ _ _ _ op_add (@den_bin _ _ _ _ _ _ _ _ _ _ _ op_sub (@den_bin _ _ _ _ _ _ _ _ _ _ _ op_mul (@den_int _ _ _ _ 3 _ _) (@den_var _ _ _ _ 1 _ _ rfl (by decide +kernel)) (by decide)) (@den_bin _ _ _ _ _ _ _ _ _ _ _ op_mul (@den_int _ _ _ _ 32 _ _) (@den_var _ _ _ _ 0 _ _ rfl (by decide +kernel)) (by decide)) (by decide)) (@den_int _ _ _ _ 48 _ _) (by decide)) (@den_int _ _ _ _ 96 _ _) (by decide)) (@den_int _ _ _ _ 48 _ _) (by decide)) (@den_lnil _ _ _ _) (by intros; rfl)) (by intros; rfl) (by intros; rfl) (by decide)) (by intro _ _ _; rfl) (by intros; rfl)
  refine @den_scons _ _ _ _ _ _ _ ?_ ?_
  refine @den_ret _ _ _ _ _ _ ok9 ?_
  exact (@den_comp _ _ _ _ _ _ _ _ _ _ _ _ _ _ [1, 2] ["value", "share"] ⟨["max", "min"], []⟩ (by decide +kernel) (by decide +kernel) (by decide +kernel) (@den_var _ _ _ _ 3 _ _ rfl (by decide +kernel)) (@den_inone _ _ _ _) (@den_bin _ _ _ _ _ _ _ _ _ _ _ op_div (@den_bin _ _ _ _ _ _ _ _ _ _ _ op_mul (@den_var _ _ _ _ 1 _ _ rfl (by decide +kernel)) (@den_bin _ _ _ _ _ _ _ _ _ _ _ op_sub (@den_int _ _ _ _ 64 _ _) (@den_bin _ _ _ _ _ _ _ _ _ _ _ op_mul (@den_var _ _ _ _ 2 _ _ rfl (by decide +kernel)) (@den_bin _ _ _ _ _ _ _ _ _ _ _ op_sub (@den_int _ _ _ _ 16 _ _) (@den_builtin _ _ _ _ _ _ _ _ _ _ _ _ (b_max (by decide +kernel)) call_max (@den_lcons _ _ _ _ _ _ _ _ (@den_int _ _ _ _ 0 _ _) (@den_lcons _ _ _ _ _ _ _ _ (@den_builtin _ _ _ _ _ _ _ _ _ _ _ _ (b_min (by decide +kernel)) call_min (@den_lcons _ _ _ _ _ _ _ _ (@den_int _ _ _ _ 16 _ _) (@den_lcons _ _ _ _ _ _ _ _ (@den_bin _ _ _ _ _ _ _ _ _ _ _ op_sub (@den_int _ _ _ _ 32 _ _) (@den_var _ _ _ _ 0 _ _ rfl (by decide +kernel)) (by decide)) (@den_lnil _ _ _ _) (by intros; rfl)) (by intros; rfl)) (by intros; rfl) (by intros; rfl) (by decide)) (@den_lnil _ _ _ _) (by intros; rfl)) (by intros; rfl)) (by intros; rfl) (by intros; rfl) (by decide)) (by decide)) (by decide)) (by decide)) (by decide)) (@den_int _ _ _ _ 256 _ _) (by decide)) (by intros; rfl))
  exact (@den_snil _ _ _)
noncomputable def f9 : List D → Option D := fnD 3 4 b9
theorem fn9 : FnDen T0 320 "_law_paint" f9 := fn_of (c := c9) (ps := ["spot", "value", "share"]) (rest := ["near"]) ok9 rfl (item_mem 9 (by decide)) rfl (fun pm cd doc vs h => by match vs, h with | [a0, a1, a2], _ => rfl) rfl rfl den9

noncomputable def c10 : FC := ⟨"_law_told", (itemAt 10).scope, ["spot", "value", "share", "both"], ⟨["min"], []⟩⟩
theorem ok10 : c10.Ok := FC.ok_of (by decide +kernel)
noncomputable abbrev b10 : List D → Option (Fl × List D) := (sSeq (sAssign 3 (eBin dMul (eVar 1) (eBin dSub (fun _ => some (.int 8)) (eVar 2)))) (sSeq (sRet (eTup (lCons (eBin dDiv (eVar 0) (fun _ => some (.int 32))) (lCons (eBin dDiv (eVar 3) (fun _ => some (.int 32))) (lCons (eBin dDiv (eBin dMul (eVar 1) (eVar 2)) (eCall dMin (lCons (eVar 3) (lCons (eBin dSub (fun _ => some (.int 32)) (eVar 3)) lNil)))) lNil))))) sNil))
set_option maxHeartbeats 4000000 in
theorem den10 : DenS T0 321 c10 (itemAt 10).body b10 := by
  refine @den_scons _ _ _ _ _ _ _ ?_ ?_
  refine @den_assign _ _ _ _ _ _ _ _ ok10 3 rfl ?_ (by intros; rfl)
  exact (@den_bin _ _ _ _ _ _ _ _ _ _ _ op_mul (@den_var _ _ _ _ 1 _ _ rfl (by decide +kernel)) (@den_bin _ _ _ _ _ _ _ _ _ _ _ op_sub (@den_int _ _ _ _ 8 _ _) (@den_var _ _ _ _ 2 _ _ rfl (by decide +kernel)) (by decide)) (by decide))
  refine @den_scons _ _ _ _ _ _ _ ?_ ?_
  refine @den_ret _ _ _ _ _ _ ok10 ?_
  exact (@den_tup _ _ _ _ _ _ _ _ (@den_lcons _ _ _ _ _ _ _ _ (@den_bin _ _ _ _ _ _ _ _ _ _ _ op_div (@den_var _ _ _ _ 0 _ _ rfl (by decide +kernel)) (@den_int _ _ _ _ 32 _ _) (by decide)) (@den_lcons _ _ _ _ _ _ _ _ (@den_bin _ _ _ _ _ _ _ _ _ _ _ op_div (@den_var _ _ _ _ 3 _ _ rfl (by decide +kernel)) (@den_int _ _ _ _ 32 _ _) (by decide)) (@den_lcons _ _ _ _ _ _ _ _ (@den_bin _ _ _ _ _ _ _ _ _ _ _ op_div (@den_bin _ _ _ _ _ _ _ _ _ _ _ op_mul (@den_var _ _ _ _ 1 _ _ rfl (by decide +kernel)) (@den_var _ _ _ _ 2 _ _ rfl (by decide +kernel)) (by decide)) (@den_builtin _ _ _ _ _ _ _ _ _ _ _ _ (b_min (by decide +kernel)) call_min (@den_lcons _ _ _ _ _ _ _ _ (@den_var _ _ _ _ 3 _ _ rfl (by decide +kernel)) (@den_lcons _ _ _ _ _ _ _ _ (@den_bin _ _ _ _ _ _ _ _ _ _ _ op_sub (@den_int _ _ _ _ 32 _ _) (@den_var _ _ _ _ 3 _ _ rfl (by decide +kernel)) (by decide)) (@den_lnil _ _ _ _) (by intros; rfl)) (by intros; rfl)) (by intros; rfl) (by intros; rfl) (by decide)) (by decide)) (@den_lnil _ _ _ _) (by intros; rfl)) (by intros; rfl)) (by intros; rfl)))
  exact (@den_snil _ _ _)
noncomputable def f10 : List D → Option D := fnD 3 4 b10
theorem fn10 : FnDen T0 320 "_law_told" f10 := fn_of (c := c10) (ps := ["spot", "value", "share"]) (rest := ["both"]) ok10 rfl (item_mem 10 (by decide)) rfl (fun pm cd doc vs h => by match vs, h with | [a0, a1, a2], _ => rfl) rfl rfl den10

noncomputable def c11 : FC := ⟨"law", (itemAt 11).scope, ["script", "heaps", "shift", "names", "unseen", "beside", "lit", "crowd", "words", "kept", "sign", "held", "heard", "dark", "off", "level", "grey", "turn", "counts", "still", "moved", "turned", "lamp", "kind", "spot", "hue", "paint", "told", "both"], ⟨["_law_heaps", "_law_names", "_law_paint", "_law_told", "_law_typed", "_law_words", "hsv_to_rgb", "in_table_b1", "int", "len", "list", "map_table_b3", "ord", "pretty_flags", "range", "rgb_to_hls", "sum"], ["names", "heard", "turned"]⟩⟩
theorem ok11 : c11.Ok := FC.ok_of (by decide +kernel)
noncomputable abbrev b11 : List D → Option (Fl × List D) := (sSeq (sAssign 1 (eCall f5 (lCons (eVar 0) lNil))) (sSeq (sAssign 2 (eBin dMod (eBin dFloorDiv (eBin dIdx (eVar 1) (fun _ => some (.int 0))) (fun _ => some (.int 65536))) (fun _ => some (.int 26)))) (sSeq (sAssign 3 (eCall f6 (lCons (eVar 2) lNil))) (sSeq (sAssign 4 (eBin dAdd (eList (lCons (fun _ => some (.int 173)) (lCons (fun _ => some (.int 847)) (lCons (fun _ => some (.int 6150)) (lCons (fun _ => some (.int 6155)) (lCons (fun _ => some (.int 6156)) (lCons (fun _ => some (.int 6157)) (lCons (fun _ => some (.int 8203)) (lCons (fun _ => some (.int 8204)) (lCons (fun _ => some (.int 8205)) (lCons (fun _ => some (.int 8288)) (lCons (fun _ => some (.int 65279)) lNil)))))))))))) (eCall dList (lCons (eCall dRange (lCons (fun _ => some (.int 65024)) (lCons (fun _ => some (.int 65040)) lNil))) lNil)))) (sSeq (sAssign 5 (eTup (lCons (fun _ => some (.int 172)) (lCons (fun _ => some (.int 174)) (lCons (fun _ => some (.int 846)) (lCons (fun _ => some (.int 848)) (lCons (fun _ => some (.int 6149)) (lCons (fun _ => some (.int 6151)) (lCons (fun _ => some (.int 6154)) (lCons (fun _ => some (.int 6158)) (lCons (fun _ => some (.int 8202)) (lCons (fun _ => some (.int 8206)) (lCons (fun _ => some (.int 8287)) (lCons (fun _ => some (.int 8289)) (lCons (fun _ => some (.int 65023)) (lCons (fun _ => some (.int 65040)) (lCons (fun _ => some (.int 65278)) (lCons (fun _ => some (.int 65280)) lNil)))))))))))))))))) (sSeq (sIf (tOf (eBin dNe (eComp [] (eVar 5) (fun _ => some true) (eCall f3 (lCons (eCall dChr (lCons (eVar 0) lNil)) lNil))) (eBin dMul (eList (lCons (fun _ => some (.bool false)) lNil)) (fun _ => some (.int 16))))) (sSeq (sRet (fun _ => some (.bool false))) sNil) sNil) (sSeq (sAssignOwn 6 []) (sSeq (sFor (setK 7) (eTup (lCons (eBin dMod (eBin dIdx (eVar 1) (fun _ => some (.int 0))) (fun _ => some (.int 256))) (lCons (eBin dMod (eBin dFloorDiv (eBin dIdx (eVar 1) (fun _ => some (.int 0))) (fun _ => some (.int 256))) (fun _ => some (.int 256))) lNil))) (sSeq (sAssign 8 (eCall f2 (lCons (eBin dLShift (eVar 7) (eVar 2)) lNil))) (sSeq (sIf (tOf (eBin dNe (eVar 8) (eCall f7 (lCons (eVar 3) (lCons (eVar 7) lNil))))) (sSeq (sRet (fun _ => some (.bool false))) sNil) sNil) (sSeq (sAssign 9 (fun _ => some (.str ""))) (sSeq (sFor (setK 10) (eCall f8 (lCons (eVar 8) (lCons (eVar 4) (lCons (eBin dMod (eBin dIdx (eVar 1) (fun _ => some (.int 1))) (fun _ => some (.int 324))) lNil)))) (sSeq (sAssign 11 (eCall f3 (lCons (eVar 10) lNil))) (sSeq (sIf (tOf (eBin dIsNot (eVar 11) (eBin dIn (eCall dOrd (lCons (eVar 10) lNil)) (eVar 4)))) (sSeq (sRet (fun _ => some (.bool false))) sNil) sNil) (sSeq (sIf (tNot (tOf (eVar 11))) (sSeq (sAug 9 dIAdd (eCall f4 (lCons (eVar 10) lNil))) sNil) sNil) sNil))) sNil) (sSeq (sIf (tOf (eBin dNe (eVar 9) (eCall dLower (lCons (eVar 8) lNil)))) (sSeq (sRet (fun _ => some (.bool false))) sNil) sNil) (sSeq (sAssign 12 (eCall dSplit (lCons (eVar 9) (lCons (fun _ => some (.str ", ")) lNil)))) (sSeq (sAppend 6 (eComp [3, 12] (eCall dRange (lCons (fun _ => some (.int 8)) lNil)) (tOf (eBin dIn (eCall dLower (lCons (eBin dIdx (eVar 1) (eVar 0)) lNil)) (eVar 2))) (eVar 0))) sNil))))))) sNil) (sRel 6 (sSeq (sAssign 13 (eComp [] (eVar 6) (fun _ => some true) (eComp [0] (eCall dRange (lCons (fun _ => some (.int 8)) lNil)) (tOf (eBin dNotIn (eVar 0) (eVar 1))) (eVar 0)))) (sSeq (sAssign 14 (eBin dMod (eBin dFloorDiv (eBin dIdx (eVar 1) (fun _ => some (.int 1))) (fun _ => some (.int 972))) (fun _ => some (.int 4)))) (sSeq (sFor (setK 15) (eTup (lCons (fun _ => some (.int 0)) (lCons (eBin dAdd (fun _ => some (.int 1)) (eBin dMod (eBin dIdx (eVar 1) (fun _ => some (.int 2))) (fun _ => some (.int 4)))) lNil))) (sSeq (sAssign 16 (eCall f1 (lCons (eBin dDiv (eVar 14) (fun _ => some (.int 32))) (lCons (fun _ => some (.flt 0)) (lCons (eBin dDiv (eVar 15) (fun _ => some (.int 4))) lNil))))) (sSeq (sIf (tOf (eBin dNe (eVar 16) (eTup (lCons (eBin dDiv (eVar 15) (fun _ => some (.int 4))) (lCons (eBin dDiv (eVar 15) (fun _ => some (.int 4))) (lCons (eBin dDiv (eVar 15) (fun _ => some (.int 4))) lNil)))))) (sSeq (sRet (fun _ => some (.bool false))) sNil) sNil) (sSeq (sIf (tOf (eBin dNe (eCall f0 (lCons (eBin dIdx (eVar 16) (fun _ => some (.int 0))) (lCons (eBin dIdx (eVar 16) (fun _ => some (.int 1))) (lCons (eBin dIdx (eVar 16) (fun _ => some (.int 2))) lNil)))) (eTup (lCons (fun _ => some (.flt 0)) (lCons (eBin dDiv (eVar 15) (fun _ => some (.int 4))) (lCons (fun _ => some (.flt 0)) lNil)))))) (sSeq (sRet (fun _ => some (.bool false))) sNil) sNil) sNil))) sNil) (sSeq (sFor (setK 17) (eCall dRange (lCons (eBin dMod (eBin dFloorDiv (eBin dIdx (eVar 1) (fun _ => some (.int 1))) (fun _ => some (.int 3888))) (fun _ => some (.int 8))) (lCons (eBin dAdd (eBin dMod (eBin dFloorDiv (eBin dIdx (eVar 1) (fun _ => some (.int 1))) (fun _ => some (.int 3888))) (fun _ => some (.int 8))) (fun _ => some (.int 3))) lNil))) (sSeq (sAssignOwn 18 []) (sRel 6 (sSeq (sFor (setPair 19 20) (eTup (lCons (eVar 6) (lCons (eVar 13) lNil))) (sSeq (sAssignOwn 21 []) (sSeq (sFor (setK 22) (eVar 20) (sSeq (sAssign 23 (eBin dMod (eBin dFloorDiv (eBin dIdx (eVar 1) (fun _ => some (.int 2))) (eBin dPow (fun _ => some (.int 16)) (eVar 22))) (fun _ => some (.int 16)))) (sSeq (sAssign 24 (eBin dAdd (eBin dMul (eBin dMod (eBin dAdd (eVar 22) (eVar 17)) (fun _ => some (.int 8))) (fun _ => some (.int 4))) (eVar 14))) (sSeq (sAssign 25 (eBin dAdd (eBin dAdd (eBin dDiv (eBin dAdd (eVar 22) (eVar 17)) (fun _ => some (.int 8))) (eBin dDiv (eVar 14) (fun _ => some (.int 32)))) (eBin dMod (eBin dFloorDiv (eBin dIdx (eVar 1) (fun _ => some (.int 1))) (fun _ => some (.int 324))) (fun _ => some (.int 3))))) (sSeq (sAssign 26 (eCall f1 (lCons (eVar 25) (lCons (eBin dDiv (eBin dAdd (fun _ => some (.int 1)) (eBin dFloorDiv (eVar 23) (fun _ => some (.int 4)))) (fun _ => some (.int 4))) (lCons (eBin dDiv (eBin dAdd (fun _ => some (.int 1)) (eBin dMod (eVar 23) (fun _ => some (.int 4)))) (fun _ => some (.int 4))) lNil))))) (sSeq (sIf (tOf (eBin dNe (eCall dList (lCons (eVar 26) lNil)) (eCall f9 (lCons (eVar 24) (lCons (eBin dAdd (fun _ => some (.int 1)) (eBin dMod (eVar 23) (fun _ => some (.int 4)))) (lCons (eBin dAdd (fun _ => some (.int 1)) (eBin dFloorDiv (eVar 23) (fun _ => some (.int 4)))) lNil)))))) (sSeq (sRet (fun _ => some (.bool false))) sNil) sNil) (sSeq (sAssign 27 (eCall f0 (lCons (eBin dIdx (eVar 26) (fun _ => some (.int 0))) (lCons (eBin dIdx (eVar 26) (fun _ => some (.int 1))) (lCons (eBin dIdx (eVar 26) (fun _ => some (.int 2))) lNil))))) (sSeq (sIf (tOf (eBin dNe (eVar 27) (eCall f10 (lCons (eVar 24) (lCons (eBin dAdd (fun _ => some (.int 1)) (eBin dMod (eVar 23) (fun _ => some (.int 4)))) (lCons (eBin dAdd (fun _ => some (.int 1)) (eBin dFloorDiv (eVar 23) (fun _ => some (.int 4)))) lNil)))))) (sSeq (sRet (fun _ => some (.bool false))) sNil) sNil) (sSeq (sAppend 21 (eCall dInt (lCons (eBin dMul (eBin dIdx (eVar 27) (fun _ => some (.int 0))) (fun _ => some (.int 8))) lNil))) sNil)))))))) sNil) (sRel 21 (sSeq (sAssign 28 (eCall dSum (lCons (eComp [21] (eVar 19) (tOf (eBin dIn (eVar 0) (eVar 1))) (eBin dPow (fun _ => some (.int 2)) (eVar 0))) lNil))) (sSeq (sAssign 8 (eCall f2 (lCons (eBin dLShift (eVar 28) (eVar 2)) lNil))) (sSeq (sAppend 18 (eIf (tOf (eBin dEq (eVar 8) (fun _ => some (.str "0x0")))) (fun _ => some (.int 0)) (eCall dLen (lCons (eCall dSplit (lCons (eVar 8) (lCons (fun _ => some (.str ", ")) lNil))) lNil)))) sNil)))))) sNil) (sRel 18 (sRel 6 (sSeq (sIf (tOf (eBin dNe (eBin dSub (eBin dIdx (eVar 18) (fun _ => some (.int 0))) (eBin dIdx (eVar 18) (fun _ => some (.int 1)))) (eBin dSub (eBin dAdd (eCall dLen (lCons (eBin dIdx (eVar 6) (fun _ => some (.int 0))) lNil)) (eCall dLen (lCons (eBin dIdx (eVar 6) (fun _ => some (.int 1))) lNil))) (fun _ => some (.int 8))))) (sSeq (sRet (fun _ => some (.bool false))) sNil) sNil) sNil)))))) sNil) (sSeq (sRet (fun _ => some (.bool true))) sNil))))))))))))))
set_option maxHeartbeats 4000000 in
theorem den11 : DenS T0 311 c11 (itemAt 11).body b11 := by
  refine @den_scons _ _ _ _ _ _ _ ?_ ?_
  refine @den_assign _ _ _ _ _ _ _ _ ok11 1 rfl ?_ (by intros; rfl)
  exact (@den_fn _ _ _ _ _ _ _ _ _ _ _ _ _ _ _ _ (by decide +kernel) (item_mem 5 (by decide)) rfl fn5 (@den_lcons _ _ _ _ _ _ _ _ (@den_var _ _ _ _ 0 _ _ rfl (by decide +kernel)) (@den_lnil _ _ _ _) (by intros; rfl)) (by decide) (by decide +kernel) (by intros; rfl))
  refine @den_scons _ _ _ _ _ _ _ ?_ ?_
  refine @den_assign _ _ _ _ _ _ _ _ ok11 2 rfl ?_ (by intros; rfl)
  exact (@den_bin _ _ _ _ _ _ _ _ _ _ _ op_mod (@den_bin _ _ _ _ _ _ _ _ _ _ _ op_floordiv (@den_idx _ _ _ _ _ _ _ _ _ (@den_var _ _ _ _ 1 _ _ rfl (by decide +kernel)) (@den_int _ _ _ _ 0 _ _) (by intros; rfl)) (@den_int _ _ _ _ 65536 _ _) (by decide)) (@den_int _ _ _ _ 26 _ _) (by decide))
  refine @den_scons _ _ _ _ _ _ _ ?_ ?_
  refine @den_assign _ _ _ _ _ _ _ _ ok11 3 rfl ?_ (by intros; rfl)
  exact (@den_fn _ _ _ _ _ _ _ _ _ _ _ _ _ _ _ _ (by decide +kernel) (item_mem 6 (by decide)) rfl fn6 (@den_lcons _ _ _ _ _ _ _ _ (@den_var _ _ _ _ 2 _ _ rfl (by decide +kernel)) (@den_lnil _ _ _ _) (by intros; rfl)) (by decide) (by decide +kernel) (by intros; rfl))
  refine @den_scons _ _ _ _ _ _ _ ?_ ?_
  refine @den_assign _ _ _ _ _ _ _ _ ok11 4 rfl ?_ (by intros; rfl)
  exact (@den_bin _ _ _ _ _ _ _ _ _ _ _ op_add (@den_list _ _ _ _ _ _ _ (@den_lcons _ _ _ _ _ _ _ _ (@den_int _ _ _ _ 173 _ _) (@den_lcons _ _ _ _ _ _ _ _ (@den_int _ _ _ _ 847 _ _) (@den_lcons _ _ _ _ _ _ _ _ (@den_int _ _ _ _ 6150 _ _) (@den_lcons _ _ _ _ _ _ _ _ (@den_int _ _ _ _ 6155 _ _) (@den_lcons _ _ _ _ _ _ _ _ (@den_int _ _ _ _ 6156 _ _) (@den_lcons _ _ _ _ _ _ _ _ (@den_int _ _ _ _ 6157 _ _) (@den_lcons _ _ _ _ _ _ _ _ (@den_int _ _ _ _ 8203 _ _) (@den_lcons _ _ _ _ _ _ _ _ (@den_int _ _ _ _ 8204 _ _) (@den_lcons _ _ _ _ _ _ _ _ (@den_int _ _ _ _ 8205 _ _) (@den_lcons _ _ _ _ _ _ _ _ (@den_int _ _ _ _ 8288 _ _) (@den_lcons _ _ _ _ _ _ _ _ (@den_int _ _ _ _ 65279 _ _) (@den_lnil _ _ _ _) (by intros; rfl)) (by intros; rfl)) (by intros; rfl)) (by intros; rfl)) (by intros; rfl)) (by intros; rfl)) (by intros; rfl)) (by intros; rfl)) (by intros; rfl)) (by intros; rfl)) (by intros; rfl))) (@den_type _ _ _ _ _ _ _ _ _ _ _ _ (b_list (by decide +kernel)) call_list (@den_lcons _ _ _ _ _ _ _ _ (@den_type _ _ _ _ _ _ _ _ _ _ _ _ (b_range (by decide +kernel)) call_range (@den_lcons _ _ _ _ _ _ _ _ (@den_int _ _ _ _ 65024 _ _) (@den_lcons _ _ _ _ _ _ _ _ (@den_int _ _ _ _ 65040 _ _) (@den_lnil _ _ _ _) (by intros; rfl)) (by intros; rfl)) (by intros; rfl) (by intros; rfl) (by decide)) (@den_lnil _ _ _ _) (by intros; rfl)) (by intros; rfl) (by intros; rfl) (by decide)) (by decide))
  refine @den_scons _ _ _ _ _ _ _ ?_ ?_
  refine @den_assign _ _ _ _ _ _ _ _ ok11 5 rfl ?_ (by intros; rfl)
  exact (@den_tup _ _ _ _ _ _ _ _ (@den_lcons _ _ _ _ _ _ _ _ (@den_int _ _ _ _ 172 _ _) (@den_lcons _ _ _ _ _ _ _ _ (@den_int _ _ _ _ 174 _ _) (@den_lcons _ _ _ _ _ _ _ _ (@den_int _ _ _ _ 846 _ _) (@den_lcons _ _ _ _ _ _ _ _ (@den_int _ _ _ _ 848 _ _) (@den_lcons _ _ _ _ _ _ _ _ (@den_int _ _ _ _ 6149 _ _) (@den_lcons _ _ _ _ _ _ _ _ (@den_int _ _ _ _ 6151 _ _) (@den_lcons _ _ _ _ _ _ _ _ (@den_int _ _ _ _ 6154 _ _) (@den_lcons _ _ _ _ _ _ _ _ (@den_int _ _ _ _ 6158 _ _) (@den_lcons _ _ _ _ _ _ _ _ (@den_int _ _ _ _ 8202 _ _) (@den_lcons _ _ _ _ _ _ _ _ (@den_int _ _ _ _ 8206 _ _) (@den_lcons _ _ _ _ _ _ _ _ (@den_int _ _ _ _ 8287 _ _) (@den_lcons _ _ _ _ _ _ _ _ (@den_int _ _ _ _ 8289 _ _) (@den_lcons _ _ _ _ _ _ _ _ (@den_int _ _ _ _ 65023 _ _) (@den_lcons _ _ _ _ _ _ _ _ (@den_int _ _ _ _ 65040 _ _) (@den_lcons _ _ _ _ _ _ _ _ (@den_int _ _ _ _ 65278 _ _) (@den_lcons _ _ _ _ _ _ _ _ (@den_int _ _ _ _ 65280 _ _) (@den_lnil _ _ _ _) (by intros; rfl)) (by intros; rfl)) (by intros; rfl)) (by intros; rfl)) (by intros; rfl)) (by intros; rfl)) (by intros; rfl)) (by intros; rfl)) (by intros; rfl)) (by intros; rfl)) (by intros; rfl)) (by intros; rfl)) (by intros; rfl)) (by intros; rfl)) (by intros; rfl)) (by intros; rfl)))
  refine @den_scons _ _ _ _ _ _ _ ?_ ?_
  refine @den_if _ _ _ _ _ _ _ _ _ _ ok11 ?_ ?_ ?_
  exact (@den_tcmp _ _ _ _ _ _ _ _ _ _ _ op_ne (@den_comp _ _ _ _ _ _ _ _ _ _ _ _ _ _ [] [] ⟨["chr", "in_table_b1"], []⟩ (by decide +kernel) (by decide +kernel) (by decide +kernel) (@den_var _ _ _ _ 5 _ _ rfl (by decide +kernel)) (@den_inone _ _ _ _) (@den_fn _ _ _ _ _ _ _ _ _ _ _ _ _ _ _ _ (by decide +kernel) (item_mem 3 (by decide)) rfl fn3 (@den_lcons _ _ _ _ _ _ _ _ (@den_builtin _ _ _ _ _ _ _ _ _ _ _ _ (b_chr (by decide +kernel)) call_chr (@den_lcons _ _ _ _ _ _ _ _ (@den_var _ _ _ _ 0 _ _ rfl (by decide +kernel)) (@den_lnil _ _ _ _) (by intros; rfl)) (by intros; rfl) (by intros; rfl) (by decide)) (@den_lnil _ _ _ _) (by intros; rfl)) (by decide) (by decide +kernel) (by intros; rfl)) (by intros; rfl)) (@den_bin _ _ _ _ _ _ _ _ _ _ _ op_mul (@den_list _ _ _ _ _ _ _ (@den_lcons _ _ _ _ _ _ _ _ (@den_bool _ _ _ _ false _ _) (@den_lnil _ _ _ _) (by intros; rfl))) (@den_int _ _ _ _ 16 _ _) (by decide)) (by with_unfolding_all rfl) (by decide))
  refine @den_scons _ _ _ _ _ _ _ ?_ ?_
  refine @den_ret _ _ _ _ _ _ ok11 ?_
  exact (@den_bool _ _ _ _ false _ _)
  exact (@den_snil _ _ _)
  exact (@den_snil _ _ _)
  refine @den_scons _ _ _ _ _ _ _ ?_ ?_
  exact @den_assignOwn _ _ _ _ _ _ _ _ _ ok11 6 rfl .nil (by decide) (by intros; rfl)
  refine @den_scons _ _ _ _ _ _ _ ?_ ?_
  refine @den_for _ _ _ _ _ _ _ _ _ _ _ _ ok11 (@asg_name _ _ _ _ _ ok11 7 rfl) ?_ ?_ ?_ (by intros; rfl)
  exact (@den_tup _ _ _ _ _ _ _ _ (@den_lcons _ _ _ _ _ _ _ _ (@den_bin _ _ _ _ _ _ _ _ _ _ _ op_mod (@den_idx _ _ _ _ _ _ _ _ _ (@den_var _ _ _ _ 1 _ _ rfl (by decide +kernel)) (@den_int _ _ _ _ 0 _ _) (by intros; rfl)) (@den_int _ _ _ _ 256 _ _) (by decide)) (@den_lcons _ _ _ _ _ _ _ _ (@den_bin _ _ _ _ _ _ _ _ _ _ _ op_mod (@den_bin _ _ _ _ _ _ _ _ _ _ _ op_floordiv (@den_idx _ _ _ _ _ _ _ _ _ (@den_var _ _ _ _ 1 _ _ rfl (by decide +kernel)) (@den_int _ _ _ _ 0 _ _) (by intros; rfl)) (@den_int _ _ _ _ 256 _ _) (by decide)) (@den_int _ _ _ _ 256 _ _) (by decide)) (@den_lnil _ _ _ _) (by intros; rfl)) (by intros; rfl)))
  refine @den_scons _ _ _ _ _ _ _ ?_ ?_
  refine @den_assign _ _ _ _ _ _ _ _ ok11 8 rfl ?_ (by intros; rfl)
  exact (@den_fn _ _ _ _ _ _ _ _ _ _ _ _ _ _ _ _ (by decide +kernel) (item_mem 2 (by decide)) rfl fn2 (@den_lcons _ _ _ _ _ _ _ _ (@den_bin _ _ _ _ _ _ _ _ _ _ _ op_lshift (@den_var _ _ _ _ 7 _ _ rfl (by decide +kernel)) (@den_var _ _ _ _ 2 _ _ rfl (by decide +kernel)) (by decide)) (@den_lnil _ _ _ _) (by intros; rfl)) (by decide) (by decide +kernel) (by intros; rfl))
  refine @den_scons _ _ _ _ _ _ _ ?_ ?_
  refine @den_if _ _ _ _ _ _ _ _ _ _ ok11 ?_ ?_ ?_
  exact (@den_tcmp _ _ _ _ _ _ _ _ _ _ _ op_ne (@den_var _ _ _ _ 8 _ _ rfl (by decide +kernel)) (@den_fn _ _ _ _ _ _ _ _ _ _ _ _ _ _ _ _ (by decide +kernel) (item_mem 7 (by decide)) rfl fn7 (@den_lcons _ _ _ _ _ _ _ _ (@den_var _ _ _ _ 3 _ _ rfl (by decide +kernel)) (@den_lcons _ _ _ _ _ _ _ _ (@den_var _ _ _ _ 7 _ _ rfl (by decide +kernel)) (@den_lnil _ _ _ _) (by intros; rfl)) (by intros; rfl)) (by decide) (by decide +kernel) (by intros; rfl)) (by with_unfolding_all rfl) (by decide))
  refine @den_scons _ _ _ _ _ _ _ ?_ ?_
  refine @den_ret _ _ _ _ _ _ ok11 ?_
  exact (@den_bool _ _ _ _ false _ _)
  exact (@den_snil _ _ _)
  exact (@den_snil _ _ _)
  refine @den_scons _ _ _ _ _ _ _ ?_ ?_
  refine @den_assign _ _ _ _ _ _ _ _ ok11 9 rfl ?_ (by intros; rfl)
  exact (@den_str _ _ _ _ "" _ _)
  refine @den_scons _ _ _ _ _ _ _ ?_ ?_
  refine @den_for _ _ _ _ _ _ _ _ _ _ _ _ ok11 (@asg_name _ _ _ _ _ ok11 10 rfl) ?_ ?_ ?_ (by intros; rfl)
  exact (@den_fn _ _ _ _ _ _ _ _ _ _ _ _ _ _ _ _ (by decide +kernel) (item_mem 8 (by decide)) rfl fn8 (@den_lcons _ _ _ _ _ _ _ _ (@den_var _ _ _ _ 8 _ _ rfl (by decide +kernel)) (@den_lcons _ _ _ _ _ _ _ _ (@den_var _ _ _ _ 4 _ _ rfl (by decide +kernel)) (@den_lcons _ _ _ _ _ _ _ _ (@den_bin _ _ _ _ _ _ _ _ _ _ _ op_mod (@den_idx _ _ _ _ _ _ _ _ _ (@den_var _ _ _ _ 1 _ _ rfl (by decide +kernel)) (@den_int _ _ _ _ 1 _ _) (by intros; rfl)) (@den_int _ _ _ _ 324 _ _) (by decide)) (@den_lnil _ _ _ _) (by intros; rfl)) (by intros; rfl)) (by intros; rfl)) (by decide) (by decide +kernel) (by intros; rfl))
  refine @den_scons _ _ _ _ _ _ _ ?_ ?_
  refine @den_assign _ _ _ _ _ _ _ _ ok11 11 rfl ?_ (by intros; rfl)
  exact (@den_fn _ _ _ _ _ _ _ _ _ _ _ _ _ _ _ _ (by decide +kernel) (item_mem 3 (by decide)) rfl fn3 (@den_lcons _ _ _ _ _ _ _ _ (@den_var _ _ _ _ 10 _ _ rfl (by decide +kernel)) (@den_lnil _ _ _ _) (by intros; rfl)) (by decide) (by decide +kernel) (by intros; rfl))
  refine @den_scons _ _ _ _ _ _ _ ?_ ?_
  refine @den_if _ _ _ _ _ _ _ _ _ _ ok11 ?_ ?_ ?_
  exact (@den_tcmp _ _ _ _ _ _ _ _ _ _ _ op_isnot (@den_var _ _ _ _ 11 _ _ rfl (by decide +kernel)) (@den_cmp _ _ _ _ _ _ _ _ _ _ _ op_in (@den_builtin _ _ _ _ _ _ _ _ _ _ _ _ (b_ord (by decide +kernel)) call_ord (@den_lcons _ _ _ _ _ _ _ _ (@den_var _ _ _ _ 10 _ _ rfl (by decide +kernel)) (@den_lnil _ _ _ _) (by intros; rfl)) (by intros; rfl) (by intros; rfl) (by decide)) (@den_var _ _ _ _ 4 _ _ rfl (by decide +kernel)) (by with_unfolding_all rfl) (by decide)) (by with_unfolding_all rfl) (by decide))
  refine @den_scons _ _ _ _ _ _ _ ?_ ?_
  refine @den_ret _ _ _ _ _ _ ok11 ?_
  exact (@den_bool _ _ _ _ false _ _)
  exact (@den_snil _ _ _)
  exact (@den_snil _ _ _)
  refine @den_scons _ _ _ _ _ _ _ ?_ ?_
  refine @den_if _ _ _ _ _ _ _ _ _ _ ok11 ?_ ?_ ?_
  exact (@den_tnot _ _ _ _ _ _ _ (@den_tplain _ _ _ _ _ _ (@den_var _ _ _ _ 11 _ _ rfl (by decide +kernel)) (by intros; rfl)))
  refine @den_scons _ _ _ _ _ _ _ ?_ ?_
  refine @den_aug _ _ _ _ _ _ _ _ _ _ ok11 9 rfl op_iadd ?_ (by decide)
  exact (@den_fn _ _ _ _ _ _ _ _ _ _ _ _ _ _ _ _ (by decide +kernel) (item_mem 4 (by decide)) rfl fn4 (@den_lcons _ _ _ _ _ _ _ _ (@den_var _ _ _ _ 10 _ _ rfl (by decide +kernel)) (@den_lnil _ _ _ _) (by intros; rfl)) (by decide) (by decide +kernel) (by intros; rfl))
  exact (@den_snil _ _ _)
  exact (@den_snil _ _ _)
  exact (@den_snil _ _ _)
  exact (@den_snil _ _ _)
  refine @den_scons _ _ _ _ _ _ _ ?_ ?_
  refine @den_if _ _ _ _ _ _ _ _ _ _ ok11 ?_ ?_ ?_
  exact (@den_tcmp _ _ _ _ _ _ _ _ _ _ _ op_ne (@den_var _ _ _ _ 9 _ _ rfl (by decide +kernel)) (@den_meth0 _ _ _ _ _ _ _ _ _ _ _ m_lower (@den_var _ _ _ _ 8 _ _ rfl (by decide +kernel)) _ (by intros; rfl) (by decide)) (by with_unfolding_all rfl) (by decide))
  refine @den_scons _ _ _ _ _ _ _ ?_ ?_
  refine @den_ret _ _ _ _ _ _ ok11 ?_
  exact (@den_bool _ _ _ _ false _ _)
  exact (@den_snil _ _ _)
  exact (@den_snil _ _ _)
  refine @den_scons _ _ _ _ _ _ _ ?_ ?_
  refine @den_assign _ _ _ _ _ _ _ _ ok11 12 rfl ?_ (by intros; rfl)
  exact (@den_meth _ _ _ _ _ _ _ _ _ _ _ _ _ _ m_split (@den_var _ _ _ _ 9 _ _ rfl (by decide +kernel)) (@den_lcons _ _ _ _ _ _ _ _ (@den_str _ _ _ _ ", " _ _) (@den_lnil _ _ _ _) (by intros; rfl)) _ (by intros; rfl) (by intros; rfl) (by intros; rfl) (by decide))
  refine @den_scons _ _ _ _ _ _ _ ?_ ?_
  exact @den_append _ _ _ _ _ _ _ _ _ _ ok11 6 rfl (@den_comp _ _ _ _ _ _ _ _ _ _ _ _ _ _ [3, 12] ["names", "heard"] ⟨[], []⟩ (by decide +kernel) (by decide +kernel) (by decide +kernel) (@den_type _ _ _ _ _ _ _ _ _ _ _ _ (b_range (by decide +kernel)) call_range (@den_lcons _ _ _ _ _ _ _ _ (@den_int _ _ _ _ 8 _ _) (@den_lnil _ _ _ _) (by intros; rfl)) (by intros; rfl) (by intros; rfl) (by decide)) (@den_ione _ _ _ _ _ _ (@den_tcmp _ _ _ _ _ _ _ _ _ _ _ op_in (@den_meth0 _ _ _ _ _ _ _ _ _ _ _ m_lower (@den_idx _ _ _ _ _ _ _ _ _ (@den_var _ _ _ _ 1 _ _ rfl (by decide +kernel)) (@den_var _ _ _ _ 0 _ _ rfl (by decide +kernel)) (by intros; rfl)) _ (by intros; rfl) (by decide)) (@den_var _ _ _ _ 2 _ _ rfl (by decide +kernel)) (by with_unfolding_all rfl) (by decide))) (@den_var _ _ _ _ 0 _ _ rfl (by decide +kernel)) (by intros; rfl)) _ (by intros; rfl) (by intros; rfl) (by decide +kernel) (by intros; rfl) (by intros; rfl)
  exact (@den_snil _ _ _)
  exact (@den_snil _ _ _)
  refine @den_rel _ _ _ _ _ 6 ?_
  refine @den_scons _ _ _ _ _ _ _ ?_ ?_
  exact @den_acomp _ _ _ _ _ _ _ _ _ _ _ _ _ _ _ _ ok11 13 rfl [] [] ⟨["range"], ["lamps"]⟩ (by decide +kernel) (by decide +kernel) (by decide +kernel) (@den_var _ _ _ _ 6 _ _ rfl (by decide +kernel)) (@den_inone _ _ _ _) (@den_comp _ _ _ _ _ _ _ _ _ _ _ _ _ _ [0] ["lamps"] ⟨[], []⟩ (by decide +kernel) (by decide +kernel) (by decide +kernel) (@den_type _ _ _ _ _ _ _ _ _ _ _ _ (b_range (by decide +kernel)) call_range (@den_lcons _ _ _ _ _ _ _ _ (@den_int _ _ _ _ 8 _ _) (@den_lnil _ _ _ _) (by intros; rfl)) (by intros; rfl) (by intros; rfl) (by decide)) (@den_ione _ _ _ _ _ _ (@den_tcmp _ _ _ _ _ _ _ _ _ _ _ op_notin (@den_var _ _ _ _ 0 _ _ rfl (by decide +kernel)) (@den_var _ _ _ _ 1 _ _ rfl (by decide +kernel)) (by with_unfolding_all rfl) (by decide))) (@den_var _ _ _ _ 0 _ _ rfl (by decide +kernel)) (by intros; rfl)) (by intro _ _ _; rfl) (by intros; rfl)
  refine @den_scons _ _ _ _ _ _ _ ?_ ?_
  refine @den_assign _ _ _ _ _ _ _ _ ok11 14 rfl ?_ (by intros; rfl)
  exact (@den_bin _ _ _ _ _ _ _ _ _ _ _ op_mod (@den_bin _ _ _ _ _ _ _ _ _ _ _ op_floordiv (@den_idx _ _ _ _ _ _ _ _ _ (@den_var _ _ _ _ 1 _ _ rfl (by decide +kernel)) (@den_int _ _ _ _ 1 _ _) (by intros; rfl)) (@den_int _ _ _ _ 972 _ _) (by decide)) (@den_int _ _ _ _ 4 _ _) (by decide))
  refine @den_scons _ _ _ _ _ _ _ ?_ ?_
  refine @den_for _ _ _ _ _ _ _ _ _ _ _ _ ok11 (@asg_name _ _ _ _ _ ok11 15 rfl) ?_ ?_ ?_ (by intros; rfl)
  exact (@den_tup _ _ _ _ _ _ _ _ (@den_lcons _ _ _ _ _ _ _ _ (@den_int _ _ _ _ 0 _ _) (@den_lcons _ _ _ _ _ _ _ _ (@den_bin _ _ _ _ _ _ _ _ _ _ _ op_add (@den_int _ _ _ _ 1 _ _) (@den_bin _ _ _ _ _ _ _ _ _ _ _ op_mod (@den_idx _ _ _ _ _ _ _ _ _ (@den_var _ _ _ _ 1 _ _ rfl (by decide +kernel)) (@den_int _ _ _ _ 2 _ _) (by intros; rfl)) (@den_int _ _ _ _ 4 _ _) (by decide)) (by decide)) (@den_lnil _ _ _ _) (by intros; rfl)) (by intros; rfl)))
  refine @den_scons _ _ _ _ _ _ _ ?_ ?_
  refine @den_assign _ _ _ _ _ _ _ _ ok11 16 rfl ?_ (by intros; rfl)
  exact (@den_fn _ _ _ _ _ _ _ _ _ _ _ _ _ _ _ _ (by decide +kernel) (item_mem 1 (by decide)) rfl fn1 (@den_lcons _ _ _ _ _ _ _ _ (@den_bin _ _ _ _ _ _ _ _ _ _ _ op_div (@den_var _ _ _ _ 14 _ _ rfl (by decide +kernel)) (@den_int _ _ _ _ 32 _ _) (by decide)) (@den_lcons _ _ _ _ _ _ _ _ (@den_flt _ _ _ _ 0 _ _) (@den_lcons _ _ _ _ _ _ _ _ (@den_bin _ _ _ _ _ _ _ _ _ _ _ op_div (@den_var _ _ _ _ 15 _ _ rfl (by decide +kernel)) (@den_int _ _ _ _ 4 _ _) (by decide)) (@den_lnil _ _ _ _) (by intros; rfl)) (by intros; rfl)) (by intros; rfl)) (by decide) (by decide +kernel) (by intros; rfl))
  refine @den_scons _ _ _ _ _ _ _ ?_ ?_
  refine @den_if _ _ _ _ _ _ _ _ _ _ ok11 ?_ ?_ ?_
  exact (@den_tcmp _ _ _ _ _ _ _ _ _ _ _ op_ne (@den_var _ _ _ _ 16 _ _ rfl (by decide +kernel)) (@den_tup _ _ _ _ _ _ _ _ (@den_lcons _ _ _ _ _ _ _ _ (@den_bin _ _ _ _ _ _ _ _ _ _ _ op_div (@den_var _ _ _ _ 15 _ _ rfl (by decide +kernel)) (@den_int _ _ _ _ 4 _ _) (by decide)) (@den_lcons _ _ _ _ _ _ _ _ (@den_bin _ _ _ _ _ _ _ _ _ _ _ op_div (@den_var _ _ _ _ 15 _ _ rfl (by decide +kernel)) (@den_int _ _ _ _ 4 _ _) (by decide)) (@den_lcons _ _ _ _ _ _ _ _ (@den_bin _ _ _ _ _ _ _ _ _ _ _ op_div (@den_var _ _ _ _ 15 _ _ rfl (by decide +kernel)) (@den_int _ _ _ _ 4 _ _) (by decide)) (@den_lnil _ _ _ _) (by intros; rfl)) (by intros; rfl)) (by intros; rfl))) (by with_unfolding_all rfl) (by decide))
  refine @den_scons _ _ _ _ _ _ _ ?_ ?_
  refine @den_ret _ _ _ _ _ _ ok11 ?_
  exact (@den_bool _ _ _ _ false _ _)
  exact (@den_snil _ _ _)
  exact (@den_snil _ _ _)
  refine @den_scons _ _ _ _ _ _ _ ?_ ?_
  refine @den_if _ _ _ _ _ _ _ _ _ _ ok11 ?_ ?_ ?_
  exact (@den_tcmp _ _ _ _ _ _ _ _ _ _ _ op_ne (@den_fn _ _ _ _ _ _ _ _ _ _ _ _ _ _ _ _ (by decide +kernel) (item_mem 0 (by decide)) rfl fn0 (@den_lcons _ _ _ _ _ _ _ _ (@den_idx _ _ _ _ _ _ _ _ _ (@den_var _ _ _ _ 16 _ _ rfl (by decide +kernel)) (@den_int _ _ _ _ 0 _ _) (by intros; rfl)) (@den_lcons _ _ _ _ _ _ _ _ (@den_idx _ _ _ _ _ _ _ _ _ (@den_var _ _ _ _ 16 _ _ rfl (by decide +kernel)) (@den_int _ _ _ _ 1 _ _) (by intros; rfl)) (@den_lcons _ _ _ _ _ _ _ _ (@den_idx _ _ _ _ _ _ _ _ _ (@den_var _ _ _ _ 16 _ _ rfl (by decide +kernel)) (@den_int _ _ _ _ 2 _ _) (by intros; rfl)) (@den_lnil _ _ _ _) (by intros; rfl)) (by intros; rfl)) (by intros; rfl)) (by decide) (by decide +kernel) (by intros; rfl)) (@den_tup _ _ _ _ _ _ _ _ (@den_lcons _ _ _ _ _ _ _ _ (@den_flt _ _ _ _ 0 _ _) (@den_lcons _ _ _ _ _ _ _ _ (@den_bin _ _ _ _ _ _ _ _ _ _ _ op_div (@den_var _ _ _ _ 15 _ _ rfl (by decide +kernel)) (@den_int _ _ _ _ 4 _ _) (by decide)) (@den_lcons _ _ _ _ _ _ _ _ (@den_flt _ _ _ _ 0 _ _) (@den_lnil _ _ _ _) (by intros; rfl)) (by intros; rfl)) (by intros; rfl))) (by with_unfolding_all rfl) (by decide))
  refine @den_scons _ _ _ _ _ _ _ ?_ ?_
  refine @den_ret _ _ _ _ _ _ ok11 ?_
  exact (@den_bool _ _ _ _ false _ _)
  exact (@den_snil _ _ _)
  exact (@den_snil _ _ _)
  exact (@den_snil _ _ _)
  exact (@den_snil _ _ _)
  refine @den_scons _ _ _ _ _ _ _ ?_ ?_
  refine @den_for _ _ _ _ _ _ _ _ _ _ _ _ ok11 (@asg_name _ _ _ _ _ ok11 17 rfl) ?_ ?_ ?_ (by intros; rfl)
  exact (@den_type _ _ _ _ _ _ _ _ _ _ _ _ (b_range (by decide +kernel)) call_range (@den_lcons _ _ _ _ _ _ _ _ (@den_bin _ _ _ _ _ _ _ _ _ _ _ op_mod (@den_bin _ _ _ _ _ _ _ _ _ _ _ op_floordiv (@den_idx _ _ _ _ _ _ _ _ _ (@den_var _ _ _ _ 1 _ _ rfl (by decide +kernel)) (@den_int _ _ _ _ 1 _ _) (by intros; rfl)) (@den_int _ _ _ _ 3888 _ _) (by decide)) (@den_int _ _ _ _ 8 _ _) (by decide)) (@den_lcons _ _ _ _ _ _ _ _ (@den_bin _ _ _ _ _ _ _ _ _ _ _ op_add (@den_bin _ _ _ _ _ _ _ _ _ _ _ op_mod (@den_bin _ _ _ _ _ _ _ _ _ _ _ op_floordiv (@den_idx _ _ _ _ _ _ _ _ _ (@den_var _ _ _ _ 1 _ _ rfl (by decide +kernel)) (@den_int _ _ _ _ 1 _ _) (by intros; rfl)) (@den_int _ _ _ _ 3888 _ _) (by decide)) (@den_int _ _ _ _ 8 _ _) (by decide)) (@den_int _ _ _ _ 3 _ _) (by decide)) (@den_lnil _ _ _ _) (by intros; rfl)) (by intros; rfl)) (by intros; rfl) (by intros; rfl) (by decide))
  refine @den_scons _ _ _ _ _ _ _ ?_ ?_
  exact @den_assignOwn _ _ _ _ _ _ _ _ _ ok11 18 rfl .nil (by decide) (by intros; rfl)
  refine @den_rel _ _ _ _ _ 6 ?_
  refine @den_scons _ _ _ _ _ _ _ ?_ ?_
  refine @den_for _ _ _ _ _ _ _ _ _ _ _ _ ok11 (@asg_pair _ _ _ _ _ _ _ _ _ ok11 19 20 rfl rfl) ?_ ?_ ?_ (by intros; rfl)
  exact (@den_tup _ _ _ _ _ _ _ _ (@den_lcons _ _ _ _ _ _ _ _ (@den_var _ _ _ _ 6 _ _ rfl (by decide +kernel)) (@den_lcons _ _ _ _ _ _ _ _ (@den_var _ _ _ _ 13 _ _ rfl (by decide +kernel)) (@den_lnil _ _ _ _) (by intros; rfl)) (by intros; rfl)))
  refine @den_scons _ _ _ _ _ _ _ ?_ ?_
  exact @den_assignOwn _ _ _ _ _ _ _ _ _ ok11 21 rfl .nil (by decide) (by intros; rfl)
  refine @den_scons _ _ _ _ _ _ _ ?_ ?_
  refine @den_for _ _ _ _ _ _ _ _ _ _ _ _ ok11 (@asg_name _ _ _ _ _ ok11 22 rfl) ?_ ?_ ?_ (by intros; rfl)
  exact (@den_var _ _ _ _ 20 _ _ rfl (by decide +kernel))
  refine @den_scons _ _ _ _ _ _ _ ?_ ?_
  refine @den_assign _ _ _ _ _ _ _ _ ok11 23 rfl ?_ (by intros; rfl)
  exact (@den_bin _ _ _ _ _ _ _ _ _ _ _ op_mod (@den_bin _ _ _ _ _ _ _ _ _ _ _ op_floordiv (@den_idx _ _ _ _ _ _ _ _ _ (@den_var _ _ _ _ 1 _ _ rfl (by decide +kernel)) (@den_int _ _ _ _ 2 _ _) (by intros; rfl)) (@den_bin _ _ _ _ _ _ _ _ _ _ _ op_pow (@den_int _ _ _ _ 16 _ _) (@den_var _ _ _ _ 22 _ _ rfl (by decide +kernel)) (by decide)) (by decide)) (@den_int _ _ _ _ 16 _ _) (by decide))
  refine @den_scons _ _ _ _ _ _ _ ?_ ?_
  refine @den_assign _ _ _ _ _ _ _ _ ok11 24 rfl ?_ (by intros; rfl)
  exact (@den_bin _ _ _ _ _ _ _ _ _ _ _ op_add (@den_bin _ _ _ _ _ _ _ _ _ _ _ op_mul (@den_bin _ _ _ _ _ _ _ _ _ _ _ op_mod (@den_bin _ _ _ _ _ _ _ _ _ _ _ op_add (@den_var _ _ _ _ 22 _ _ rfl (by decide +kernel)) (@den_var _ _ _ _ 17 _ _ rfl (by decide +kernel)) (by decide)) (@den_int _ _ _ _ 8 _ _) (by decide)) (@den_int _ _ _ _ 4 _ _) (by decide)) (@den_var _ _ _ _ 14 _ _ rfl (by decide +kernel)) (by decide))
  refine @den_scons _ _ _ _ _ _ _ ?_ ?_
  refine @den_assign _ _ _ _ _ _ _ _ ok11 25 rfl ?_ (by intros; rfl)
  exact (@den_bin _ _ _ _ _ _ _ _ _ _ _ op_add (@den_bin _ _ _ _ _ _ _ _ _ _ _ op_add (@den_bin _ _ _ _ _ _ _ _ _ _ _ op_div (@den_bin _ _ _ _ _ _ _ _ _ _ _ op_add (@den_var _ _ _ _ 22 _ _ rfl (by decide +kernel)) (@den_var _ _ _ _ 17 _ _ rfl (by decide +kernel)) (by decide)) (@den_int _ _ _ _ 8 _ _) (by decide)) (@den_bin _ _ _ _ _ _ _ _ _ _ _ op_div (@den_var _ _ _ _ 14 _ _ rfl (by decide +kernel)) (@den_int _ _ _ _ 32 _ _) (by decide)) (by decide)) (@den_bin _ _ _ _ _ _ _ _ _ _ _ op_mod (@den_bin _ _ _ _ _ _ _ _ _ _ _ op_floordiv (@den_idx _ _ _ _ _ _ _ _ _ (@den_var _ _ _ _ 1 _ _ rfl (by decide +kernel)) (@den_int _ _ _ _ 1 _ _) (by intros; rfl)) (@den_int _ _ _ _ 324 _ _) (by decide)) (@den_int _ _ _ _ 3 _ _) (by decide)) (by decide))
  refine @den_scons _ _ _ _ _ _ _ ?_ ?_
  refine @den_assign _ _ _ _ _ _ _ _ ok11 26 rfl ?_ (by intros; rfl)
  exact (@den_fn _ _ _ _ _ _ _ _ _ _ _ _ _ _ _ _ (by decide +kernel) (item_mem 1 (by decide)) rfl fn1 (@den_lcons _ _ _ _ _ _ _ _ (@den_var _ _ _ _ 25 _ _ rfl (by decide +kernel)) (@den_lcons _ _ _ _ _ _ _ _ (@den_bin _ _ _ _ _ _ _ _ _ _ _ op_div (@den_bin _ _ _ _ _ _ _ _ _ _ _ op_add (@den_int _ _ _ _ 1 _ _) (@den_bin _ _ _ _ _ _ _ _ _ _ _ op_floordiv (@den_var _ _ _ _ 23 _ _ rfl (by decide +kernel)) (@den_int _ _ _ _ 4 _ _) (by decide)) (by decide)) (@den_int _ _ _ _ 4 _ _) (by decide)) (@den_lcons _ _ _ _ _ _ _ _ (@den_bin _ _ _ _ _ _ _ _ _ _ _ op_div (@den_bin _ _ _ _ _ _ _ _ _ _ _ op_add (@den_int _ _ _ _ 1 _ _) (@den_bin _ _ _ _ _ _ _ _ _ _ _ op_mod (@den_var _ _ _ _ 23 _ _ rfl (by decide +kernel)) (@den_int _ _ _ _ 4 _ _) (by decide)) (by decide)) (@den_int _ _ _ _ 4 _ _) (by decide)) (@den_lnil _ _ _ _) (by intros; rfl)) (by intros; rfl)) (by intros; rfl)) (by decide) (by decide +kernel) (by intros; rfl))
  refine @den_scons _ _ _ _ _ _ _ ?_ ?_
  refine @den_if _ _ _ _ _ _ _ _ _ _ ok11 ?_ ?_ ?_
  exact (@den_tcmp _ _ _ _ _ _ _ _ _ _ _ op_ne (@den_type _ _ _ _ _ _ _ _ _ _ _ _ (b_list (by decide +kernel)) call_list (@den_lcons _ _ _ _ _ _ _ _ (@den_var _ _ _ _ 26 _ _ rfl (by decide +kernel)) (@den_lnil _ _ _ _) (by intros; rfl)) (by intros; rfl) (by intros; rfl) (by decide)) (@den_fn _ _ _ _ _ _ _ _ _ _ _ _ _ _ _ _ (by decide +kernel) (item_mem 9 (by decide)) rfl fn9 (@den_lcons _ _ _ _ _ _ _ _ (@den_var _ _ _ _ 24 _ _ rfl (by decide +kernel)) (@den_lcons _ _ _ _ _ _ _ _ (@den_bin _ _ _ _ _ _ _ _ _ _ _ op_add (@den_int _ _ _ _ 1 _ _) (@den_bin _ _ _ _ _ _ _ _ _ _ _ op_mod (@den_var _ _ _ _ 23 _ _ rfl (by decide +kernel)) (@den_int _ _ _ _ 4 _ _) (by decide)) (by decide)) (@den_lcons _ _ _ _ _ _ _ _ (@den_bin _ _ _ _ _ _ _ _ _ _ _ op_add (@den_int _ _ _ _ 1 _ _) (@den_bin _ _ _ _ _ _ _ _ _ _ _ op_floordiv (@den_var _ _ _ _ 23 _ _ rfl (by decide +kernel)) (@den_int _ _ _ _ 4 _ _) (by decide)) (by decide)) (@den_lnil _ _ _ _) (by intros; rfl)) (by intros; rfl)) (by intros; rfl)) (by decide) (by decide +kernel) (by intros; rfl)) (by with_unfolding_all rfl) (by decide))
  refine @den_scons _ _ _ _ _ _ _ ?_ ?_
  refine @den_ret _ _ _ _ _ _ ok11 ?_
  exact (@den_bool _ _ _ _ false _ _)
  exact (@den_snil _ _ _)
  exact (@den_snil _ _ _)
  refine @den_scons _ _ _ _ _ _ _ ?_ ?_
  refine @den_assign _ _ _ _ _ _ _ _ ok11 27 rfl ?_ (by intros; rfl)
  exact (@den_fn _ _ _ _ _ _ _ _ _ _ _ _ _ _ _ _ (by decide +kernel) (item_mem 0 (by decide)) rfl fn0 (@den_lcons _ _ _ _ _ _ _ _ (@den_idx _ _ _ _ _ _ _ _ _ (@den_var _ _ _ _ 26 _ _ rfl (by decide +kernel)) (@den_int _ _ _ _ 0 _ _) (by intros; rfl)) (@den_lcons _ _ _ _ _ _ _ _ (@den_idx _ _ _ _ _ _ _ _ _ (@den_var _ _ _ _ 26 _ _ rfl (by decide +kernel)) (@den_int _ _ _ _ 1 _ _) (by intros; rfl)) (@den_lcons _ _ _ _ _ _ _ _ (@den_idx _ _ _ _ _ _ _ _ _ (@den_var _ _ _ _ 26 _ _ rfl (by decide +kernel)) (@den_int _ _ _ _ 2 _ _) (by intros; rfl)) (@den_lnil _ _ _ _) (by intros; rfl)) (by intros; rfl)) (by intros; rfl)) (by decide) (by decide +kernel) (by intros; rfl))
  refine @den_scons _ _ _ _ _ _ _ ?_ ?_
  refine @den_if _ _ _ _ _ _ _ _ _ _ ok11 ?_ ?_ ?_
  exact (@den_tcmp _ _ _ _ _ _ _ _ _ _ _ op_ne (@den_var _ _ _ _ 27 _ _ rfl (by decide +kernel)) (@den_fn _ _ _ _ _ _ _ _ _ _ _ _ _ _ _ _ (by decide +kernel) (item_mem 10 (by decide)) rfl fn10 (@den_lcons _ _ _ _ _ _ _ _ (@den_var _ _ _ _ 24 _ _ rfl (by decide +kernel)) (@den_lcons _ _ _ _ _ _ _ _ (@den_bin _ _ _ _ _ _ _ _ _ _ _ op_add (@den_int _ _ _ _ 1 _ _) (@den_bin _ _ _ _ _ _ _ _ _ _ _ op_mod (@den_var _ _ _ _ 23 _ _ rfl (by decide +kernel)) (@den_int _ _ _ _ 4 _ _) (by decide)) (by decide)) (@den_lcons _ _ _ _ _ _ _ _ (@den_bin _ _ _ _ _ _ _ _ _ _ _ op_add (@den_int _ _ _ _ 1 _ _) (@den_bin _ _ _ _ _ _ _ _ _ _ _ op_floordiv (@den_var _ _ _ _ 23 _ _ rfl (by decide +kernel)) (@den_int _ _ _ _ 4 _ _) (by decide)) (by decide)) (@den_lnil _ _ _ _) (by intros; rfl)) (by intros; rfl)) (by intros; rfl)) (by decide) (by decide +kernel) (by intros; rfl)) (by with_unfolding_all rfl) (by decide))
  refine @den_scons _ _ _ _ _ _ _ ?_ ?_
  refine @den_ret _ _ _ _ _ _ ok11 ?_
  exact (@den_bool _ _ _ _ false _ _)
  exact (@den_snil _ _ _)
  exact (@den_snil _ _ _)
  refine @den_scons _ _ _ _ _ _ _ ?_ ?_
  exact @den_append _ _ _ _ _ _ _ _ _ _ ok11 21 rfl (@den_type _ _ _ _ _ _ _ _ _ _ _ _ (b_int (by decide +kernel)) call_int (@den_lcons _ _ _ _ _ _ _ _ (@den_bin _ _ _ _ _ _ _ _ _ _ _ op_mul (@den_idx _ _ _ _ _ _ _ _ _ (@den_var _ _ _ _ 27 _ _ rfl (by decide +kernel)) (@den_int _ _ _ _ 0 _ _) (by intros; rfl)) (@den_int _ _ _ _ 8 _ _) (by decide)) (@den_lnil _ _ _ _) (by intros; rfl)) (by intros; rfl) (by intros; rfl) (by decide)) _ (by intros; rfl) (by intros; rfl) (by decide +kernel) (by intros; rfl) (by intros; rfl)
  exact (@den_snil _ _ _)
  exact (@den_snil _ _ _)
  refine @den_rel _ _ _ _ _ 21 ?_
  refine @den_scons _ _ _ _ _ _ _ ?_ ?_
  refine @den_assign _ _ _ _ _ _ _ _ ok11 28 rfl ?_ (by intros; rfl)
  exact (@den_builtin _ _ _ _ _ _ _ _ _ _ _ _ (b_sum (by decide +kernel)) call_sum (@den_lcons _ _ _ _ _ _ _ _ (@den_comp _ _ _ _ _ _ _ _ _ _ _ _ _ _ [21] ["turned"] ⟨[], []⟩ (by decide +kernel) (by decide +kernel) (by decide +kernel) (@den_var _ _ _ _ 19 _ _ rfl (by decide +kernel)) (@den_ione _ _ _ _ _ _ (@den_tcmp _ _ _ _ _ _ _ _ _ _ _ op_in (@den_var _ _ _ _ 0 _ _ rfl (by decide +kernel)) (@den_var _ _ _ _ 1 _ _ rfl (by decide +kernel)) (by with_unfolding_all rfl) (by decide))) (@den_bin _ _ _ _ _ _ _ _ _ _ _ op_pow (@den_int _ _ _ _ 2 _ _) (@den_var _ _ _ _ 0 _ _ rfl (by decide +kernel)) (by decide)) (by intros; rfl)) (@den_lnil _ _ _ _) (by intros; rfl)) (by intros; rfl) (by intros; rfl) (by decide))
  refine @den_scons _ _ _ _ _ _ _ ?_ ?_
  refine @den_assign _ _ _ _ _ _ _ _ ok11 8 rfl ?_ (by intros; rfl)
  exact (@den_fn _ _ _ _ _ _ _ _ _ _ _ _ _ _ _ _ (by decide +kernel) (item_mem 2 (by decide)) rfl fn2 (@den_lcons _ _ _ _ _ _ _ _ (@den_bin _ _ _ _ _ _ _ _ _ _ _ op_lshift (@den_var _ _ _ _ 28 _ _ rfl (by decide +kernel)) (@den_var _ _ _ _ 2 _ _ rfl (by decide +kernel)) (by decide)) (@den_lnil _ _ _ _) (by intros; rfl)) (by decide) (by decide +kernel) (by intros; rfl))
  refine @den_scons _ _ _ _ _ _ _ ?_ ?_
  exact @den_append _ _ _ _ _ _ _ _ _ _ ok11 18 rfl (@den_ife _ _ _ _ _ _ _ _ _ _ _ (@den_tcmp _ _ _ _ _ _ _ _ _ _ _ op_eq (@den_var _ _ _ _ 8 _ _ rfl (by decide +kernel)) (@den_str _ _ _ _ "0x0" _ _) (by with_unfolding_all rfl) (by decide)) (@den_int _ _ _ _ 0 _ _) (@den_builtin _ _ _ _ _ _ _ _ _ _ _ _ (b_len (by decide +kernel)) call_len (@den_lcons _ _ _ _ _ _ _ _ (@den_meth _ _ _ _ _ _ _ _ _ _ _ _ _ _ m_split (@den_var _ _ _ _ 8 _ _ rfl (by decide +kernel)) (@den_lcons _ _ _ _ _ _ _ _ (@den_str _ _ _ _ ", " _ _) (@den_lnil _ _ _ _) (by intros; rfl)) _ (by intros; rfl) (by intros; rfl) (by intros; rfl) (by decide)) (@den_lnil _ _ _ _) (by intros; rfl)) (by intros; rfl) (by intros; rfl) (by decide))) _ (by intros; rfl) (by intros; rfl) (by decide +kernel) (by intros; rfl) (by intros; rfl)
  exact (@den_snil _ _ _)
  exact (@den_snil _ _ _)
  refine @den_rel _ _ _ _ _ 18 ?_
  refine @den_rel _ _ _ _ _ 6 ?_
  refine @den_scons _ _ _ _ _ _ _ ?_ ?_
  refine @den_if _ _ _ _ _ _ _ _ _ _ ok11 ?_ ?_ ?_
  exact (@den_tcmp _ _ _ _ _ _ _ _ _ _ _ op_ne (@den_bin _ _ _ _ _ _ _ _ _ _ _ op_sub (@den_idx _ _ _ _ _ _ _ _ _ (@den_var _ _ _ _ 18 _ _ rfl (by decide +kernel)) (@den_int _ _ _ _ 0 _ _) (by intros; rfl)) (@den_idx _ _ _ _ _ _ _ _ _ (@den_var _ _ _ _ 18 _ _ rfl (by decide +kernel)) (@den_int _ _ _ _ 1 _ _) (by intros; rfl)) (by decide)) (@den_bin _ _ _ _ _ _ _ _ _ _ _ op_sub (@den_bin _ _ _ _ _ _ _ _ _ _ _ op_add (@den_builtin _ _ _ _ _ _ _ _ _ _ _ _ (b_len (by decide +kernel)) call_len (@den_lcons _ _ _ _ _ _ _ _ (@den_idx _ _ _ _ _ _ _ _ _ (@den_var _ _ _ _ 6 _ _ rfl (by decide +kernel)) (@den_int _ _ _ _ 0 _ _) (by intros; rfl)) (@den_lnil _ _ _ _) (by intros; rfl)) (by intros; rfl) (by intros; rfl) (by decide)) (@den_builtin _ _ _ _ _ _ _ _ _ _ _ _ (b_len (by decide +kernel)) call_len (@den_lcons _ _ _ _ _ _ _ _ (@den_idx _ _ _ _ _ _ _ _ _ (@den_var _ _ _ _ 6 _ _ rfl (by decide +kernel)) (@den_int _ _ _ _ 1 _ _) (by intros; rfl)) (@den_lnil _ _ _ _) (by intros; rfl)) (by intros; rfl) (by intros; rfl) (by decide)) (by decide)) (@den_int _ _ _ _ 8 _ _) (by decide)) (by with_unfolding_all rfl) (by decide))
  refine @den_scons _ _ _ _ _ _ _ ?_ ?_
  refine @den_ret _ _ _ _ _ _ ok11 ?_
  exact (@den_bool _ _ _ _ false _ _)
  exact (@den_snil _ _ _)
  exact (@den_snil _ _ _)
  exact (@den_snil _ _ _)
  exact (@den_snil _ _ _)
  refine @den_scons _ _ _ _ _ _ _ ?_ ?_
  refine @den_ret _ _ _ _ _ _ ok11 ?_
  exact (@den_bool _ _ _ _ true _ _)
  exact (@den_snil _ _ _)
noncomputable def f11 : List D → Option D := fnD 1 29 b11
theorem fn11 : FnDen T0 310 "law" f11 := fn_of (c := c11) (ps := ["script"]) (rest := ["heaps", "shift", "names", "unseen", "beside", "lit", "crowd", "words", "kept", "sign", "held", "heard", "dark", "off", "level", "grey", "turn", "counts", "still", "moved", "turned", "lamp", "kind", "spot", "hue", "paint", "told", "both"]) ok11 rfl (item_mem 11 (by decide)) rfl (fun pm cd doc vs h => by match vs, h with | [a0], _ => rfl) rfl rfl den11

end Mine

namespace Mine
open PySem PySem.Calls PyProof.Rows PyProof.V

/-! a display of a dict with written int keys, of any length -/
section
variable {w : World} {A : Around} {E : Value → Shared → Prop}

structure PairOk (w : World) (A : Around) (E : Value → Shared → Prop) (it : Sem Value × Sem Value) (kd : Int × PyData) : Prop where
  k : ∀ (s : Shared) (Q : Value → Shared → Prop), (∀ t tk, Q (.int kd.1 t) { s with toks := tk }) → wpAny (model prog w) A it.1 Q E s
  v : ∀ (s : Shared) (Q : Value → Shared → Prop), (∀ v tk, Flat v kd.2 → Q v { s with toks := tk }) → wpAny (model prog w) A it.2 Q E s
inductive PairsOk (w : World) (A : Around) (E : Value → Shared → Prop) : List (Sem Value × Sem Value) → List (Int × PyData) → Prop
  | nil : PairsOk w A E [] []
  | cons {p kd ps ks} : PairOk w A E p kd → PairsOk w A E ps ks → PairsOk w A E (p :: ps) (kd :: ks)
theorem PairsOk.length : ∀ {ps ks}, PairsOk w A E ps ks → ps.length = ks.length
  | _, _, .nil => rfl
  | _, _, .cons _ h => congrArg (· + 1) h.length
theorem PairsOk.append : ∀ {ps ks ps' ks'}, PairsOk w A E ps ks → PairsOk w A E ps' ks' → PairsOk w A E (ps ++ ps') (ks ++ ks')
  | _, _, _, _, .nil, h => h
  | _, _, _, _, .cons p h, h' => .cons p (h.append h')

noncomputable abbrev encD (ks : List (Int × PyData)) : List (PyData × PyData) := ks.map fun p => (PyData.int p.1, p.2)

theorem flat_append {kvs kvs' : List (Int × Value)} {D D' : List (PyData × PyData)} (a : FlatPairs PyData.int kvs D) (b : FlatPairs PyData.int kvs' D') : FlatPairs PyData.int (kvs ++ kvs') (D ++ D') := by
  induction a with
  | nil => exact b
  | cons f _ ih => exact .cons f ih
theorem stored_fresh {kvs : List (Int × Value)} {k : Int} {v : Value} (h : k ∉ kvs.map (·.1)) : stored kvs k v = kvs ++ [(k, v)] := by
  unfold stored
  rw [if_neg]
  rw [List.any_eq_true]
  rintro ⟨kv, hkv, he⟩
  exact h (List.mem_map.mpr ⟨kv, hkv, of_decide_eq_true he⟩)

theorem loop16 {d : Addr} : ∀ (pairs : List (Sem Value × Sem Value)) (ks : List (Int × PyData)) (acc : List (Int × Value)) (s : Shared) (Q : PUnit → Shared → Prop), PairsOk w A E pairs ks →
    s.heap.DictOf (intKind prog w) d acc → (acc.map (·.1) ++ ks.map (·.1)).Nodup → acc.length + ks.length ≤ 65536 →
    (∀ h' tk kvs, h'.DictOf (intKind prog w) d (acc ++ kvs) → FlatPairs PyData.int kvs (encD ks) → kvs.map (·.1) = ks.map (·.1) → Heap.SameBut d s.heap h' → Q PUnit.unit { s with heap := h', toks := tk }) →
    wpAny (model prog w) A (forIn pairs PUnit.unit fun (x : Sem Value × Sem Value) (_ : PUnit) => (do
      let kv ← x.1
      let vv ← holding [kv] x.2
      holding [kv, vv] (dictSet d kv vv)
      pure (ForInStep.yield PUnit.unit) : Sem (ForInStep PUnit))) Q E s
  | _, _, acc, s, Q, .nil, hm, _, _, hQ => by
    rw [List.forIn_nil]
    exact wpAny_pure (by simpa using hQ s.heap s.toks [] (by simpa using hm) .nil rfl (Heap.SameBut.refl _ _))
  | _, _, acc, s, Q, .cons (kd := kd) (ks := ks) (ps := ps) p hp, hm, hn, hz, hQ => by
    rw [List.forIn_cons]
    refine wpAny_bind (wpAny_bind (p.k s _ fun t tk => ?_))
    refine wpAny_bind (wpAny_holding (p.v _ _ fun v tk' fv => ?_))
    have hfresh : kd.1 ∉ acc.map (·.1) := by
      intro h
      rw [List.map_cons] at hn
      exact (List.nodup_append.mp hn).2.2 _ h _ List.mem_cons_self rfl
    rw [List.length_cons] at hz
    refine wpAny_bind (wpAny_holding (wpAny_dictSet_pairs (knd := intKind prog w) (k := kd.1) (hsz := by rw [sizeLine_eq]; omega) (by simp [intKind, Value.isInt]) hm fun h₁ hm₁ hs₁ => wpAny_pure ?_))
    rw [stored_fresh hfresh] at hm₁
    refine loop16 ps ks (acc ++ [(kd.1, v)]) _ Q hp hm₁ (by simpa using hn) (by simp; omega) fun h' tk'' kvs hd hf hk hs => ?_
    have := hQ h' tk'' ((kd.1, v) :: kvs) (by simpa using hd) (.cons fv hf) (by simp [hk]) (hs₁.trans hs)
    exact this

theorem evalPairs_ok : ∀ (pairs : List (Sem Value × Sem Value)) (ks : List (Int × PyData)) (s : Shared) (Q : List (Value × Value) → Shared → Prop), PairsOk w A E pairs ks →
    (∀ vs kvs tk, Carries (intKind prog w) vs kvs → FlatPairs PyData.int kvs (encD ks) → kvs.map (·.1) = ks.map (·.1) → Q vs { s with toks := tk }) → wpAny (model prog w) A (evalPairs pairs) Q E s
  | _, _, s, Q, .nil, h => evalPairs_nil (h [] [] s.toks trivial .nil rfl)
  | _, _, s, Q, .cons (kd := kd) (ks := ks) (ps := ps) p hp, h => by
    refine evalPairs_cons (p.k s _ fun t tk => p.v _ _ fun v tk' fv => ?_)
    refine evalPairs_ok ps ks _ _ hp fun vs kvs tk'' c f k => ?_
    exact h ((.int kd.1 t, v) :: vs) ((kd.1, v) :: kvs) tk'' ⟨by simp [intKind, Value.isInt], rfl, c⟩ (.cons fv f) (by simp [k])

theorem sub_ok {pairs : List (Sem Value × Sem Value)} {ks : List (Int × PyData)} {s : Shared} {Q : Addr → Shared → Prop} (hp : PairsOk w A E pairs ks) (hn : (ks.map (·.1)).Nodup) (hz : ks.length ≤ 65536)
    (h : ∀ h' tk kvs, h'.DictOf (intKind prog w) s.heap.objs.size kvs → FlatPairs PyData.int kvs (encD ks) → kvs.map (·.1) = ks.map (·.1) → Ext s.heap h' → Q s.heap.objs.size { s with heap := h', toks := tk }) :
    wpAny (model prog w) A (subDict pairs) Q E s := by
  have hext : ∀ {h'}, Heap.SameBut s.heap.objs.size (s.heap.push { cls := .type "dict", data := .dict #[] }) h' → Ext s.heap h' := fun hs b o e =>
    (hs.2 b (Nat.ne_of_lt (Heap.lt_size e))).trans (Heap.get?_push_of_some _ e)
  unfold subDict
  refine wpAny_bind (wpAny_alloc ?_)
  refine wpAny_bind (wpAny_holding ?_)
  have hnew := Heap.DictOf.new (knd := intKind prog w) s.heap
  split
  · refine wpAny_bind (evalPairs_ok pairs ks _ _ hp fun vs kvs tk c f k => ?_)
    refine wpAny_holding ?_
    have hl := c.length
    have hkl : kvs.length = ks.length := by have := congrArg List.length k; simpa using this
    refine wpAny_bind (wpAny_storeAll (knd := intKind prog w) vs kvs [] _ _ c hnew (by rw [sizeLine_eq, List.length_nil]; omega) fun h' hm' hs' => wpAny_pure (wpAny_pure ?_))
    rw [merged_nil_of_nodup kvs (by rw [k]; exact hn)] at hm'
    exact h h' _ kvs hm' f k (hext hs')
  · refine wpAny_bind (wpAny_rule ?_)
    refine wpAny_bind (loop16 pairs ks [] _ _ hp hnew (by simpa using hn) (by simpa using hz) fun h' tk kvs hd f k hs => wpAny_pure (wpAny_pure ?_))
    exact h h' tk kvs (by simpa using hd) f k (hext hs)
end
end Mine

namespace Mine
open PySem PySem.Calls PyProof.Rows PyProof.V
section
variable {w : World} {A : Around} {E : Value → Shared → Prop} {s : Shared}

theorem put_fresh {d : Addr} {kvs : List (Int × Value)} {k : Int} {key v : Value} {Q : Unit → Shared → Prop} (hkey : (intKind prog w).is k key = true) (hm : s.heap.DictOf (intKind prog w) d kvs) (hf : k ∉ kvs.map (·.1))
    (hz : kvs.length ≤ 65536)
    (hQ : ∀ h', h'.DictOf (intKind prog w) d (kvs ++ [(k, v)]) → Heap.SameBut d s.heap h' → Q () { s with heap := h' }) :
    wpAny (model prog w) A (dictPut d ((intKind prog w).hash k) key v) Q E s := by
  obtain ⟨o, es, ep, ho, hc, hd, hk, hp, hn⟩ := hm
  have hes : es.size ≤ sizeLine := by
    have e1 := hp.length
    have e2 : es.toList.length = es.size := by simp
    rw [sizeLine_eq]; omega
  unfold dictPut
  refine wpAny_bind (wpAny_dictFind_of hkey ho hd hk ?_)
  have hidx : (es.findIdx? fun e => (intKind prog w).is k e.key) = none := by
    have h1 : (es.findIdx? fun e => (intKind prog w).is k e.key) = kvs.findIdx? fun kv => decide (kv.1 = k) := by
      rw [← hp.findIdx k]; obtain ⟨l⟩ := es; simp
    rw [h1, List.findIdx?_eq_none_iff]
    intro kv hkv
    simp only [decide_eq_false_iff_not]
    intro e
    exact hf (List.mem_map.mpr ⟨kv, hkv, e⟩)
  rw [hidx]
  refine wpAny_updateDictKeys (hz := hes) ho hd (hQ _ ⟨_, _, ep + 1, Heap.get?_update_self _ ho (Obj.isFreed_of_dict (Obj.data_mapDictKeys hd _)),
      hc.mapDictKeys _, Obj.data_mapDictKeys hd _, hk.push hkey _, ?_, ?_⟩ (Heap.SameBut.update ..))
  · have := hp.append hkey ((intKind prog w).hash k) v
    obtain ⟨l⟩ := es
    simpa using this
  · rw [List.map_append, List.nodup_append]
    refine ⟨hn, by simp, ?_⟩
    intro a ha b hb
    simp only [List.map_cons, List.map_nil, List.mem_singleton] at hb
    subst hb
    exact fun e => hf (e ▸ ha)

theorem merge_ok {d o : Addr} {kvs more : List (Int × Value)} {Q : Unit → Shared → Prop} (hdo : d ≠ o) (hoS : (o == sysModules) = false) (hne : kvs ≠ [])
    (hd : s.heap.DictOf (intKind prog w) d kvs) (ho : s.heap.DictOf (intKind prog w) o more) (hn : (kvs.map (·.1) ++ more.map (·.1)).Nodup) (hz : kvs.length + more.length ≤ 65536)
    (hQ : ∀ h', h'.DictOf (intKind prog w) d (kvs ++ more) → Heap.SameBut d s.heap h' → Q () { s with heap := h' }) :
    wpAny (model prog w) A (mergeMapping d (.ref o) false) Q E s := by
  obtain ⟨od, esd, epd, hod, hcd, hdd, hkd, hpd, hnd⟩ := id hd
  obtain ⟨oo, eso, epo, hoo, hco, hdo', hko, hpo, hno⟩ := id ho
  have hT : s.TypeIs (.ref o) "dict" := ⟨oo, hoo, hco.1⟩
  unfold mergeMapping
  refine wpAny_bind (wpAny_isInstance hT F.sub_dict_dict ?_)
  simp only [if_true]
  refine wpAny_bind (wpAny_specialOf hT F.slot_dict_iter.lookup ?_)
  refine wpAny_bind (wpAny_pure ?_)
  have hb : (some (Value.builtin "dict.__iter__") == some (Value.builtin "dict.__iter__")) = true := by decide
  rw [hb]
  dsimp only
  rw [if_neg (by rw [hoS]; exact Bool.false_ne_true)]
  refine wpAny_bind (wpAny_dictEntries hod hdd ?_)
  have hlend : kvs.length = esd.size := by rw [← hpd.length]; simp
  have hemp : esd.isEmpty = false := by
    cases h : esd.isEmpty with
    | false => rfl
    | true =>
      exfalso
      have h0 : esd = #[] := Array.isEmpty_iff.mp h
      rw [h0] at hlend
      exact hne (List.length_eq_zero_iff.mp (by simpa using hlend))
  rw [hemp]
  simp only [Bool.false_eq_true, if_false]
  refine wpAny_bind (wpAny_dictEntries hoo hdo' ?_)
  refine wpAny_bind (wpAny_dictEpoch hoo hdo' ?_)
  have hlen : more.length = eso.size := by rw [← hpo.length]; simp
  refine wpAny_bind ?_
  refine wpAny_forIn_list _
      (fun rest _ s' => ∃ h' i, s' = { s with heap := h' } ∧ rest = List.range' i (eso.size - i) ∧ i ≤ eso.size ∧ h'.DictOf (intKind prog w) d (kvs ++ more.take i) ∧ h'.get? o = some oo ∧ Heap.SameBut d s.heap h')
      _ ?_ ?_ _ _ ⟨s.heap, 0, rfl, by simp [List.range_eq_range'], Nat.zero_le _, by simpa using hd, hoo, Heap.SameBut.refl _ _⟩
  · rintro x rest b s' ⟨h', i, rfl, hr, hi, hd', hoo', hs'⟩
    have hlt : i < eso.size := by
      rcases Nat.lt_or_ge i eso.size with h | h
      · exact h
      · rw [Nat.sub_eq_zero_of_le h] at hr; simp at hr
    obtain ⟨rfl, hrest⟩ : x = i ∧ rest = List.range' (i + 1) (eso.size - (i + 1)) := by
      have e : eso.size - i = (eso.size - (i + 1)) + 1 := by omega
      rw [e, List.range'_succ] at hr
      injection hr with h1 h2
      exact ⟨h1, h2⟩
    refine wpAny_bind (wpAny_dictEntries hoo' hdo' ?_)
    rw [Array.getElem?_eq_getElem hlt]
    obtain ⟨kv, hkv⟩ : ∃ kv, more[x]? = some kv := ⟨more[x]'(by rw [hlen]; exact hlt), List.getElem?_eq_getElem _⟩
    obtain ⟨k, v⟩ := kv
    obtain ⟨hkey, hval⟩ := hpo.get? (e := eso[x]) (by simp [hlt]) hkv
    obtain ⟨k', hkey', hhash⟩ := hko eso[x] (Array.getElem_mem hlt)
    obtain rfl : k' = k := (intKind prog w).inj _ _ _ hkey' hkey
    dsimp only
    rw [hhash, hval]
    have htk : more.take (x + 1) = more.take x ++ [(k', v)] := by rw [List.take_add_one, hkv]; rfl
    have hfr : k' ∉ (kvs ++ more.take x).map (·.1) := by
      have h2 : ((kvs ++ more.take (x + 1)).map (·.1)).Nodup := by
        rw [List.map_append]
        refine hn.sublist (List.Sublist.append (List.Sublist.refl _) ?_)
        exact (List.take_sublist _ _).map _
      rw [htk, ← List.append_assoc, List.map_append, List.nodup_append] at h2
      intro hin
      exact h2.2.2 _ hin k' (by simp) rfl
    have hzz : (kvs ++ more.take x).length ≤ 65536 := by
      rw [List.length_append, List.length_take]; omega
    refine wpAny_bind (wpAny_holding (put_fresh hkey hd' hfr hzz fun h'' hd'' hs'' => ?_))
    have hoo'' : h''.get? o = some oo := (hs''.2 o (Ne.symm hdo)).trans hoo'
    refine wpAny_bind (wpAny_dictEpoch hoo'' hdo' ?_)
    rw [if_neg (by simp)]
    exact wpAny_pure ⟨h'', x + 1, rfl, hrest, hlt, by rw [htk, ← List.append_assoc]; exact hd'', hoo'', hs'.trans hs''⟩
  · rintro b s' ⟨h', i, rfl, hr, hi, hd', hoo', hs'⟩
    have hin : i = eso.size := by
      rcases Nat.lt_or_ge i eso.size with h | h
      · have e : eso.size - i = (eso.size - (i + 1)) + 1 := by omega
        rw [e, List.range'_succ] at hr; exact nomatch hr
      · exact Nat.le_antisymm hi h
    refine wpAny_pure (hQ h' ?_ hs')
    rw [hin, ← hlen, List.take_length] at hd'; exact hd'
end
end Mine

namespace Mine
open PySem PySem.Calls PyProof.Rows PyProof.V
section
variable {w : World} {A : Around} {E : Value → Shared → Prop} {s : Shared}

/-- what the display's main dict holds -/
noncomputable def MainOk (w : World) (h₀ h : Heap) (main : Option Addr) (ks : List (Int × PyData)) : Prop :=
  Ext h₀ h ∧ h₀.objs.size ≤ h.objs.size ∧ match main with
  | none => ks = []
  | some d => ks ≠ [] ∧ h₀.objs.size ≤ d ∧ (d == sysModules) = false ∧ ∃ kvs, h.DictOf (intKind prog w) d kvs ∧ FlatPairs PyData.int kvs (encD ks) ∧ kvs.map (·.1) = ks.map (·.1)

noncomputable abbrev flushD (run : List (Sem Value × Sem Value)) (main : Option Addr) : Sem (Option Addr) := do
    if run.isEmpty then return main
    match main with
    | none => return some (← subDict run)
    | some d =>
      let sub ← holding [.ref d] (subDict run)
      (holding [.ref d, .ref sub] (mergeMapping d (.ref sub) false)).onRaise fun x => do let _ ← holding [.ref d, x] (runValue (.builtin "proto.let_go" {}))
      return some d

theorem flush_ok {h₀ : Heap} {run : List (Sem Value × Sem Value)} {main : Option Addr} {dks rks : List (Int × PyData)} {Q : Option Addr → Shared → Prop} (hs : sysModules < h₀.objs.size)
    (hm : MainOk w h₀ s.heap main dks) (hp : PairsOk w A NoE run rks) (hn : ((dks ++ rks).map (·.1)).Nodup) (hz : (dks ++ rks).length ≤ 65536)
    (h : ∀ m' h' tk, MainOk w h₀ h' m' (dks ++ rks) → Q m' { s with heap := h', toks := tk }) :
    wpAny (model prog w) A (flushD run main) Q NoE s := by
  have hlow : ∀ {d : Addr}, h₀.objs.size ≤ d → (d == sysModules) = false := fun hd => by
    rw [beq_eq_false_iff_ne]; intro e; rw [e] at hd; exact absurd hs (Nat.not_lt.mpr hd)
  unfold flushD
  cases hp with
  | nil =>
    simp only [List.isEmpty_nil, if_true]
    exact wpAny_pure (by simpa using h main s.heap s.toks (by simpa using hm))
  | @cons p kd ps ks p1 hp =>
    simp only [List.isEmpty_cons, Bool.false_eq_true, if_false]
    obtain ⟨hx, hN0, hm⟩ := hm
    have lts : ∀ {h' : Heap} {d : Addr} {kvs : List (Int × Value)}, h'.DictOf (intKind prog w) d kvs → d < h'.objs.size := fun hd => by
      obtain ⟨o, _, _, ho, _⟩ := hd; exact Heap.lt_size ho
    have hn2 : ((kd :: ks).map (·.1)).Nodup := by
      rw [List.map_append] at hn; exact (List.nodup_append.mp hn).2.1
    have hz2 : (kd :: ks).length ≤ 65536 := by rw [List.length_append] at hz; omega
    cases main with
    | none =>
      dsimp only at hm
      subst hm
      dsimp only
      refine wpAny_bind (sub_ok (.cons p1 hp) hn2 hz2 fun h' tk kvs hd hf hk hx' => wpAny_pure ?_)
      refine h _ h' tk ⟨hx.trans hx', Nat.le_trans hN0 (Nat.le_of_lt (lts hd)), by simp, hN0, hlow hN0, kvs, hd, by simpa using hf, by simpa using hk⟩
    | some d =>
      dsimp only at hm
      obtain ⟨hne, hd0, hdS, kvs0, hd, hf, hk⟩ := hm
      dsimp only
      refine wpAny_bind (wpAny_holding (sub_ok (.cons p1 hp) hn2 hz2 fun h' tk kvs hd' hf' hk' hx' => ?_))
      have hdlt : d < s.heap.objs.size := by
        obtain ⟨o, _, _, ho, _⟩ := hd; exact Heap.lt_size ho
      have hd1 := hd.keep hx'
      refine wpAny_bind (wpAny_onRaise (wpAny_holding (merge_ok (s := { s with heap := h', toks := tk }) (Nat.ne_of_lt hdlt) (hlow hN0) ?_ hd1 hd' ?_ ?_ fun h'' hm'' hs'' => wpAny_pure ?_)))
      · intro e; subst e; simp at hk; exact hne hk
      · rw [hk, hk', ← List.map_append]; exact hn
      · have e1 := congrArg List.length hk; have e2 := congrArg List.length hk'
        simp only [List.length_map] at e1 e2
        rw [List.length_append] at hz; omega
      · refine h _ h'' tk ⟨?_, Nat.le_trans hN0 (Nat.le_trans (Nat.le_of_lt (lts hd')) (Nat.le_of_eq hs''.1.symm)), by simp, hd0, hdS, _, hm'', ?_, ?_⟩
        · intro b o e
          refine (hs''.2 b ?_).trans (hx' b o (hx b o e))
          intro eb; subst eb
          exact absurd (Heap.lt_size e) (Nat.not_lt.mpr hd0)
        · rw [encD, List.map_append]; exact flat_append hf hf'
        · rw [List.map_append, List.map_append, hk, hk']

theorem display_ok {pairs : List (Sem Value × Sem Value)} {ks : List (Int × PyData)} {Q : Value → Shared → Prop} (hs : sysModules < s.heap.objs.size) (hp : PairsOk w A NoE pairs ks) (hne : ks ≠ [])
    (hn : (ks.map (·.1)).Nodup) (hz : ks.length ≤ 65536) (h : ∀ d h' tk, s.heap.objs.size ≤ d → IntTab prog w h' d (encD ks) → Ext s.heap h' → Q (.ref d) { s with heap := h', toks := tk }) :
    wpAny (model prog w) A (dictDisplay (pairs.map fun p => (some p.1, p.2))) Q NoE s := by
  unfold dictDisplay
  dsimp only
  refine wpAny_bind ?_
  refine wpAny_forIn_list _
      (fun rest (st : Option Addr × List (Sem Value × Sem Value)) s' => ∃ h' tk dks rks tks tps, s' = { s with heap := h', toks := tk } ∧ rest = tps.map (fun p => (some p.1, p.2)) ∧ PairsOk w A NoE tps tks ∧ PairsOk w A NoE st.2 rks ∧ st.2.length < 17 ∧ ks = dks ++ rks ++ tks ∧ MainOk w s.heap h' st.1 dks)
      _ ?_ ?_ _ _ ⟨s.heap, s.toks, [], [], ks, pairs, rfl, rfl, hp, .nil, by simp, by simp, Ext.refl _, Nat.le_refl _, rfl⟩
  · rintro x rest ⟨main, run⟩ s' ⟨h', tk, dks, rks, tks, tps, rfl, hr, ht, hru, hl, hk, hm⟩
    cases ht with
    | nil => cases hr
    | @cons p kd tps tks p1 ht =>
      rw [List.map_cons] at hr
      injection hr with hr1 hr2
      subst hr1; subst hr2
      dsimp only at hru hl hm ⊢
      have hru' : PairsOk w A NoE (run ++ [(p.1, p.2)]) (rks ++ [kd]) := hru.append (.cons p1 .nil)
      split
      · rename_i h17
        refine wpAny_bind (flush_ok (s := { s with heap := h', toks := tk }) hs hm hru' ?_ ?_ fun m' h'' tk' hm' => wpAny_pure ?_)
        · rw [hk] at hn
          refine hn.sublist ?_
          simp
        · rw [hk] at hz; simp at hz ⊢; omega
        · exact ⟨h'', tk', dks ++ (rks ++ [kd]), [], tks, tps, rfl, rfl, ht, .nil, by simp, by rw [hk]; simp, hm'⟩
      · rename_i h17
        refine wpAny_pure ⟨h', tk, dks, rks ++ [kd], tks, tps, rfl, rfl, ht, hru', ?_, by rw [hk]; simp, hm⟩
        simp at h17 ⊢
        omega
  · rintro ⟨main, run⟩ s' ⟨h', tk, dks, rks, tks, tps, rfl, hr, ht, hru, hl, hk, hm⟩
    cases ht with
    | cons _ _ => cases hr
    | nil =>
      dsimp only at hru hl hm ⊢
      rw [List.append_nil] at hk
      refine wpAny_bind (flush_ok (s := { s with heap := h', toks := tk }) hs hm hru (by rw [← hk]; exact hn) (by rw [← hk]; exact hz) fun m' h'' tk' hm' => ?_)
      rw [← hk] at hm'
      obtain ⟨hx, hN, hm'⟩ := hm'
      cases m' with
      | none => exact absurd hm' hne
      | some d =>
        obtain ⟨_, hd0, hdS, kvs, hd, hf, hkk⟩ := hm'
        exact wpAny_pure (h d h'' tk' hd0 ⟨hdS, kvs, hd, hf⟩ hx)
end
end Mine

namespace Mine
open PySem PySem.Calls PyProof.Rows PyProof.V

noncomputable def stAt (k : Nat) : Stmt := prog.main.body[k]?.getD (.Pass ⟨0, 0, 0, 0⟩)
theorem body_eq : prog.main.body = [stAt 0, stAt 1, stAt 2, stAt 3, stAt 4, stAt 5, stAt 6, stAt 7, stAt 8, stAt 9, stAt 10, stAt 11, stAt 12, stAt 13, stAt 14, stAt 15, stAt 16, stAt 17, stAt 18] := by kernel_rfl
noncomputable def theDef (d : DefItem) : Stmt := .FunctionDef d.name d.params d.body [] none [] d.scope none d.name d.pos
theorem st_d0 : stAt 1 = theDef (itemAt 0) := by kernel_rfl
theorem st_d1 : stAt 2 = theDef (itemAt 1) := by kernel_rfl
theorem st_d2 : stAt 5 = theDef (itemAt 2) := by kernel_rfl
theorem st_d3 : stAt 8 = theDef (itemAt 3) := by kernel_rfl
theorem st_d4 : stAt 10 = theDef (itemAt 4) := by kernel_rfl
theorem st_d5 : stAt 12 = theDef (itemAt 5) := by kernel_rfl
theorem st_d6 : stAt 13 = theDef (itemAt 6) := by kernel_rfl
theorem st_d7 : stAt 14 = theDef (itemAt 7) := by kernel_rfl
theorem st_d8 : stAt 15 = theDef (itemAt 8) := by kernel_rfl
theorem st_d9 : stAt 16 = theDef (itemAt 9) := by kernel_rfl
theorem st_d10 : stAt 17 = theDef (itemAt 10) := by kernel_rfl
theorem st_d11 : stAt 18 = theDef (itemAt 11) := by kernel_rfl
noncomputable def PlainD (d : DefItem) : Prop := PlainDefTree d.name d.params d.body d.scope d.pos
theorem pl0 : PlainD (itemAt 0) := by intro env; kernel_rfl
theorem pl1 : PlainD (itemAt 1) := by intro env; kernel_rfl
theorem pl2 : PlainD (itemAt 2) := by intro env; kernel_rfl
theorem pl3 : PlainD (itemAt 3) := by intro env; kernel_rfl
theorem pl4 : PlainD (itemAt 4) := by intro env; kernel_rfl
theorem pl5 : PlainD (itemAt 5) := by intro env; kernel_rfl
theorem pl6 : PlainD (itemAt 6) := by intro env; kernel_rfl
theorem pl7 : PlainD (itemAt 7) := by intro env; kernel_rfl
theorem pl8 : PlainD (itemAt 8) := by intro env; kernel_rfl
theorem pl9 : PlainD (itemAt 9) := by intro env; kernel_rfl
theorem pl10 : PlainD (itemAt 10) := by intro env; kernel_rfl
theorem pl11 : PlainD (itemAt 11) := by intro env; kernel_rfl

/-- what a def of the top must be like -/
noncomputable def defOkB (d : DefItem) : Bool := d.scope.names.all (fun x => x.2 != .free) && (docOf d.body).isNone && prog.main.scope.names.lookup d.name == some .local && d.params.defaults.isEmpty && d.name != "__builtins__" &&
  qualnameIn { scope := prog.main.scope, locals := mainGlobals, globals := mainGlobals, cells := [] } d.name d.name == d.name
theorem defs_ok : theItems.all defOkB = true := by decide +kernel
theorem main_kind : prog.main.scope.kind = .module := by kernel_rfl
theorem def_poss : theItems.map (fun d => (d.pos.line, d.pos.col)) = theItems.map (fun d => (d.pos.line, 0)) := by decide +kernel
theorem def_lines : (theItems.map (fun d => d.pos.line)).Nodup := by decide +kernel
end Mine

namespace Mine
open PySem PySem.Calls PyProof.Rows PyProof.V

/-! places of code told so far -/
noncomputable def Tri : List Nat → List Value → Prop
  | [], [] => True
  | l :: ls, .int a _ :: .int _ _ :: _ :: rest => a = (l : Int) ∧ Tri ls rest
  | _, _ => False
theorem Tri.snoc {l b : Nat} {v : Value} : ∀ {ls vs}, Tri ls vs → Tri (ls ++ [l]) (vs ++ [rawInt l, rawInt b, v])
  | [], [], _ => ⟨rfl, trivial⟩
  | l' :: ls, .int a _ :: .int _ _ :: _ :: rest, h => ⟨h.1, Tri.snoc h.2⟩
theorem Tri.none {pos : Pos} : ∀ {ls vs}, Tri ls vs → pos.line ∉ ls → codeAmong pos vs = none
  | [], [], _, _ => rfl
  | l' :: ls, .int a _ :: .int _ _ :: _ :: rest, h, hn => by
    simp only [List.mem_cons, not_or] at hn
    unfold codeAmong
    rw [if_neg, Tri.none h.2 hn.2]
    rw [h.1]
    simp only [Bool.and_eq_true, beq_iff_eq, not_and]
    intro e; omega

section
variable {w : World} {A : Around} {s : Shared} {c Pl F : Addr} {h₀ : Heap} {mg₀ mg : Str → Option Value} {ps : Array Value}
  {defs : List DefItem} {consts : List (Str × PyData)} {objs : List (Str × (Obj → Prop))} {names : List Str} {Q : Flow → Shared → Prop}

theorem top_def {d : DefItem} {ls : List Nat} (ok : defOkB d = true) (pl : PlainD d) (X : Mod h₀ mg₀ c Pl s.heap mg ps defs [] objs names) (hnew : d.name ∉ names) (hl : Tri ls ps.toList) (hp : d.pos.line ∉ ls)
    (k : ∀ h' mg' ps' tk, Mod h₀ mg₀ c Pl h' mg' ps' (d :: defs) [] objs (d.name :: names) → Tri (ls ++ [d.pos.line]) ps'.toList → Q .next { s with heap := h', toks := tk }) :
    wpAny (model prog w) A (exec (theDef d) (mainEnv prog c F)) Q NoE s := by
  unfold defOkB at ok
  simp only [Bool.and_eq_true, List.all_eq_true, bne_iff_ne, ne_eq, Option.isNone_iff_eq_none, beq_iff_eq, List.isEmpty_iff] at ok
  obtain ⟨⟨⟨⟨⟨h1, h2⟩, h3⟩, h4⟩, h5⟩, h6⟩ := ok
  refine @Mod.def_plain (model prog w) A NoE s prog c Pl F h₀ mg₀ mg ps defs [] objs names Q d.name d.params d.body d.scope d.pos X pl h1 h2 h3 h6 hnew (fun h' mg' c' tk X' => k h' mg' _ tk X' ?_) h5 main_kind (hl.none hp) h4
  rw [Array.toList_append]
  exact hl.snoc

theorem mod_drop {x : Str} (X : Mod h₀ mg₀ c Pl s.heap mg ps defs [] objs names) (hd : ∀ d ∈ defs, d.name ≠ x) (ho : ∀ p ∈ objs, p.1 ≠ x) :
    Mod h₀ (fun y => if y = x then mg x else mg₀ y) c Pl s.heap mg ps defs [] objs (names.filter fun y => y ≠ x) := by
  refine ⟨X.main, X.keep, X.made, (fun _ hp => nomatch hp), fun y hy => ?_, fun d h => ?_, (fun _ hp => nomatch hp), X.held, fun p h => ?_, X.grows, X.lowP, X.lowG, X.tabs⟩
  · by_cases e : y = x
    · rw [if_pos e, e]
    · rw [if_neg e]
      exact X.others y fun hm => hy (List.mem_filter.mpr ⟨hm, by simpa using e⟩)
  · exact List.mem_filter.mpr ⟨X.dnames d h, by simpa using hd d h⟩
  · exact List.mem_filter.mpr ⟨X.onames p h, by simpa using ho p h⟩

theorem top_name {x : Str} {p' p pos : Pos} {y : Str} {n : Nat} (X : Mod h₀ mg₀ c Pl s.heap mg ps defs [] objs names) (hd : ∀ d ∈ defs, d.name ≠ x) (ho : ∀ p ∈ objs, p.1 ≠ x)
    (hloc : prog.main.scope.names.lookup x = some .local) (hnb : x ≠ "__builtins__")
    (k : ∀ h' mg' tk, Mod h₀ mg₀ c Pl h' mg' ps defs [] objs (x :: names) → Q .next { s with heap := h', toks := tk }) :
    wpAny (model prog w) A (exec (.Assign [.Name x p'] (.Constant (.str y) n p) pos) (mainEnv prog c F)) Q NoE s := by
  have X' := mod_drop X hd ho
  refine @Mod.assign (model prog w) A NoE s prog c Pl F h₀ _ mg ps defs [] objs _ Q x p' pos (.Constant (.str y) n p) (.str y) X' hloc (by simp) (fun Q' h => ?_) (fun h' mg' tk Y => k h' mg' tk ?_) hnb main_kind rfl
  · exact Constant_str (h _ _ fun h => .str _ _)
  · refine ⟨Y.main, Y.keep, Y.made, (fun _ hp => nomatch hp), fun z hz => ?_, fun d h => List.mem_cons_of_mem _ (X.dnames d h), (fun _ hp => nomatch hp), Y.held, fun p h => List.mem_cons_of_mem _ (X.onames p h), Y.grows, Y.lowP, Y.lowG, Y.tabs⟩
    simp only [List.mem_cons, not_or] at hz
    have := Y.others z (by
      simp only [List.mem_cons, List.mem_filter, not_or, not_and]
      exact ⟨hz.1, fun h => absurd h hz.2⟩)
    rw [this, if_neg hz.1]

/-! dicts -/
noncomputable def keyLit : Option Expr → Option Int
  | some (.Constant (.int i) _ _) => some i
  | _ => none
theorem keyLit_inv {k : Option Expr} {i : Int} (h : keyLit k = some i) : ∃ a b, k = some (.Constant (.int i) a b) := by
  unfold keyLit at h
  split at h
  · cases h; exact ⟨_, _, rfl⟩
  · cases h
noncomputable def strLit : Expr → Option Str
  | .Constant (.str x) _ _ => some x
  | _ => none
theorem strLit_inv {k : Expr} {i : Str} (h : strLit k = some i) : ∃ a b, k = .Constant (.str i) a b := by
  unfold strLit at h
  split at h
  · cases h; exact ⟨_, _, rfl⟩
  · cases h
noncomputable def litPairs : List (Option Expr) → List Expr → Option (List (Int × Str))
  | [], [] => some []
  | k :: ks, v :: vs => match keyLit k, strLit v, litPairs ks vs with
    | some i, some x, some r => some ((i, x) :: r)
    | _, _, _ => none
  | _, _ => none
theorem litPairs_ok {env : Env} {pos : Pos} : ∀ {ks vs ps}, litPairs ks vs = some ps → ∃ pairs, (evalEachOpt ks env).zip ((evalEach vs env).map fun v => do let x ← v; standAt pos; pure x) = pairs.map (fun p => (some p.1, p.2)) ∧
    PairsOk w A NoE pairs (ps.map fun p => (p.1, PyData.str p.2))
  | [], [], _, h => by cases h; exact ⟨[], rfl, .nil⟩
  | [], _ :: _, _, h => by cases h
  | _ :: _, [], _, h => by cases h
  | k :: ks, v :: vs, ps, h => by
    unfold litPairs at h
    split at h
    · rename_i i x r e1 e2 e
      cases h
      obtain ⟨k1, p1, rfl⟩ := keyLit_inv e1
      obtain ⟨k2, p2, rfl⟩ := strLit_inv e2
      obtain ⟨pairs, h1, h2⟩ := litPairs_ok (env := env) (pos := pos) e
      refine ⟨(eval (.Constant (.int i) k1 p1) env, do let v ← eval (.Constant (.str x) k2 p2) env; standAt pos; pure v) :: pairs, ?_, .cons ⟨fun s Q h => ?_, fun s Q h => ?_⟩ h2⟩
      · rw [List.map_cons, ← h1]; rfl
      · exact wpAny_Constant_int (k := k1) (pos := p1) (env := env) (h _ _)
      · exact wpAny_bind (Constant_str (k := k2) (pos := p2) (env := env) (wpAny_bind (wpAny_standAt (wpAny_pure (h _ _ (.str _ _))))))
    · cases h

noncomputable def TabObj (w : World) (D : List (PyData × PyData)) (o : Obj) : Prop := ∃ kvs, o.IsDictOf (intKind prog w) kvs ∧ FlatPairs PyData.int kvs D
noncomputable def dictPs (x : Str) : Stmt → Option (List (Int × Str))
  | .Assign [.Name y _] (.Dict ks vs _) _ => if y = x then litPairs ks vs else none
  | _ => none
theorem top_dict {x : Str} {st : Stmt} {kvs : List (Int × Str)} (hst : dictPs x st = some kvs) (hne : kvs ≠ []) (hn : (kvs.map (·.1)).Nodup) (hz : kvs.length ≤ 65536)
    (X : Mod h₀ mg₀ c Pl s.heap mg ps defs [] objs names) (hnew : x ∉ names) (hloc : prog.main.scope.names.lookup x = some .local) (hnb : x ≠ "__builtins__")
    (k : ∀ h' mg' tk, Mod h₀ mg₀ c Pl h' mg' ps defs [] ((x, TabObj w (encD (kvs.map fun p => (p.1, PyData.str p.2)))) :: objs) (x :: names) → Q .next { s with heap := h', toks := tk }) :
    wpAny (model prog w) A (exec st (mainEnv prog c F)) Q NoE s := by
  unfold dictPs at hst
  split at hst
  · rename_i y p' ks vs p pos
    split at hst
    · rename_i e
      subst e
      obtain ⟨pairs, h1, h2⟩ := litPairs_ok (w := w) (A := A) (env := mainEnv prog c F) (pos := p) hst
      refine @Mod.assign_obj (model prog w) A NoE s prog c Pl F h₀ mg₀ mg ps defs [] objs names Q y p' pos (.Dict ks vs p) _ X hloc hnew (fun Q' h => ?_) k hnb main_kind rfl
      rw [arm_eval_Dict, h1]
      refine wpAny_bind (wpAny_standAt (display_ok ?_ h2 (by simpa using hne) (by rw [List.map_map]; exact hn) (by simpa using hz) fun d h' tk hd T x => ?_))
      · exact Nat.lt_of_lt_of_le (show sysModules < mainGlobals by decide) (Nat.le_of_lt (Nat.lt_of_lt_of_le X.lowG X.grows))
      · obtain ⟨_, kvs', hd', hf⟩ := T
        obtain ⟨o, ho, hi⟩ := Heap.dictOf_iff.mp hd'
        exact h d o h' tk hd ho ⟨kvs', hi, hf⟩ x
    · cases hst
  · cases hst
end
end Mine

namespace Mine
open PySem PySem.Calls PyProof.Rows PyProof.V

theorem intsAre_of {P : Addr → Prop} {h : Heap} : ∀ {vs : List Value} {ns : List Int}, RepL P h vs (ns.map D.int) → IntsAre vs ns
  | [], [], _ => .nil
  | [], _ :: _, r => by cases r
  | _ :: _, [], r => by cases r
  | v :: vs, n :: ns, r => by
    cases r with | cons a r =>
    cases a
    exact .cons _ _ (intsAre_of r)

noncomputable def SetObj (w : World) (S : Int → Bool) (o : Obj) : Prop := ∃ es ep t, o.ExactSet ∧ o.data = .set es ep t ∧ ElemsOf (intKind prog w) es.toList ∧ (∀ k, S k = true ↔ ∃ e ∈ es.toList, (intKind prog w).is k e.2 = true)
    ∧ es.size < scanBound ∧ t.fits es.size = true
theorem b1_first : PyProof.Rows.firstMet (fun i => b1List.getD i 0) 27 = b1List := by decide +kernel
theorem b1_any (k : Int) : (b1List.any (· == k)) = b1S k := by
  unfold b1S
  rw [List.contains_eq_any_beq]
  congr 1
  funext x
  rw [Bool.eq_iff_iff, beq_iff_eq, beq_iff_eq]
  exact eq_comm

section
variable {w : World} {A : Around} {s : Shared} {c Pl F : Addr} {h₀ : Heap} {mg₀ mg : Str → Option Value} {ps : Array Value}
  {defs : List DefItem} {consts : List (Str × PyData)} {objs : List (Str × (Obj → Prop))} {names : List Str} {Q : Flow → Shared → Prop}

structure TopNs (h : Heap) (mg : Str → Option Value) : Prop where
  b : ∃ mb, h.Ns builtinsNs mb ∧ ∀ x : Str, x ≠ "__name__" → mb x = bootBuiltins x
  statics : h.Ns cStatics (fun _ => none)

theorem name_top {x : Str} {pos : Pos} {v : Value} {Q : Value → Shared → Prop} {c F : Addr} (hg : s.heap.Ns mainGlobals mg) (hm : mg x = none) (hb : ∃ mb, s.heap.Ns builtinsNs mb ∧ ∀ x : Str, x ≠ "__name__" → mb x = bootBuiltins x)
    (hv : bootBuiltins x = some v) (hn : x ≠ "__name__") (hd : (x == ("__debug__" : Str)) = false) (h : Q v s) : wpAny (model prog w) A (eval (.Name x pos) (mainEnv prog c F)) Q NoE s := by
  obtain ⟨mb, hb, hbb⟩ := hb
  exact Name_module main_kind rfl (loadGlobal_builtin (env := mainEnv prog c F) hg hm hb ((hbb x hn).trans hv) h) hd

theorem top_set {t : Tops} {x : Str} {p' p0 p1 p2 p3 p4 p5 p6 p7 p8 p9 pos : Pos} {k1 k2 : Nat} (rm : A.handled = none) {kk : Nat} {pp : Pos} {rest : List Expr} (hes : Consts rest (([847, 6150, 6155, 6156, 6157, 8203, 8204, 8205, 8288, 65279] : List Int).map D.int))
    (hA : A.depth ≤ 400) (hU : A.units ≤ 4000)
    (X : Mod h₀ mg₀ c Pl s.heap mg ps defs [] objs names) (hnew : x ∉ names) (hloc : prog.main.scope.names.lookup x = some .local) (hnb : x ≠ "__builtins__")
    (hb : ∃ mb, s.heap.Ns builtinsNs mb ∧ ∀ x : Str, x ≠ "__name__" → mb x = bootBuiltins x) (hset : mg "set" = none) (hlist : mg "list" = none) (hrange : mg "range" = none)
    (hT : ∃ N mg mb, TopAt t w N mg mb s.heap)
    (k : ∀ h' mg' tk, Mod h₀ mg₀ c Pl h' mg' ps defs [] ((x, SetObj w b1S) :: objs) (x :: names) → Q .next { s with heap := h', toks := tk }) :
    wpAny (model prog w) A (exec (.Assign [.Name x p'] (.Call (.Name "set" p0) [.BinOp (.List (.Constant (.int 173) kk pp :: rest) p1) .Add (.Call (.Name "list" p2) [.Call (.Name "range" p3) [.Constant (.int 65024) k1 p4, .Constant (.int 65040) k2 p5] [] p6] [] p7) p8] [] p9) pos) (mainEnv prog c F)) Q NoE s := by
  have rmB : Room 400 A := ⟨hA, hU, rm⟩
  refine @Mod.assign_obj (model prog w) A NoE s prog c Pl F h₀ mg₀ mg ps defs [] objs names Q x p' pos _ _ X hloc hnew (fun Q' h => ?_) k hnb main_kind rfl
  refine Call_ (name_top (v := .type "set") X.main.g hset hb (by rfl) (by decide +kernel) (by decide +kernel) ?_)
  refine callWith_type1 (args_cons (wpAny_BinOp (List_ (args_cons (wpAny_Constant_int (hes.den _ _ (Nat.succ_pos _) fun vs tk ktk R => ?_)))))) rfl rfl
  have hvl : vs.length = 10 := (R (fun _ => True) s.heap).length
  refine wpAny_newList ?_ (by rw [List.length_cons, hvl, sizeLine_eq]; omega)
  have x1 : Ext s.heap (s.heap.push (LObj (Value.int 173 s.toks :: vs).toArray 0)) := Ext.push _ _
  generalize hh1 : s.heap.push (LObj (Value.int 173 s.toks :: vs).toArray 0) = h1 at x1
  have hl1 : h1.get? s.heap.objs.size = some (LObj (Value.int 173 s.toks :: vs).toArray 0) := hh1 ▸ Heap.get?_push_size _ rfl
  have hnb' : ∀ {h2 : Heap}, Ext s.heap h2 → ∃ mb, h2.Ns builtinsNs mb ∧ ∀ x : Str, x ≠ "__name__" → mb x = bootBuiltins x := fun x2 => let ⟨mb, a, b⟩ := hb; ⟨mb, a.keeps x2, b⟩
  have hT' : ∀ {h2 : Heap}, Ext s.heap h2 → ∃ N mg mb, TopAt t w N mg mb h2 := fun x2 => let ⟨N, mg, mb, a⟩ := hT; ⟨N, mg, mb, a.keeps x2⟩
  refine Call_ (name_top (s := { s with heap := h1, toks := tk }) (v := .type "list") (X.main.g.keeps x1) hlist (hnb' x1) (by rfl) (by decide +kernel) (by decide +kernel) ?_)
  refine callWith_type1 (args_cons (Call_ (name_top (s := { s with heap := h1, toks := tk }) (v := .type "range") (X.main.g.keeps x1) hrange (hnb' x1) (by rfl) (by decide +kernel) (by decide +kernel) ?_))) rfl rfl
  refine callWith_type1 (args_cons (wpAny_Constant_int (args_cons (wpAny_Constant_int (args_nil ?_))))) rfl rfl
  refine call_range w A _ 400 (fun _ => True) _ [.int 65024, .int 65040] (.rng 65024 65040) _ rmB (by decide) (Nat.succ_pos _) (hT' x1) (fun _ _ => trivial) (.cons (.int _ _) (.cons (.int _ _) .nil)) (by rfl) fun v2 h2 tk2 k2 x2 r2 => args_nil ?_
  refine call_list w A _ 400 (fun _ => True) _ [.rng 65024 65040] (.list (rangeItems 65024 65040)) _ rmB (by decide) k2 (hT' (x1.trans x2)) (fun _ _ => trivial) (.cons r2 .nil) (by rfl) fun v3 h3 tk3 k3 x3 r3 => ?_
  have x13 : Ext s.heap h3 := (x1.trans x2).trans x3
  have ra : Rep (fun _ => True) h3 (.ref s.heap.objs.size) (.list ((([173, 847, 6150, 6155, 6156, 6157, 8203, 8204, 8205, 8288, 65279] : List Int).map D.int))) :=
    .list trivial (x3 _ _ (x2 _ _ hl1)) (.cons (.int _ _) (R _ _))
  refine op_add (t := t) w A _ 400 (fun _ => True) _ _ _ _ (.list (b1List.map D.int)) _ rmB (by decide) k3 (hT' x13) (fun _ _ => trivial) ra r3 ?_ fun v4 h4 tk4 k4 x4 r4 => args_nil ?_
  · simp only [dAdd]
    rw [if_pos (by rw [rangeItems_length]; decide)]
    congr 2
  · cases r4 with | list p4 hl4 r4 =>
    rename_i l vs4 n4
    have hia := intsAre_of r4
    have hsz : vs4.size = 27 := by
      have := r4.length
      rw [Array.length_toList, List.length_map] at this
      rw [this]; decide +kernel
    refine call_set_list (ns := b1List) rm (IsList_of hl4) hia (by rw [hsz]; decide) fun h5 tk5 hS hk5 => ?_
    have x5 : Ext s.heap h5 := fun b o e => hk5 b o (Heap.lt_size (x4 _ _ (x13 _ _ e))) (x4 _ _ (x13 _ _ e))
    obtain ⟨o, es', ep, tt, ho, h51, h52, h53, h54, h55, h56, h57⟩ := hS
    refine h _ o h5 tk5 ?_ ho ⟨es', ep, tt, h51, h52, h53, fun k => ?_, h55, h56⟩ x5
    · show s.heap.objs.size ≤ h4.objs.size
      exact Nat.le_of_lt (Heap.lt_size (x4 _ _ (x3 _ _ (x2 _ _ hl1))))
    · rw [← h54 k, hsz, b1_first]
      show _ ↔ (b1List.any (· == k)) = true
      rw [b1_any]
end
end Mine

namespace Mine
open PySem PySem.Calls PyProof.Rows PyProof.V

structure Base (h₀ : Heap) (mg₀ mb : Str → Option Value) : Prop where
  b : h₀.Ns builtinsNs mb
  bb : ∀ x : Str, x ≠ "__name__" → mb x = bootBuiltins x
  st : h₀.Ns cStatics (fun _ => none)
  py : ∃ mm, h₀.Ns sysModules mm ∧ mm "_pylong" = none
  oth : ∀ x, x ∉ bootMainNames → mg₀ x = none

section
variable {w : World} {A : Around} {s : Shared} {c Pl F : Addr} {h₀ h : Heap} {mg₀ mg mb : Str → Option Value} {ps : Array Value}
  {defs : List DefItem} {objs : List (Str × (Obj → Prop))} {names : List Str}

theorem glob_of (B : Base h₀ mg₀ mb) (X : Mod h₀ mg₀ c Pl h mg ps defs [] objs names) : Glob h₀.objs.size mg mb defs [] objs names h := by
  have p0 : builtinsNs ≠ Pl := Nat.ne_of_lt (Nat.lt_trans (by decide) X.main.low.2)
  have p2 : cStatics ≠ Pl := Nat.ne_of_lt (Nat.lt_trans (by decide) X.main.low.2)
  have p1 : sysModules ≠ Pl := Nat.ne_of_lt (Nat.lt_trans (by decide) X.main.low.2)
  have st : h.Ns cStatics (fun _ => none) := B.st.at fun o => X.keep _ o p2 (by decide)
  have b : h.Ns builtinsNs mb := B.b.at fun o => X.keep _ o p0 (by decide)
  obtain ⟨mm, hm, hp⟩ := B.py
  obtain ⟨bm, o, hbm, _, _, _, hbo, h1, h2, _⟩ := X.main.bmod
  exact ⟨X.main.g, b, B.bb, ⟨_, st, rfl⟩, X.made, X.bound, fun x hx hn => (X.others x hx).trans (B.oth x hn), ⟨_, st, rfl⟩,
    fun p hp => let ⟨a, o, hN, hb, ho, hq⟩ := X.held p hp; ⟨a, o, Nat.lt_of_lt_of_le X.lowG hN, hb, ho, hq⟩,
    ⟨⟨_, st, rfl, rfl⟩, ⟨mm, hm.at fun o => X.keep _ o p1 (by decide), hp⟩, ⟨mb, b, B.bb⟩, ⟨mg, bm, o, X.main.g, hbm, hbo, h1, h2⟩⟩⟩
theorem glob_more (w : World) (B : Base h₀ mg₀ mb) (X : Mod h₀ mg₀ c Pl h mg ps defs [] objs names) : ∃ N mg mb, TopAt ⟨[], names, [], []⟩ w N mg mb h := by
  have G := glob_of B X
  have p2 : cStatics ≠ Pl := Nat.ne_of_lt (Nat.lt_trans (by decide) X.main.low.2)
  exact ⟨h₀.objs.size, mg, mb, ⟨G.g, G.b, G.builtins, G.nolimit, (fun _ h => nomatch h), (fun _ h => nomatch h), G.free, G.digits, (fun _ h => nomatch h), G.seer⟩, B.st.at fun o => X.keep _ o p2 (by decide), (fun _ h => nomatch h), (fun _ h => nomatch h)⟩
theorem builtins_now (B : Base h₀ mg₀ mb) (X : Mod h₀ mg₀ c Pl h mg ps defs [] objs names) : ∃ mb, h.Ns builtinsNs mb ∧ ∀ x : Str, x ≠ "__name__" → mb x = bootBuiltins x :=
  have G := glob_of B X
  ⟨mb, G.b, G.builtins⟩

noncomputable def flagPs : List (Int × Str) := (dictPs "COMPILER_FLAG_NAMES" (stAt 4)).getD []
noncomputable def b3Ps : List (Int × Str) := (dictPs "b3_exceptions" (stAt 9)).getD []
theorem st_4 : dictPs "COMPILER_FLAG_NAMES" (stAt 4) = some flagPs := by kernel_rfl
theorem st_9 : dictPs "b3_exceptions" (stAt 9) = some b3Ps := by kernel_rfl
theorem flag_ne : flagPs ≠ [] := by decide +kernel
theorem b3_ne : b3Ps ≠ [] := by decide +kernel
theorem flag_len : flagPs.length ≤ 65536 := by decide +kernel
theorem b3_len : b3Ps.length ≤ 65536 := by decide +kernel
theorem flag_nd : (flagPs.map (·.1)).Nodup := by decide +kernel
theorem sorted_nodup : ∀ (l : List Int), (l.zip l.tail).all (fun p => p.1 < p.2) = true → l.Nodup := by
  have h : ∀ (l : List Int), (l.zip l.tail).all (fun p => p.1 < p.2) = true → l.Pairwise (· < ·) := by
    intro l
    induction l with
    | nil => intro _; exact .nil
    | cons a r ih =>
      intro h
      cases r with
      | nil => exact List.pairwise_singleton _ _
      | cons b r =>
        simp only [List.tail_cons, List.zip_cons_cons, List.all_cons, Bool.and_eq_true, decide_eq_true_eq] at h
        have := ih (by simpa using h.2)
        refine .cons (fun x hx => ?_) this
        rcases List.mem_cons.mp hx with rfl | hx
        · exact h.1
        · have := List.rel_of_pairwise_cons this hx
          omega
  intro l hl
  exact (h l hl).imp fun h => Int.ne_of_lt h
theorem b3_nd : (b3Ps.map (·.1)).Nodup := sorted_nodup _ (by decide +kernel)
theorem flag_tab : flagTab = encD (flagPs.map fun p => (p.1, PyData.str p.2)) := by kernel_rfl
theorem b3_tab : b3Tab = encD (b3Ps.map fun p => (p.1, PyData.str p.2)) := by kernel_rfl

theorem st_0 : ∃ p' n p y pos, stAt 0 = .Assign [.Name "__name__" p'] (.Constant (.str y) n p) pos := ⟨_, _, _, _, _, rfl⟩
theorem st_3 : ∃ p' n p y pos, stAt 3 = .Assign [.Name "__name__" p'] (.Constant (.str y) n p) pos := ⟨_, _, _, _, _, rfl⟩
theorem st_6 : ∃ p' n p y pos, stAt 6 = .Assign [.Name "__name__" p'] (.Constant (.str y) n p) pos := ⟨_, _, _, _, _, rfl⟩
theorem st_11 : ∃ p' n p y pos, stAt 11 = .Assign [.Name "__name__" p'] (.Constant (.str y) n p) pos := ⟨_, _, _, _, _, rfl⟩
theorem st_7 : ∃ p' p0 p1 p2 p3 p4 p5 p6 p7 p8 p9 pos kk pp rest k1 k2, stAt 7 = .Assign [.Name "b1_set" p'] (.Call (.Name "set" p0) [.BinOp (.List (.Constant (.int 173) kk pp :: rest) p1) .Add (.Call (.Name "list" p2) [.Call (.Name "range" p3) [.Constant (.int 65024) k1 p4, .Constant (.int 65040) k2 p5] [] p6] [] p7) p8] [] p9) pos ∧
    Consts rest (([847, 6150, 6155, 6156, 6157, 8203, 8204, 8205, 8288, 65279] : List Int).map D.int) :=
  ⟨_, _, _, _, _, _, _, _, _, _, _, _, _, _, _, _, _, rfl, .int _ _ _ (.int _ _ _ (.int _ _ _ (.int _ _ _ (.int _ _ _ (.int _ _ _ (.int _ _ _ (.int _ _ _ (.int _ _ _ (.int _ _ _ .nil)))))))))⟩
end
end Mine

namespace Mine
open PySem PySem.Calls PyProof.Rows PyProof.V
theorem obj_ne {objs : List (Str × (Obj → Prop))} {l : List Str} {x : Str} (h : objs.map (·.1) = l) (h2 : x ∉ l) : ∀ p ∈ objs, p.1 ≠ x := fun p hp e => h2 (h ▸ List.mem_map.mpr ⟨p, hp, e⟩)
theorem def_ok (k : Nat) (h : k < 12) : defOkB (itemAt k) = true := List.all_eq_true.mp defs_ok _ (item_mem k h)
noncomputable def endDefs : List DefItem := [itemAt 11, itemAt 10, itemAt 9, itemAt 8, itemAt 7, itemAt 6, itemAt 5, itemAt 4, itemAt 3, itemAt 2, itemAt 1, itemAt 0]
noncomputable def endNames : List Str := [(itemAt 11).name, (itemAt 10).name, (itemAt 9).name, (itemAt 8).name, (itemAt 7).name, (itemAt 6).name, (itemAt 5).name, "__name__", (itemAt 4).name, "b3_exceptions", (itemAt 3).name, "b1_set", "__name__", (itemAt 2).name, "COMPILER_FLAG_NAMES", "__name__", (itemAt 1).name, (itemAt 0).name, "__name__"]
noncomputable def endObjs (w : World) : List (Str × (Obj → Prop)) := [("b3_exceptions", TabObj w b3Tab), ("b1_set", SetObj w b1S), ("COMPILER_FLAG_NAMES", TabObj w flagTab)]
section
variable (w : World) (A : Around) (s0 : Shared) (c Pl F : Addr) (h₀ : Heap) (mg₀ : Str → Option Value) (Q : Flow → Shared → Prop)
  (h : Heap) (tk : Nat) (mg : Str → Option Value) (ps : Array Value) (defs : List DefItem) (objs : List (Str × (Obj → Prop))) (names : List Str) (st : Stmt) (rest : List Stmt)
noncomputable abbrev atS (s : Shared) (h : Heap) (tk : Nat) : Shared := { s with heap := h, toks := tk }
theorem walk_name (hst : ∃ p' n p y pos, st = .Assign [.Name "__name__" p'] (.Constant (.str y) n p) pos) (X : Mod h₀ mg₀ c Pl h mg ps defs [] objs names) (hd : ∀ d ∈ defs, d.name ≠ "__name__") (ho : ∀ p ∈ objs, p.1 ≠ "__name__")
    (k : ∀ h' mg' tk', Mod h₀ mg₀ c Pl h' mg' ps defs [] objs ("__name__" :: names) → wpAny (model prog w) A (execs rest (mainEnv prog c F)) Q NoE (atS s0 h' tk')) :
    wpAny (model prog w) A (execs (st :: rest) (mainEnv prog c F)) Q NoE (atS s0 h tk) := by
  obtain ⟨p', n, p, y, pos, rfl⟩ := hst
  exact wpAny_execs_cons (top_name (s := atS s0 h tk) X hd ho (by decide +kernel) (by decide +kernel) fun h' mg' tk' Y => k h' mg' tk' Y)
theorem walk_def (d : DefItem) (ls : List Nat) (hst : st = theDef d) (ok : defOkB d = true) (pl : PlainD d) (X : Mod h₀ mg₀ c Pl h mg ps defs [] objs names) (hnew : d.name ∉ names) (hl : Tri ls ps.toList) (hp : d.pos.line ∉ ls)
    (k : ∀ h' mg' ps' tk', Mod h₀ mg₀ c Pl h' mg' ps' (d :: defs) [] objs (d.name :: names) → Tri (ls ++ [d.pos.line]) ps'.toList → wpAny (model prog w) A (execs rest (mainEnv prog c F)) Q NoE (atS s0 h' tk')) :
    wpAny (model prog w) A (execs (st :: rest) (mainEnv prog c F)) Q NoE (atS s0 h tk) := by
  subst hst
  exact wpAny_execs_cons (top_def (s := atS s0 h tk) ok pl X hnew hl hp fun h' mg' ps' tk' Y T => k h' mg' ps' tk' Y T)
theorem walk_dict (x : Str) (kvs : List (Int × Str)) (D : List (PyData × PyData)) (hst : dictPs x st = some kvs) (hD : D = encD (kvs.map fun p => (p.1, PyData.str p.2))) (hne : kvs ≠ []) (hn : (kvs.map (·.1)).Nodup) (hz : kvs.length ≤ 65536)
    (X : Mod h₀ mg₀ c Pl h mg ps defs [] objs names) (hnew : x ∉ names) (hloc : prog.main.scope.names.lookup x = some .local) (hnb : x ≠ "__builtins__")
    (k : ∀ h' mg' tk', Mod h₀ mg₀ c Pl h' mg' ps defs [] ((x, TabObj w D) :: objs) (x :: names) → wpAny (model prog w) A (execs rest (mainEnv prog c F)) Q NoE (atS s0 h' tk')) :
    wpAny (model prog w) A (execs (st :: rest) (mainEnv prog c F)) Q NoE (atS s0 h tk) := by
  subst hD
  exact wpAny_execs_cons (top_dict (s := atS s0 h tk) hst hne hn hz X hnew hloc hnb fun h' mg' tk' Y => k h' mg' tk' Y)
theorem walk_set (mb : Str → Option Value) (B : Base h₀ mg₀ mb) (hst : ∃ p' p0 p1 p2 p3 p4 p5 p6 p7 p8 p9 pos kk pp rest k1 k2, st = .Assign [.Name "b1_set" p'] (.Call (.Name "set" p0) [.BinOp (.List (.Constant (.int 173) kk pp :: rest) p1) .Add (.Call (.Name "list" p2) [.Call (.Name "range" p3) [.Constant (.int 65024) k1 p4, .Constant (.int 65040) k2 p5] [] p6] [] p7) p8] [] p9) pos ∧
    Consts rest (([847, 6150, 6155, 6156, 6157, 8203, 8204, 8205, 8288, 65279] : List Int).map D.int)) (rm : Room 400 A)
    (X : Mod h₀ mg₀ c Pl h mg ps defs [] objs names) (hnew : ("b1_set" : Str) ∉ names) (n1 : ("set" : Str) ∉ names) (n2 : ("list" : Str) ∉ names) (n3 : ("range" : Str) ∉ names)
    (k : ∀ h' mg' tk', Mod h₀ mg₀ c Pl h' mg' ps defs [] (("b1_set", SetObj w b1S) :: objs) ("b1_set" :: names) → wpAny (model prog w) A (execs rest (mainEnv prog c F)) Q NoE (atS s0 h' tk')) :
    wpAny (model prog w) A (execs (st :: rest) (mainEnv prog c F)) Q NoE (atS s0 h tk) := by
  obtain ⟨p', p0, p1, p2, p3, p4, p5, p6, p7, p8, p9, pos, kk, pp, rs, k1, k2, rfl, hes⟩ := hst
  have fr : ∀ x : Str, x ∉ names → x ∉ bootMainNames → mg x = none := fun x h1 h2 => (X.others x h1).trans (B.oth x h2)
  exact wpAny_execs_cons (top_set (s := atS s0 h tk) rm.handled hes (Nat.le_trans rm.depth (by decide)) (Nat.le_trans rm.units (by decide)) X hnew (by decide +kernel) (by decide +kernel) (builtins_now B X) (fr _ n1 (by decide +kernel)) (fr _ n2 (by decide +kernel)) (fr _ n3 (by decide +kernel)) (glob_more w B X) fun h' mg' tk' Y => k h' mg' tk' Y)
end
set_option maxHeartbeats 1000000 in
theorem top_walk0 (w : World) (A : Around) (s0 : Shared) (c Pl F : Addr) (h₀ : Heap) (mg₀ mb : Str → Option Value) (Q : Flow → Shared → Prop) (rm : Room 400 A) (B : Base h₀ mg₀ mb) (h0 : Heap) (t0 : Nat) (m0 : Str → Option Value) (X0 : Mod h₀ mg₀ c Pl h0 m0 #[] [] [] [] [])
    (k : ∀ h' mg' ps' tk, Mod h₀ mg₀ c Pl h' mg' ps' endDefs [] (endObjs w) endNames → Q .next (atS s0 h' tk)) :
    wpAny (model prog w) A (execs [stAt 0, stAt 1, stAt 2, stAt 3, stAt 4, stAt 5, stAt 6, stAt 7, stAt 8, stAt 9, stAt 10, stAt 11, stAt 12, stAt 13, stAt 14, stAt 15, stAt 16, stAt 17, stAt 18] (mainEnv prog c F)) Q NoE (atS s0 h0 t0) := by
  have T0 : Tri [] (#[] : Array Value).toList := trivial
  refine @walk_name w A s0 c Pl F h₀ mg₀ Q h0 t0 m0 _ _ _ _ _ _ st_0 X0 (by decide +kernel) (obj_ne (l := ([] : List Str)) rfl (by decide +kernel)) ?_
  intro h1 m1 t1 X1
  refine @walk_def w A s0 c Pl F h₀ mg₀ Q h1 t1 m1 _ _ _ _ _ _ (itemAt 0) [] st_d0 (def_ok 0 (by decide)) pl0 X1 (by decide +kernel) T0 (by decide +kernel) ?_
  intro h2 m2 p2 t2 X2 T1
  refine @walk_def w A s0 c Pl F h₀ mg₀ Q h2 t2 m2 _ _ _ _ _ _ (itemAt 1) [(itemAt 0).pos.line] st_d1 (def_ok 1 (by decide)) pl1 X2 (by decide +kernel) T1 (by decide +kernel) ?_
  intro h3 m3 p3 t3 X3 T2
  refine @walk_name w A s0 c Pl F h₀ mg₀ Q h3 t3 m3 _ _ _ _ _ _ st_3 X3 (by decide +kernel) (obj_ne (l := ([] : List Str)) rfl (by decide +kernel)) ?_
  intro h4 m4 t4 X4
  refine @walk_dict w A s0 c Pl F h₀ mg₀ Q h4 t4 m4 _ _ _ _ _ _ "COMPILER_FLAG_NAMES" _ _ st_4 flag_tab flag_ne flag_nd flag_len X4 (by decide +kernel) (by decide +kernel) (by decide +kernel) ?_
  intro h5 m5 t5 X5
  refine @walk_def w A s0 c Pl F h₀ mg₀ Q h5 t5 m5 _ _ _ _ _ _ (itemAt 2) [(itemAt 0).pos.line, (itemAt 1).pos.line] st_d2 (def_ok 2 (by decide)) pl2 X5 (by decide +kernel) T2 (by decide +kernel) ?_
  intro h6 m6 p6 t6 X6 T3
  refine @walk_name w A s0 c Pl F h₀ mg₀ Q h6 t6 m6 _ _ _ _ _ _ st_6 X6 (by decide +kernel) (obj_ne (l := (["COMPILER_FLAG_NAMES"] : List Str)) rfl (by decide +kernel)) ?_
  intro h7 m7 t7 X7
  refine @walk_set w A s0 c Pl F h₀ mg₀ Q h7 t7 m7 _ _ _ _ _ _ mb B st_7 rm X7 (by decide +kernel) (by decide +kernel) (by decide +kernel) (by decide +kernel) ?_
  intro h8 m8 t8 X8
  refine @walk_def w A s0 c Pl F h₀ mg₀ Q h8 t8 m8 _ _ _ _ _ _ (itemAt 3) [(itemAt 0).pos.line, (itemAt 1).pos.line, (itemAt 2).pos.line] st_d3 (def_ok 3 (by decide)) pl3 X8 (by decide +kernel) T3 (by decide +kernel) ?_
  intro h9 m9 p9 t9 X9 T4
  refine @walk_dict w A s0 c Pl F h₀ mg₀ Q h9 t9 m9 _ _ _ _ _ _ "b3_exceptions" _ _ st_9 b3_tab b3_ne b3_nd b3_len X9 (by decide +kernel) (by decide +kernel) (by decide +kernel) ?_
  intro h10 m10 t10 X10
  refine @walk_def w A s0 c Pl F h₀ mg₀ Q h10 t10 m10 _ _ _ _ _ _ (itemAt 4) [(itemAt 0).pos.line, (itemAt 1).pos.line, (itemAt 2).pos.line, (itemAt 3).pos.line] st_d4 (def_ok 4 (by decide)) pl4 X10 (by decide +kernel) T4 (by decide +kernel) ?_
  intro h11 m11 p11 t11 X11 T5
  refine @walk_name w A s0 c Pl F h₀ mg₀ Q h11 t11 m11 _ _ _ _ _ _ st_11 X11 (by decide +kernel) (obj_ne (l := (["b3_exceptions", "b1_set", "COMPILER_FLAG_NAMES"] : List Str)) rfl (by decide +kernel)) ?_
  intro h12 m12 t12 X12
  refine @walk_def w A s0 c Pl F h₀ mg₀ Q h12 t12 m12 _ _ _ _ _ _ (itemAt 5) [(itemAt 0).pos.line, (itemAt 1).pos.line, (itemAt 2).pos.line, (itemAt 3).pos.line, (itemAt 4).pos.line] st_d5 (def_ok 5 (by decide)) pl5 X12 (by decide +kernel) T5 (by decide +kernel) ?_
  intro h13 m13 p13 t13 X13 T6
  refine @walk_def w A s0 c Pl F h₀ mg₀ Q h13 t13 m13 _ _ _ _ _ _ (itemAt 6) [(itemAt 0).pos.line, (itemAt 1).pos.line, (itemAt 2).pos.line, (itemAt 3).pos.line, (itemAt 4).pos.line, (itemAt 5).pos.line] st_d6 (def_ok 6 (by decide)) pl6 X13 (by decide +kernel) T6 (by decide +kernel) ?_
  intro h14 m14 p14 t14 X14 T7
  refine @walk_def w A s0 c Pl F h₀ mg₀ Q h14 t14 m14 _ _ _ _ _ _ (itemAt 7) [(itemAt 0).pos.line, (itemAt 1).pos.line, (itemAt 2).pos.line, (itemAt 3).pos.line, (itemAt 4).pos.line, (itemAt 5).pos.line, (itemAt 6).pos.line] st_d7 (def_ok 7 (by decide)) pl7 X14 (by decide +kernel) T7 (by decide +kernel) ?_
  intro h15 m15 p15 t15 X15 T8
  refine @walk_def w A s0 c Pl F h₀ mg₀ Q h15 t15 m15 _ _ _ _ _ _ (itemAt 8) [(itemAt 0).pos.line, (itemAt 1).pos.line, (itemAt 2).pos.line, (itemAt 3).pos.line, (itemAt 4).pos.line, (itemAt 5).pos.line, (itemAt 6).pos.line, (itemAt 7).pos.line] st_d8 (def_ok 8 (by decide)) pl8 X15 (by decide +kernel) T8 (by decide +kernel) ?_
  intro h16 m16 p16 t16 X16 T9
  refine @walk_def w A s0 c Pl F h₀ mg₀ Q h16 t16 m16 _ _ _ _ _ _ (itemAt 9) [(itemAt 0).pos.line, (itemAt 1).pos.line, (itemAt 2).pos.line, (itemAt 3).pos.line, (itemAt 4).pos.line, (itemAt 5).pos.line, (itemAt 6).pos.line, (itemAt 7).pos.line, (itemAt 8).pos.line] st_d9 (def_ok 9 (by decide)) pl9 X16 (by decide +kernel) T9 (by decide +kernel) ?_
  intro h17 m17 p17 t17 X17 T10
  refine @walk_def w A s0 c Pl F h₀ mg₀ Q h17 t17 m17 _ _ _ _ _ _ (itemAt 10) [(itemAt 0).pos.line, (itemAt 1).pos.line, (itemAt 2).pos.line, (itemAt 3).pos.line, (itemAt 4).pos.line, (itemAt 5).pos.line, (itemAt 6).pos.line, (itemAt 7).pos.line, (itemAt 8).pos.line, (itemAt 9).pos.line] st_d10 (def_ok 10 (by decide)) pl10 X17 (by decide +kernel) T10 (by decide +kernel) ?_
  intro h18 m18 p18 t18 X18 T11
  refine @walk_def w A s0 c Pl F h₀ mg₀ Q h18 t18 m18 _ _ _ _ _ _ (itemAt 11) [(itemAt 0).pos.line, (itemAt 1).pos.line, (itemAt 2).pos.line, (itemAt 3).pos.line, (itemAt 4).pos.line, (itemAt 5).pos.line, (itemAt 6).pos.line, (itemAt 7).pos.line, (itemAt 8).pos.line, (itemAt 9).pos.line, (itemAt 10).pos.line] st_d11 (def_ok 11 (by decide)) pl11 X18 (by decide +kernel) T11 (by decide +kernel) ?_
  intro h19 m19 p19 t19 X19 T12
  exact wpAny_execs_nil (k h19 m19 _ t19 X19)
end Mine

namespace Mine
open PySem PySem.Calls PyProof.Rows PyProof.V PySem.W

/-- a tree that comes to its end, under the schedule -/
theorem reach_sched {w : World} {t : Sem Fin} {s : Shared} {P : Shared → Prop} (hr : s.asleep)
    (h : wpAny (model prog w) callerA t (fun fin s' => fin = .done (.ret .none) ∧ P s' ∧ s'.gens = #[]) NoE s) :
    ∃ n σ th, schedN (denote table) prog w n (.single s ⟨t, .builtin "claim.caller" {}, default, []⟩) = .running (.single σ th) ∧ through th = true ∧ P σ ∧ σ.gens = #[] ∧ σ.heap.life = s.heap.life := by
  have h0 := h _ default caller_in
  obtain ⟨n, s', σ, p', leaf, hrun, hfo, hl⟩ := wp_reaches (M := model prog w) h0
  rcases hl with ⟨a, rfl, rfl, hP, hg⟩ | ⟨e, _, hF⟩
  rotate_left
  · exact hF.elim
  obtain rfl := Shared.eq_of_forget_eq hfo hg
  -- it halts as well, so every step before is calm
  have hh : Sem.wp (model prog w) ⟨.builtin "claim.caller" {}, none, none, [], none⟩ t (Sem.finPost (model prog w) ⟨.builtin "claim.caller" {}, none, none, [], none⟩ fun r s' => True ∧ leftWithCleanup s'.gens = false)
      (fun e _ s' => True ∧ leftWithCleanup s'.gens = false) default s := by
    refine Sem.wp_mono _ _ _ (fun fin p s' x => ?_) (fun _ _ _ x => x.elim) _ _ h0
    obtain ⟨rfl, _, hg'⟩ := x
    exact ⟨trivial, by rw [hg']; simp [leftWithCleanup]⟩
  obtain ⟨m, r, s₂, hm, _⟩ := (wp_iff_halts (M := model prog w) t (fun _ _ => True) default s).mp hh
  obtain ⟨s₃, hr3, _, hc⟩ := runNI_real _ _ _ hm (outcomeOf_ends r)
  have hne : ∀ k s₂, runN (denote table) prog w k s ⟨t, .builtin "claim.caller" {}, default, []⟩ ≠ .halted (.unsupported "lifetime:generator-with-cleanup-left-suspended") s₂ := by
    intro k s₂ hk
    have a := runN_mono (denote table) prog w m k s _ _ s₃ hr3
    have b := runN_mono (denote table) prog w k m s _ _ s₂ hk
    rw [Nat.add_comm, b] at a
    injection a with a1 _
    have := outcomeOf_ends r
    rw [← a1] at this
    cases this
  have hs := schedN_eq_runN (denote table) prog w s ⟨t, .builtin "claim.caller" {}, default, []⟩ hr ⟨hc, hne⟩ n
  refine ⟨n, σ, _, hs.trans (congrArg Run.lift hrun), rfl, hP, hg, runN_life_running hrun⟩

theorem behind_eq : behindTheImports prog = prog.main.body := by kernel_rfl
theorem top_anns : hasAnns prog.main.body = false := by kernel_rfl
theorem top_doc : docOf prog.main.body = none := by kernel_rfl
theorem top_mods : importedModules prog.main.body = [] := by kernel_rfl

/-- what stands before the top runs -/
structure Booted (h : Heap) (mb mg : Str → Option Value) : Prop where
  b : h.Ns builtinsNs mb
  bb : ∀ x : Str, x ≠ "__name__" → mb x = bootBuiltins x
  st : h.Ns cStatics (fun _ => none)
  py : ∃ mm, h.Ns sysModules mm ∧ mm "_pylong" = none
  g : h.Ns mainGlobals mg
  oth : ∀ x, x ∉ bootMainNames → mg x = none
  bm : ∃ bm o, mg "__builtins__" = some (.ref bm) ∧ bm ≠ builtinsNs ∧ bm ≠ mainGlobals ∧ h.get? bm = some o ∧ o.cls = .type "module" ∧ o.dict = some builtinsNs ∧ o.data = .plain
theorem Booted.ext {h h' : Heap} {mb mg : Str → Option Value} (x : Booted h mb mg) (e : Ext h h') : Booted h' mb mg :=
  ⟨x.b.keeps e, x.bb, x.st.keeps e, let ⟨mm, a, b⟩ := x.py; ⟨mm, a.keeps e, b⟩, x.g.keeps e, x.oth, let ⟨bm, o, a, b, c, d, r⟩ := x.bm; ⟨bm, o, a, b, c, e _ _ d, r⟩⟩

/-- what the top leaves -/
structure Left (w : World) (s₀ : Heap) (mb mg : Str → Option Value) (h : Heap) : Prop where
  ex : ∃ h₀ c Pl mg' ps, Ext s₀ h₀ ∧ s₀.objs.size ≤ Pl ∧ Base h₀ mg mb ∧ Mod h₀ mg c Pl h mg' ps endDefs [] (endObjs w) endNames

theorem run_top {w : World} {s : Shared} {mb mg : Str → Option Value} (B : Booted s.heap mb mg) (hg : s.gens = #[]) :
    wpAny (model prog w) callerA (topStub prog).cur (fun fin s' => fin = .done (.ret .none) ∧ (Left w s.heap mb mg s'.heap ∧ s'.os = s.os) ∧ s'.gens = #[]) NoE s := by
  show wpAny (model prog w) callerA (do
      let code ← moduleCode prog.main
      let frame ← newBodyFrame code mainNs mainNs
      let _ ← run (.body (behindTheImports prog) { scope := prog.main.scope, locals := mainNs, globals := mainNs, cells := [], code, frame := some frame })
      ret .none) _ _ s
  rw [behind_eq]
  refine wpAny_bind (wpAny_moduleCode fun c P h1 tk hk hc hP hcode => ?_)
  have B1 : Booted h1 mb mg := B.ext hk
  unfold newBodyFrame
  refine wpAny_bind (wpAny_bind (wpAny_nsGet B1.g (wpAny_alloc ?_)))
  generalize hfo : ({ cls := .type "frame", slots := _ } : Obj) = fo
  have x2 : Ext h1 (h1.push fo) := Ext.push _ _
  have B2 : Booted (h1.push fo) mb mg := B1.ext x2
  have hgl : mainGlobals < s.heap.objs.size := B.g.lt
  have M0 : Mod (h1.push fo) mg (c : Addr) P (h1.push fo) mg #[] [] [] [] [] := by
    obtain ⟨bm, o, b1, b2, b3, b4, b5⟩ := B.bm
    have hcode2 := hcode.keeps x2
    exact ⟨⟨B2.g, hcode2, ⟨Nat.lt_of_lt_of_le hgl hc, Nat.lt_of_lt_of_le hgl hP⟩, ⟨bm, o, b1, b2, b3, Nat.ne_of_lt (Nat.lt_of_lt_of_le (Heap.lt_size b4) hP), x2 _ _ (hk _ _ b4), b5⟩⟩,
      fun _ _ _ _ e => e, (fun _ hd => nomatch hd), (fun _ hp => nomatch hp), fun _ _ => rfl, (fun _ hd => nomatch hd), (fun _ hp => nomatch hp), (fun _ hp => nomatch hp), (fun _ hp => nomatch hp), Nat.le_refl _, hcode2.lt.2, B2.g.lt, (fun _ hd => nomatch hd)⟩
  have Ba : Base (h1.push fo) mg mb := ⟨B2.b, B2.bb, B2.st, B2.py, B2.oth⟩
  refine wpAny_bind (wpAny_run (codeAny_body top_anns top_doc ?_))
  rw [body_eq]
  have rm : Room 400 ((callerA.mark none).deeper (mainEnv prog c h1.objs.size)) := ⟨show 302 ≤ 400 by decide, by rw [Around.deeper_units]; decide, rfl⟩
  refine wpAny_mono (top_walk0 w _ { s with heap := h1.push fo, toks := tk } c P h1.objs.size (h1.push fo) mg mb _ rm Ba (h1.push fo) tk mg M0 fun h' mg' ps' tk' X => ?_) (fun _ _ x => x) (fun _ _ x => x.elim)
  exact wpAny_pure ⟨rfl, ⟨⟨⟨_, c, P, mg', ps', Ext.trans hk x2, hP, Ba, X⟩⟩, rfl⟩, hg⟩
end Mine

namespace Mine
open PySem PySem.Calls PyProof.Rows PyProof.V PySem.W
open PySem.Claim2Try (globalOf_of_ns)
open PySem.Pin (builtinOf_of_ns staticOf_of_ns keysAreStrs_of_ns)

theorem end_names (x : Str) (h : x ∈ endNames) : x ∈ startupNames ∨ x ∈ prog.boundNames := by
  have H : endNames.all (fun x => startupNames.contains x || prog.boundNames.contains x) = true := by decide +kernel
  have := List.all_eq_true.mp H x h
  simpa only [Bool.or_eq_true, List.contains_iff_mem] using this
theorem end_names2 (x : Str) (h : x ∈ endNames) : x ∈ topNames ∨ x ∈ bootMainNames := by
  have H : endNames.all (fun x => topNames.contains x || bootMainNames.contains x) = true := by decide +kernel
  have := List.all_eq_true.mp H x h
  simpa only [Bool.or_eq_true, List.contains_iff_mem] using this
theorem laid_names (x : Str) (h : x ∈ laidNames) : x ∉ endNames := by
  have H : laidNames.all (fun x => !endNames.contains x) = true := by decide +kernel
  have := List.all_eq_true.mp H x h
  simpa using this
theorem items_eq : theItems = [itemAt 0, itemAt 1, itemAt 2, itemAt 3, itemAt 4, itemAt 5, itemAt 6, itemAt 7, itemAt 8, itemAt 9, itemAt 10, itemAt 11] := by kernel_rfl
theorem items_end (d : DefItem) (h : d ∈ theItems) : d ∈ endDefs := by
  rw [items_eq] at h
  have e : endDefs = [itemAt 0, itemAt 1, itemAt 2, itemAt 3, itemAt 4, itemAt 5, itemAt 6, itemAt 7, itemAt 8, itemAt 9, itemAt 10, itemAt 11].reverse := rfl
  rw [e]
  exact List.mem_reverse.mpr h

section
variable {w : World} {s₀ h : Heap} {mb mg : Str → Option Value}
theorem Left.top (L : Left w s₀ mb mg h) : ∃ N mg' mb', TopAt T0 w N mg' mb' h := by
  obtain ⟨h₀, c, Pl, mg', ps, x, hP, B, X⟩ := L.ex
  have G := glob_of B X
  have p2 : cStatics ≠ Pl := Nat.ne_of_lt (Nat.lt_trans (by decide) X.main.low.2)
  have lo : ∀ {a : Addr}, h₀.objs.size ≤ a → (a == sysModules) = false := fun ha => by
    rw [beq_eq_false_iff_ne]; rintro rfl
    exact absurd (Nat.lt_of_lt_of_le X.lowG ha) (by decide)
  refine ⟨h₀.objs.size, mg', mb, ⟨G.g, G.b, G.builtins, G.nolimit, fun d hd => G.made d (items_end d hd), (fun _ h => nomatch h), fun y h1 h2 => G.free y (fun h => (end_names2 y h).elim h1 h2) h2, G.digits, (fun _ h => nomatch h), G.seer⟩,
    B.st.at fun o => X.keep _ o p2 (by decide), fun p hp => ?_, fun p hp => ?_⟩
  · have hp' : p = (("COMPILER_FLAG_NAMES" : Str), flagTab) ∨ p = (("b3_exceptions" : Str), b3Tab) := by simpa [T0] using hp
    rcases hp' with rfl | rfl
    · obtain ⟨a, o, hN, hb, ho, kvs, hi, hf⟩ := X.held ("COMPILER_FLAG_NAMES", TabObj w flagTab) (by simp [endObjs])
      exact ⟨a, hb, TabAt.ofObj (lo hN) ho hi hf⟩
    · obtain ⟨a, o, hN, hb, ho, kvs, hi, hf⟩ := X.held ("b3_exceptions", TabObj w b3Tab) (by simp [endObjs])
      exact ⟨a, hb, TabAt.ofObj (lo hN) ho hi hf⟩
  · have hp' : p = (("b1_set" : Str), b1S) := by simpa [T0] using hp
    subst hp'
    obtain ⟨a, o, hN, hb, ho, es, ep, t, h1, h2, h3, h4, h5, h6⟩ := X.held ("b1_set", SetObj w b1S) (by simp [endObjs])
    exact ⟨a, es.size, hb, o, es, ep, t, ho, h1, h2, h3, h4, h5, h6, rfl⟩

theorem law_def : prog.theDef "law" = some ((itemAt 11).params, (itemAt 11).body, (itemAt 11).scope) := by kernel_rfl
theorem law_kw : kwWritten? (itemAt 11).params.kwonlyargs (itemAt 11).params.kw_defaults = some [] := by kernel_rfl
theorem law_nodef : (itemAt 11).params.defaults = [] := by kernel_rfl
theorem law_name : (itemAt 11).name = "law" := by kernel_rfl
theorem Left.pinned (L : Left w s₀ mb mg h) : isTheDefsW prog h "law" := by
  obtain ⟨h₀, c, Pl, mg', ps, x, hP, B, X⟩ := L.ex
  obtain ⟨a, c', o, pm, doc, h1, h2, h3, h4, h5, _⟩ := (X.made (itemAt 11) (by simp [endDefs])).plain law_nodef
  rw [law_name] at h3
  exact ⟨a, o, _, _, _, _, (globalOf_of_ns X.main.g _).trans h3, h4, h5, law_def, law_name, law_name, rfl, rfl, rfl, rfl, rfl, rfl, .inl ⟨law_nodef, rfl⟩, [], law_kw, .inl ⟨rfl, rfl⟩⟩

theorem top_ran {s₀ : Shared} (B : Booted s₀.heap mb mg) (hg : s₀.gens = #[]) (hz : s₀.asleep) (htk : 1 ≤ s₀.toks) : ∃ s₁, TopRan prog w s₀ s₁ ∧ Left w s₀.heap mb mg s₁.heap ∧ s₁.gens = #[] ∧ s₁.asleep ∧ 1 ≤ s₁.toks := by
  obtain ⟨n, s₁, th, hs, ht, ⟨⟨L, hos⟩, htk1⟩, hg1, hl⟩ := reach_sched (P := fun s' => (Left w s₀.heap mb mg s'.heap ∧ s'.os = s₀.os) ∧ 1 ≤ s'.toks) hz (wpAny_mono (wpAny_toks_of htk (run_top (w := w) B hg)) (fun _ _ x => ⟨x.2.1, ⟨x.2.2.1, x.1⟩, x.2.2.2⟩) fun _ _ x => x.2.elim)
  refine ⟨s₁, ?_, L, hg1, Shared.asleep_of_life hl hz, htk1⟩
  obtain ⟨h₀, c, Pl, mg', ps, x, hP, Ba, X⟩ := L.ex
  have p0 : builtinsNs ≠ Pl := Nat.ne_of_lt (Nat.lt_trans (by decide) X.main.low.2)
  have p2 : cStatics ≠ Pl := Nat.ne_of_lt (Nat.lt_trans (by decide) X.main.low.2)
  have st : s₁.heap.Ns cStatics (fun _ => none) := Ba.st.at fun o => X.keep _ o p2 (by decide)
  have b : s₁.heap.Ns builtinsNs mb := Ba.b.at fun o => X.keep _ o p0 (by decide)
  have gl : ∀ x, globalOf s₁.heap x = mg' x := globalOf_of_ns X.main.g
  refine ⟨⟨n, th, hs, ht⟩, hl, Shared.rest_eq hos, ?_, ?_, ?_, keysAreStrs_of_ns X.main.g, fun y hy => (builtinOf_of_ns b y).trans (Ba.bb y hy), ?_, ?_, ?_, ?_⟩
  · intro q o hq hn
    refine X.keep q o ?_ (fun e => hn (.inl e)) (x q o hq)
    exact Nat.ne_of_lt (Nat.lt_of_lt_of_le (Heap.lt_size hq) hP)
  · rw [top_mods]
    intro key v hv
    rw [staticOf_of_ns st] at hv; cases hv
  · intro key
    exact .inl ((staticOf_of_ns st key).trans (staticOf_of_ns B.st key).symm)
  · obtain ⟨bm, o, hbm, _, _, _, hbo, h1, h2, _⟩ := X.main.bmod
    exact ⟨bm, o, (gl _).trans hbm, hbo, h1, h2⟩
  · intro g hgm
    rw [hg1] at hgm; simp at hgm
  · intro y v hv
    rw [gl] at hv
    by_cases hy : y ∈ endNames
    · exact end_names y hy
    · by_cases hb : y ∈ bootMainNames
      · exact .inl hb
      · rw [X.others y hy, Ba.oth y hb] at hv; cases hv
  · intro y hy
    rw [gl, globalOf_of_ns B.g, X.others y (laid_names y hy)]
end
end Mine

namespace Mine
open PySem PySem.Calls PyProof.Rows PyProof.V PySem.W
open PySem.Claim2Try (globalOf_of_ns)

theorem opening_body : (opening prog).main.body = [] := by kernel_rfl
theorem toks_one {M : Model} {A : Around} {α : Type} {t : Sem α} {Q : α → Shared → Prop} {s : Shared} (h : wpAny M A t Q NoE s) (hs : 1 ≤ s.toks) : wpAny M A t (fun a s' => Q a s' ∧ 1 ≤ s'.toks) NoE s :=
  wpAny_mono (wpAny_toks_of hs h) (fun _ _ x => ⟨x.2, x.1⟩) fun _ _ x => x.2.elim
theorem wp_of_any {M : Model} {A : Around} {Γ : PySem.Ctx} {α : Type} {t : Sem α} {Q Q' : α → Shared → Prop} {s : Shared} (h : wpAny M A t Q NoE s) (hΓ : Γ.In A) (hq : ∀ a s', Q a s' → Q' a s') : Sem.wp M Γ t (fun a _ s' => Q' a s') (fun _ _ _ => False) default s :=
  Sem.wp_mono _ _ _ (fun a _ s' x => hq a s' x) (fun _ _ _ x => x) _ _ (h Γ default hΓ)
noncomputable abbrev OpenedP (s : Shared) : Prop := ((∃ mb mg, Booted s.heap mb mg) ∧ s.gens = #[]) ∧ 1 ≤ s.toks
theorem opened_gen (p : Program) (hb : p.main.body = []) (hm : p.main.more = []) (w : World) : (∃ s, AfterImport p w s) ∧ ∀ s, AfterImport p w s → OpenedP s := by
  refine @AfterImport.of_wp p w OpenedP (@wp_of_any (model p w) {} _ _ (boot p) _ _ _ (@toks_one (model p w) {} _ (boot p) _ _
    (@wpAny_boot9 (model p w) {} NoE p (fun s' => (∃ mb mg, Booted s'.heap mb mg) ∧ s'.gens = #[]) (fun hp tk mb mg c Pl F hB => ?_) hm) ?_) boot_in ?_)
  · rw [hb]
    refine codeAny_body rfl rfl (wpAny_execs_nil ⟨⟨_, rfl⟩, ⟨mb, mg, hB.b, hB.builtins, hB.statics, hB.noPylong, hB.g, hB.others, ?_⟩, rfl⟩)
    obtain ⟨bm, o, b1, b2, b3, _, b5⟩ := hB.bmod
    exact ⟨bm, o, b1, b2, b3, b5⟩
  · exact Nat.le_refl 1
  · exact fun a s' x => ⟨x.1.1, ⟨x.1.2, x.2⟩, x.1.2.2⟩
theorem opening_more : (opening prog).main.more = [] := by kernel_rfl
theorem opened (w : World) : (∃ s, AfterRun (opening prog) w s) ∧ ∀ s, AfterRun (opening prog) w s → OpenedP s := opened_gen (opening prog) opening_body opening_more w
theorem fence_eq (s : Shared) : fenceModules? prog s = some s := by
  have h : prog.main.body.any namesNumpy = false := by kernel_rfl
  unfold fenceModules?
  rw [top_mods, h]
  rfl
end Mine

namespace Mine
open PySem PySem.Calls PyProof.Rows PyProof.V PySem.W
open PySem.Claim2Try (globalOf_of_ns)
noncomputable abbrev theRow : OpenRow := PySem.Challenge.rw_rl0104_01.row
theorem row_prog : theRow.claim.prog = prog := rfl
theorem is_bare : prog.bare := ⟨rfl, rfl, rfl, rfl, rfl, by decide +kernel⟩
theorem opens_well : opensWell prog = true := by decide +kernel
theorem promised : theRow.toRowW.promised := ⟨[.list []], by decide +kernel, by decide +kernel⟩
theorem witness : ∃ args, theRow.claim.pre args = true ∧ WData.layableAll args = true := ⟨[.list []], by decide +kernel, by decide +kernel⟩

theorem items_int : ∀ {xs : List WData}, WShape.hasItems [] xs .int = true → ∃ ns : List Int, xs = ns.map WData.int
  | [], _ => ⟨[], rfl⟩
  | x :: xs, h => by
    simp only [WShape.hasItems, Bool.and_eq_true] at h
    obtain ⟨i, rfl⟩ := hasW_int h.1
    obtain ⟨ns, rfl⟩ := items_int h.2
    exact ⟨i :: ns, rfl⟩
theorem args_of {args : List WData} (h : theRow.claim.pre args = true) : ∃ ns : List Int, args = [.list (ns.map WData.int)] ∧ ns.length ≤ 63 := by
  obtain ⟨h1, h2⟩ := Bool.and_eq_true_iff.mp h
  obtain ⟨d, r, rfl, hd, hr⟩ := hasAllW_cons (R := []) (ds := args) (e := .list .int) (es := []) h1
  obtain rfl := hasAllW_nil hr
  obtain ⟨xs, rfl, hx⟩ := hasW_list hd
  obtain ⟨ns, rfl⟩ := items_int hx
  refine ⟨ns, rfl, ?_⟩
  have h3 : WTm.holds [] (.and (.not (.lt (.lit (.int 63)) (.len (.arg 0)))) (.lit (.bool true))) { args := [.list (ns.map WData.int)] } = true := h2
  unfold WTm.holds at h3
  rw [w_and (w_not (w_lt w_lit (w_len_list (w_arg (i := 0) rfl)))) w_lit] at h3
  by_cases hl : ns.length ≤ 63
  · exact hl
  · exfalso
    have : decide ((63 : Int) < ((ns.map WData.int).length : Int)) = true := by
      rw [List.length_map]; simp; omega
    rw [this] at h3
    cases h3
theorem well_ints {P : Params} {h : Heap} {Pr : Addr → Prop} : ∀ {vs : List Value} {ns : List Int}, WellAll P h vs (ns.map WData.int) → RepL Pr h vs (ns.map D.int)
  | [], [], _ => .nil
  | [], _ :: _, r => by cases r
  | _ :: _, [], r => by cases r
  | v :: vs, n :: ns, r => by
    cases r with | cons a r =>
    cases a
    exact .cons (.int _ _) (well_ints r)
theorem lay_toks {R : WRecords} {cl : Str → Option Addr} {P : Params} {ord : List DictEntry → List DictEntry} : ∀ (ns : List Int) (s : Shared) (r : List Value × Shared), layAllW R cl P ord (ns.map WData.int) s = some r → s.toks ≤ r.2.toks
  | [], s, r, h => by simp only [List.map_nil, layAllW, Option.some.injEq] at h; subst h; exact Nat.le_refl _
  | n :: ns, s, r, h => by
    simp only [List.map_cons, layAllW, layW] at h
    split at h
    · rename_i r' e
      cases h
      exact Nat.le_trans (Nat.le_succ _) (lay_toks ns _ _ e)
    · cases h
theorem lay_toks1 {R : WRecords} {cl : Str → Option Addr} {P : Params} {ord : List DictEntry → List DictEntry} (ns : List Int) (s : Shared) (r : List Value × Shared) (h : layAllW R cl P ord [.list (ns.map WData.int)] s = some r) : s.toks ≤ r.2.toks := by
  simp only [layAllW, layW] at h
  split at h
  · rename_i a e
    split at e
    · rename_i r' e'
      cases e; cases h
      exact lay_toks ns s r' e'
    · cases e
  · cases h

theorem law_post (args ds : List WData) : theRow.claim.post args (.bool true) ds = true := by
  show (WShape.has [] (.bool true) .bool && WTm.holds [] (.eq .res (.lit (.bool true))) { args := args, res := some (.bool true), after := ds }) = true
  unfold WTm.holds
  rw [w_eq_bool (w_res rfl) w_lit]
  rfl
theorem row_holds (pure : ∀ ns : List Int, ns.length ≤ 63 → f11 [.list (ns.map D.int)] = some (.bool true)) (said : theRow.wellSaid = true) : theRow.Holds := by
  refine ⟨said, promised, ⟨is_bare, opens_well, rfl⟩, witness, fun w => ⟨(opened w).1, fun s hs => ?_⟩⟩
  obtain ⟨⟨⟨mb, mg, B⟩, hg⟩, htk⟩ := (opened w).2 s hs
  have hz : s.asleep := AfterImport.life hs
  obtain ⟨s₁, T, L, hg1, hz1, htk1⟩ := top_ran (w := w) B hg hz htk
  refine ⟨s, fence_eq s, hg, s₁, T, ?_, (fun x hx => by cases hx), (fun x hx => by cases hx), ?_⟩
  · intro n hn
    have : n = "law" := by simpa [OpenLaw.row, PySem.Challenge.rw_rl0104_01] using hn
    subst this
    exact L.pinned
  refine ClaimW.callFrom_of_specG (c := theRow.claim) (tree := fun vs => do match ← nsGet mainNs theRow.name with
      | some f => do ret (← PySem.call f vs)
      | none => unsupported "claim.caller:no-such-global") hz1 hg1 fun args hpre hlay ord hord => ?_
  obtain ⟨⟨vs, s₂⟩, hlaid⟩ := Option.isSome_iff_exists.mp (layAllW_isSome (R := []) (cl := classAt s₁.heap) (P := w.params) (ord := ord) (fun c hc => by obtain ⟨x, hx, rfl⟩ := mem_of_fields hc; cases hx) args theRow.args s₁ (pre_splitW hpre).1)
  have keeps := layAllW_keeps _ _ _ hlaid
  have hal := layAllW_rest _ _ _ hlaid
  obtain ⟨as, hrd, hin, hold⟩ := reads_layAllW hord _ _ _ hlaid hlay s₂.heap (fun _ _ e => e)
  have LL : Laid [] w s₁ s₂ args vs as := ⟨⟨ord, hord, hlaid⟩, hrd, hin, hold, keeps, hal.1.trans hg1, hal.2.2.1⟩
  have hwell := well_layAllW hord args s₁ _ hlaid s₂.heap fun _ _ e => e
  obtain ⟨ns, rfl, hns⟩ := args_of hpre
  have htk2 : 0 < s₂.toks := Nat.lt_of_lt_of_le htk1 (lay_toks1 ns s₁ _ hlaid)
  obtain ⟨N, mg', mb', TA⟩ := L.top
  have TA2 := TA.keeps keeps
  refine ⟨vs, s₂, hlaid, ?_⟩
  obtain ⟨a, c', o, pm, doc, dV, _, _, hmg, ho, _⟩ := TA2.G.made (itemAt 11) (item_mem 11 (by decide))
  have hmg' : mg' "law" = some (.ref a) := law_name ▸ hmg
  have hrep : RepL (fun _ => True) s₂.heap vs [.list (ns.map D.int)] := by
    cases hwell with | cons w1 w2 =>
    cases w2
    cases w1 with | list hl hw =>
    exact .cons (.list trivial hl (well_ints hw)) .nil
  refine wpAny_bind (wpAny_nsGet TA2.G.g ?_)
  show wpAny (model prog w) callerA (match mg' "law" with
      | some f => do ret (← PySem.call f vs)
      | none => unsupported "claim.caller:no-such-global") _ _ s₂
  rw [hmg']
  refine wpAny_bind (wpAny_mono (fn11 w callerA s₂ (fun _ => True) a vs _ (.bool true) (fun v s' => ∃ h' tk, s' = { s₂ with heap := h', toks := tk } ∧ Ext s₂.heap h' ∧ v = .bool true) N mg' mb' ⟨by decide, by decide, rfl⟩ htk2 TA2 hmg' (fun _ _ => trivial) hrep (pure ns hns) ?_) ?_ (fun _ _ x => x.elim))
  · intro v h' tk htk' hx r
    cases r
    exact ⟨h', tk, rfl, hx, rfl⟩
  · rintro v s' ⟨h', tk, rfl, hx, rfl⟩
    refine wpAny_pure ⟨_, rfl, ?_⟩
    have g : GoodWG theRow.claim (classAt s₁.heap) (ExcName.means s₁.heap) [.list (ns.map WData.int)] s₂ (.ok (.ret (.bool true))) { s₂ with heap := h', toks := tk } :=
      ⟨.inl ⟨.bool true, .bool true, [], rfl, fun cls => rfl, .bool true, law_post _ _, fun _ => ⟨.nil, fun _ h => nomatch h⟩⟩, .of_keep hx, rfl, .of_eq LL.gens⟩
    have z := g.laid (c := theRow.claim) (w := w) rfl rfl (ident_freeW rfl rfl rfl) LL
    exact ⟨z.1, z.2.1, z.2.2, fun q => by cases q⟩
end Mine

namespace Mine
open PySem PySem.Calls PyProof.Rows PyProof.V

/-! steps of the denotations -/
section
variable {g1 g2 : List D → Option (Fl × List D)} {f f1 f2 f3 : List D → Option D} {ds ds1 : List D} {d x y z : D} {fl : Fl} {k : Nat}
theorem seq_of (h : g1 ds = some (.next, ds1)) : sSeq g1 g2 ds = g2 ds1 := by show (match g1 ds with | some (.next, ds1) => g2 ds1 | r => r) = _; rw [h]
theorem seq_ret (h : g1 ds = some (.ret d, ds1)) : sSeq g1 g2 ds = some (.ret d, ds1) := by show (match g1 ds with | some (.next, ds1) => g2 ds1 | r => r) = _; rw [h]
theorem seq_brk (h : g1 ds = some (.brk, ds1)) : sSeq g1 g2 ds = some (.brk, ds1) := by show (match g1 ds with | some (.next, ds1) => g2 ds1 | r => r) = _; rw [h]
theorem asg_of (h : f ds = some d) : sAssign k f ds = some (.next, ds.set k d) := by show (match f ds with | some d => some (Fl.next, ds.set k d) | none => none) = _; rw [h]
theorem ret_of (h : f ds = some d) : sRet f ds = some (.ret d, ds) := by show (match f ds with | some d => some (Fl.ret d, ds) | none => none) = _; rw [h]
theorem aug_of {g : D → D → Option D} (h : eBin g (eVar k) f ds = some d) : sAug k g f ds = some (.next, ds.set k d) := by show (match eBin g (eVar k) f ds with | some d => some (Fl.next, ds.set k d) | none => none) = _; rw [h]
theorem bin_of {g : D → D → Option D} (h1 : f1 ds = some x) (h2 : f2 ds = some y) (h : g x y = some d) : eBin g f1 f2 ds = some d := by
  show (match f1 ds with | some x => (match f2 ds with | some y => g x y | none => none) | none => none) = _; rw [h1]; dsimp only; rw [h2]; exact h
theorem tof_of {b : Bool} (h : f ds = some d) (h2 : dTruth d = some b) : tOf f ds = some b := by show (match f ds with | some d => dTruth d | none => none) = _; rw [h]; exact h2
variable {b : List D → Option Bool}
theorem if_t (h : b ds = some true) : sIf b g1 g2 ds = g1 ds := by show (match b ds with | some true => g1 ds | some false => g2 ds | none => none) = _; rw [h]
theorem if_f (h : b ds = some false) : sIf b g1 g2 ds = g2 ds := by show (match b ds with | some true => g1 ds | some false => g2 ds | none => none) = _; rw [h]
theorem if_skip (h : b ds = some false) : sIf b g1 sNil ds = some (.next, ds) := by rw [if_f h]
theorem call_of {g : List D → Option D} {fs : List D → Option (List D)} {xs : List D} (h : fs ds = some xs) (h2 : g xs = some d) : eCall g fs ds = some d := by show (match fs ds with | some xs => g xs | none => none) = _; rw [h]; exact h2
theorem lcons_of {fs : List D → Option (List D)} {xs : List D} (h : f ds = some x) (h2 : fs ds = some xs) : lCons f fs ds = some (x :: xs) := by
  unfold lCons; rw [h]; dsimp only; rw [h2]
theorem fn_of_ret {n m : Nat} {body : List D → Option (Fl × List D)} {xs : List D} (hl : xs.length = n) (h : body (xs ++ List.replicate (m - n) .undef) = some (.ret d, ds1)) : fnD n m body xs = some d := by
  show (if xs.length = n then _ else _) = _
  rw [if_pos hl, h]
end
end Mine

namespace Mine
open PySem PySem.Calls PyProof.Rows PyProof.V

noncomputable def fI (i j : Int) : UInt64 := Float64.ofFrac (decide (i < 0) != decide (j < 0)) i.natAbs j.natAbs
noncomputable def hueF (m off wh : Int) : UInt64 := Float64.add (Float64.add (fI m 8) (fI off 32)) (Float64.ofInt wh)
noncomputable abbrev six : UInt64 := 4618441417868443648
noncomputable abbrev one' : UInt64 := 4607182418800017408
noncomputable def keyF (h : UInt64) : Option (Int × UInt64) := match dInt [.flt (Float64.mul h six)] with
  | some (.int i) => if fits i then some (i.fmod 6, Float64.sub (Float64.mul h six) (Float64.ofInt i)) else none
  | _ => none
noncomputable def pV (s v : UInt64) : UInt64 := Float64.mul v (Float64.sub one' s)
noncomputable def qV (f s v : UInt64) : UInt64 := Float64.mul v (Float64.sub one' (Float64.mul s f))
noncomputable def tV (f s v : UInt64) : UInt64 := Float64.mul v (Float64.sub one' (Float64.mul s (Float64.sub one' f)))
noncomputable def G (r : Int) (f s v : UInt64) : Option D :=
  if (Float64.cmp s 0 == some .eq) = true then some (.tup [.flt v, .flt v, .flt v]) else
  if r = 0 then some (.tup [.flt v, .flt (tV f s v), .flt (pV s v)]) else
  if r = 1 then some (.tup [.flt (qV f s v), .flt v, .flt (pV s v)]) else
  if r = 2 then some (.tup [.flt (pV s v), .flt v, .flt (tV f s v)]) else
  if r = 3 then some (.tup [.flt (pV s v), .flt (qV f s v), .flt v]) else
  if r = 4 then some (.tup [.flt (tV f s v), .flt (pV s v), .flt v]) else
  if r = 5 then some (.tup [.flt v, .flt (pV s v), .flt (qV f s v)]) else none
theorem cmp_t {ds : List D} {f1 f2 : List D → Option D} {a b : UInt64} (h1 : f1 ds = some (.flt a)) (h2 : f2 ds = some (.flt b)) : tOf (eBin dEq f1 f2) ds = some (Float64.cmp a b == some .eq) :=
  tof_of (bin_of h1 h2 rfl) rfl
theorem cmp_i {ds : List D} {f1 f2 : List D → Option D} {a b : Int} (h1 : f1 ds = some (.int a)) (h2 : f2 ds = some (.int b)) : tOf (eBin dEq f1 f2) ds = some (a == b) :=
  tof_of (bin_of h1 h2 rfl) rfl
theorem f1_key {h s v f : UInt64} {r : Int} {d : D} (hk : keyF h = some (r, f)) (hg : G r f s v = some d) : f1 [.flt h, .flt s, .flt v] = some d := by
  unfold keyF at hk
  split at hk
  · rename_i i e
    split at hk
    · rename_i hf
      cases hk
      unfold G at hg
      split at hg
      · rename_i hs
        cases hg
        show fnD 3 8 b1 [.flt h, .flt s, .flt v] = _
        refine fn_of_ret (n := 3) (m := 8) (body := b1) (xs := [.flt h, .flt s, .flt v]) (ds1 := [.flt h, .flt s, .flt v, .undef, .undef, .undef, .undef, .undef]) rfl (seq_ret ((if_t ((cmp_t rfl rfl).trans (congrArg some hs))).trans (seq_ret rfl)))
      · rename_i hs
        have hs' : (Float64.cmp s 0 == some .eq) = false := by simpa using hs
        have e0 : (eCall dInt (lCons (eBin dMul (eVar 0) (fun _ => some (.flt six))) lNil)) [.flt h, .flt s, .flt v, .undef, .undef, .undef, .undef, .undef] = some (.int i) := e
        have e1 : (eBin dSub (eBin dMul (eVar 0) (fun _ => some (.flt six))) (eVar 3)) [.flt h, .flt s, .flt v, .int i, .undef, .undef, .undef, .undef] = some (.flt (Float64.sub (Float64.mul h six) (Float64.ofInt i))) := by
          refine bin_of (x := .flt (Float64.mul h six)) (y := .int i) rfl rfl ?_
          show (if fits i then _ else _) = _
          rw [if_pos hf]
        show fnD 3 8 b1 [.flt h, .flt s, .flt v] = _
        refine fn_of_ret (n := 3) (m := 8) (body := b1) (xs := [.flt h, .flt s, .flt v]) (ds1 := [.flt h, .flt s, .flt v, .int (i.fmod 6), .flt (Float64.sub (Float64.mul h six) (Float64.ofInt i)), .flt (pV s v), .flt (qV (Float64.sub (Float64.mul h six) (Float64.ofInt i)) s v), .flt (tV (Float64.sub (Float64.mul h six) (Float64.ofInt i)) s v)]) rfl ?_
        show b1 [.flt h, .flt s, .flt v, .undef, .undef, .undef, .undef, .undef] = _
        refine (seq_of (if_skip ((cmp_t (a := s) (b := 0) rfl rfl).trans (congrArg some hs')))).trans ?_
        refine (seq_of (asg_of e0)).trans ?_
        refine (seq_of (asg_of e1)).trans ?_
        refine (seq_of (asg_of (d := .flt (pV s v)) rfl)).trans ?_
        refine (seq_of (asg_of (d := .flt (qV (Float64.sub (Float64.mul h six) (Float64.ofInt i)) s v)) rfl)).trans ?_
        refine (seq_of (asg_of (d := .flt (tV (Float64.sub (Float64.mul h six) (Float64.ofInt i)) s v)) rfl)).trans ?_
        refine (seq_of (asg_of (d := .int (i.fmod 6)) rfl)).trans ?_
        generalize i.fmod 6 = r at hg
        generalize Float64.sub (Float64.mul h six) (Float64.ofInt i) = f at hg
        have st : ∀ (k : Int), (¬ r = k) → (r == k) = false := fun k hk => by simpa using hk
        split at hg
        · rename_i hr; subst hr; cases hg
          exact seq_ret ((if_t (cmp_i (a := 0) (b := 0) rfl rfl)).trans (seq_ret rfl))
        rename_i h0
        refine (seq_of (if_skip ((cmp_i (a := r) (b := 0) rfl rfl).trans (congrArg some (st 0 h0))))).trans ?_
        split at hg
        · rename_i hr; subst hr; cases hg
          exact seq_ret ((if_t (cmp_i (a := 1) (b := 1) rfl rfl)).trans (seq_ret rfl))
        rename_i h1
        refine (seq_of (if_skip ((cmp_i (a := r) (b := 1) rfl rfl).trans (congrArg some (st 1 h1))))).trans ?_
        split at hg
        · rename_i hr; subst hr; cases hg
          exact seq_ret ((if_t (cmp_i (a := 2) (b := 2) rfl rfl)).trans (seq_ret rfl))
        rename_i h2
        refine (seq_of (if_skip ((cmp_i (a := r) (b := 2) rfl rfl).trans (congrArg some (st 2 h2))))).trans ?_
        split at hg
        · rename_i hr; subst hr; cases hg
          exact seq_ret ((if_t (cmp_i (a := 3) (b := 3) rfl rfl)).trans (seq_ret rfl))
        rename_i h3
        refine (seq_of (if_skip ((cmp_i (a := r) (b := 3) rfl rfl).trans (congrArg some (st 3 h3))))).trans ?_
        split at hg
        · rename_i hr; subst hr; cases hg
          exact seq_ret ((if_t (cmp_i (a := 4) (b := 4) rfl rfl)).trans (seq_ret rfl))
        rename_i h4
        refine (seq_of (if_skip ((cmp_i (a := r) (b := 4) rfl rfl).trans (congrArg some (st 4 h4))))).trans ?_
        split at hg
        · rename_i hr; subst hr; cases hg
          exact seq_ret ((if_t (cmp_i (a := 5) (b := 5) rfl rfl)).trans (seq_ret rfl))
        · cases hg
    · cases hk
  · cases hk
end Mine

namespace Mine
open PySem PySem.Calls PyProof.Rows PyProof.V
noncomputable def fEq (a b : UInt64) : Bool := a == b && !Float64.isNaN a && (Float64.cmp a b == some Ordering.eq)
noncomputable def okSpot (m off kind : Int) : Bool :=
  match keyF (hueF m off 0) with
  | some (r, f) => match G r f (fI (1 + kind.fdiv 4) 4) (fI (1 + kind.fmod 4) 4) with
    | some (.tup [.flt a, .flt b, .flt c]) =>
      (match f9 [.int (m * 4 + off), .int (1 + kind.fmod 4), .int (1 + kind.fdiv 4)] with
        | some (.list [.flt a', .flt b', .flt c']) => fEq a a' && fEq b b' && fEq c c'
        | _ => false) &&
      (match f0 [.flt a, .flt b, .flt c], f10 [.int (m * 4 + off), .int (1 + kind.fmod 4), .int (1 + kind.fdiv 4)] with
        | some (.tup [.flt x, .flt y, .flt z]), some (.tup [.flt x', .flt y', .flt z']) => fEq x x' && fEq y y' && fEq z z' &&
          (match dInt [.flt (Float64.mul x (Float64.ofInt 8))] with
            | some (.int k) => k == m
            | _ => false)
        | _, _ => false)
    | _ => false
  | _ => false
noncomputable def okKinds (m off : Nat) : Bool := (List.range 16).all fun k => okSpot m off k
noncomputable def okKeys (off wh : Nat) : Bool := (List.range 17).all fun m => keyF (hueF m off wh) == keyF (hueF (m % 8 : Nat) off 0)
theorem okk_0_0 : okKinds 0 0 = true := by decide +kernel
theorem okk_1_0 : okKinds 1 0 = true := by decide +kernel
theorem okk_2_0 : okKinds 2 0 = true := by decide +kernel
theorem okk_3_0 : okKinds 3 0 = true := by decide +kernel
theorem okk_4_0 : okKinds 4 0 = true := by decide +kernel
theorem okk_5_0 : okKinds 5 0 = true := by decide +kernel
theorem okk_6_0 : okKinds 6 0 = true := by decide +kernel
theorem okk_7_0 : okKinds 7 0 = true := by decide +kernel
theorem okk_0_1 : okKinds 0 1 = true := by decide +kernel
theorem okk_1_1 : okKinds 1 1 = true := by decide +kernel
theorem okk_2_1 : okKinds 2 1 = true := by decide +kernel
theorem okk_3_1 : okKinds 3 1 = true := by decide +kernel
theorem okk_4_1 : okKinds 4 1 = true := by decide +kernel
theorem okk_5_1 : okKinds 5 1 = true := by decide +kernel
theorem okk_6_1 : okKinds 6 1 = true := by decide +kernel
theorem okk_7_1 : okKinds 7 1 = true := by decide +kernel
theorem okk_0_2 : okKinds 0 2 = true := by decide +kernel
theorem okk_1_2 : okKinds 1 2 = true := by decide +kernel
theorem okk_2_2 : okKinds 2 2 = true := by decide +kernel
theorem okk_3_2 : okKinds 3 2 = true := by decide +kernel
theorem okk_4_2 : okKinds 4 2 = true := by decide +kernel
theorem okk_5_2 : okKinds 5 2 = true := by decide +kernel
theorem okk_6_2 : okKinds 6 2 = true := by decide +kernel
theorem okk_7_2 : okKinds 7 2 = true := by decide +kernel
theorem okk_0_3 : okKinds 0 3 = true := by decide +kernel
theorem okk_1_3 : okKinds 1 3 = true := by decide +kernel
theorem okk_2_3 : okKinds 2 3 = true := by decide +kernel
theorem okk_3_3 : okKinds 3 3 = true := by decide +kernel
theorem okk_4_3 : okKinds 4 3 = true := by decide +kernel
theorem okk_5_3 : okKinds 5 3 = true := by decide +kernel
theorem okk_6_3 : okKinds 6 3 = true := by decide +kernel
theorem okk_7_3 : okKinds 7 3 = true := by decide +kernel
theorem key_0_0 : okKeys 0 0 = true := by decide +kernel
theorem key_0_1 : okKeys 0 1 = true := by decide +kernel
theorem key_0_2 : okKeys 0 2 = true := by decide +kernel
theorem key_1_0 : okKeys 1 0 = true := by decide +kernel
theorem key_1_1 : okKeys 1 1 = true := by decide +kernel
theorem key_1_2 : okKeys 1 2 = true := by decide +kernel
theorem key_2_0 : okKeys 2 0 = true := by decide +kernel
theorem key_2_1 : okKeys 2 1 = true := by decide +kernel
theorem key_2_2 : okKeys 2 2 = true := by decide +kernel
theorem key_3_0 : okKeys 3 0 = true := by decide +kernel
theorem key_3_1 : okKeys 3 1 = true := by decide +kernel
theorem key_3_2 : okKeys 3 2 = true := by decide +kernel
theorem okSpots (m off kind : Nat) (hm : m < 8) (ho : off < 4) (hk : kind < 16) : okSpot m off kind = true := by
  have H : okKinds m off = true := by
    match m, off, hm, ho with
    | 0, 0, _, _ => exact okk_0_0
    | 1, 0, _, _ => exact okk_1_0
    | 2, 0, _, _ => exact okk_2_0
    | 3, 0, _, _ => exact okk_3_0
    | 4, 0, _, _ => exact okk_4_0
    | 5, 0, _, _ => exact okk_5_0
    | 6, 0, _, _ => exact okk_6_0
    | 7, 0, _, _ => exact okk_7_0
    | 0, 1, _, _ => exact okk_0_1
    | 1, 1, _, _ => exact okk_1_1
    | 2, 1, _, _ => exact okk_2_1
    | 3, 1, _, _ => exact okk_3_1
    | 4, 1, _, _ => exact okk_4_1
    | 5, 1, _, _ => exact okk_5_1
    | 6, 1, _, _ => exact okk_6_1
    | 7, 1, _, _ => exact okk_7_1
    | 0, 2, _, _ => exact okk_0_2
    | 1, 2, _, _ => exact okk_1_2
    | 2, 2, _, _ => exact okk_2_2
    | 3, 2, _, _ => exact okk_3_2
    | 4, 2, _, _ => exact okk_4_2
    | 5, 2, _, _ => exact okk_5_2
    | 6, 2, _, _ => exact okk_6_2
    | 7, 2, _, _ => exact okk_7_2
    | 0, 3, _, _ => exact okk_0_3
    | 1, 3, _, _ => exact okk_1_3
    | 2, 3, _, _ => exact okk_2_3
    | 3, 3, _, _ => exact okk_3_3
    | 4, 3, _, _ => exact okk_4_3
    | 5, 3, _, _ => exact okk_5_3
    | 6, 3, _, _ => exact okk_6_3
    | 7, 3, _, _ => exact okk_7_3
  exact List.all_eq_true.mp H kind (List.mem_range.mpr hk)
theorem keys_ok (m off wh : Nat) (hm : m < 17) (ho : off < 4) (hw : wh < 3) : keyF (hueF m off wh) = keyF (hueF (m % 8 : Nat) off 0) := by
  have H : okKeys off wh = true := by
    match off, wh, ho, hw with
    | 0, 0, _, _ => exact key_0_0
    | 0, 1, _, _ => exact key_0_1
    | 0, 2, _, _ => exact key_0_2
    | 1, 0, _, _ => exact key_1_0
    | 1, 1, _, _ => exact key_1_1
    | 1, 2, _, _ => exact key_1_2
    | 2, 0, _, _ => exact key_2_0
    | 2, 1, _, _ => exact key_2_1
    | 2, 2, _, _ => exact key_2_2
    | 3, 0, _, _ => exact key_3_0
    | 3, 1, _, _ => exact key_3_1
    | 3, 2, _, _ => exact key_3_2
  exact eq_of_beq (List.all_eq_true.mp H m (List.mem_range.mpr hm))
end Mine

namespace Mine
open PySem PySem.Calls PyProof.Rows PyProof.V PySem.Builtin.Str

noncomputable abbrev S (l : List Nat) : Str := ⟨l.toArray⟩
theorem S_len (l : List Nat) : (S l).length = l.length := by simp [Str.length]
theorem S_of (x : Str) : x = S x.cps.toList := rfl
theorem S_inj {a b : List Nat} (h : S a = S b) : a = b := by
  have := congrArg (fun x : Str => x.cps.toList) h
  simpa using this

/-! where two signs stand -/
noncomputable def occL (a b : Nat) : Nat → List Nat → List Nat
  | i, c :: d :: r => if c = a ∧ d = b then i :: occL a b (i + 2) r else occL a b (i + 1) (d :: r)
  | _, [_] => []
  | _, [] => []
theorem occ_gen (l : List Nat) (a b : Nat) : ∀ (n i : Nat) (acc : Array Nat) (free : Nat), i + n = l.length + 1 → acc.size ≤ i →
    (free ≤ i → (forIn (List.range' i n) (acc, free) (StrLaws.occBody (S l) (S [a, b]) l.length (l.length + 1))).run.fst.toList = acc.toList ++ occL a b i (l.drop i)) ∧
    (free = i + 1 → (forIn (List.range' i n) (acc, free) (StrLaws.occBody (S l) (S [a, b]) l.length (l.length + 1))).run.fst.toList = acc.toList ++ occL a b (i + 1) (l.drop (i + 1)))
  | 0, i, acc, free, hi, ha => by
    have h1 : l.drop i = [] := List.drop_eq_nil_of_le (by omega)
    have h2 : l.drop (i + 1) = [] := List.drop_eq_nil_of_le (by omega)
    refine ⟨fun _ => ?_, fun _ => ?_⟩
    · rw [h1]; simp [occL]
    · rw [h2]; simp [occL]
  | n + 1, i, acc, free, hi, ha => by
    have hsub : StrLaws.occBody (S l) (S [a, b]) l.length (l.length + 1) i (acc, free) =
        if ((acc.size < l.length + 1 ∧ free ≤ i) ∧ i + 2 ≤ l.length) ∧ ((l.drop i).take 2 == [a, b]) = true then pure (ForInStep.yield (acc.push i, i + 2)) else pure (ForInStep.yield (acc, free)) := by
      unfold StrLaws.occBody
      rw [StrLaws.subAt_eq, S_len]
      rfl
    refine ⟨fun hf => ?_, fun hf => ?_⟩
    · rw [List.range'_succ, List.forIn_cons, hsub]
      by_cases hc : ((l.drop i).take 2 == [a, b]) = true
      · have hc' := eq_of_beq hc
        have hlen : i + 2 ≤ l.length := by
          have := congrArg List.length hc'
          rw [List.length_take, List.length_drop] at this
          simp at this; omega
        rw [if_pos ⟨⟨⟨by omega, hf⟩, hlen⟩, hc⟩]
        have ih := (occ_gen l a b n (i + 1) (acc.push i) (i + 2) (by omega) (by simp; omega)).2 rfl
        refine Eq.trans ih ?_
        rw [Array.toList_push, List.append_assoc]
        congr 1
        have e : l.drop i = a :: b :: l.drop (i + 2) := by
          have h1 := List.take_append_drop 2 (l.drop i)
          rw [hc', List.drop_drop] at h1
          rw [← h1]; rfl
        rw [e, show occL a b i (a :: b :: l.drop (i + 2)) = i :: occL a b (i + 2) (l.drop (i + 2)) by rw [occL, if_pos ⟨rfl, rfl⟩]]
        rfl
      · rw [if_neg (fun h => hc h.2)]
        have ih := (occ_gen l a b n (i + 1) acc free (by omega) (by omega)).1 (by omega)
        refine Eq.trans ih ?_
        congr 1
        have e : l.drop (i + 1) = (l.drop i).drop 1 := by rw [List.drop_drop]
        rw [e]
        generalize l.drop i = m at hc ⊢
        match m, hc with
        | [], _ => simp [occL]
        | [c], _ => simp [occL]
        | c :: d :: r, hc =>
          rw [show occL a b i (c :: d :: r) = if c = a ∧ d = b then i :: occL a b (i + 2) r else occL a b (i + 1) (d :: r) by rw [occL], if_neg]
          · rfl
          · rintro ⟨rfl, rfl⟩
            exact hc (by simp)
    · rw [List.range'_succ, List.forIn_cons, hsub, if_neg (fun h => by have := h.1.1.2; omega)]
      exact (occ_gen l a b n (i + 1) acc free (by omega) (by omega)).1 (by omega)
theorem occ2 (l : List Nat) (a b : Nat) : occurrences (S l) (S [a, b]) 0 (S l).length ((S l).length + 1) = occL a b 0 l := by
  rw [StrLaws.occ_eq, S_len]
  have := (occ_gen l a b (l.length + 1) 0 #[] 0 (by omega) (by simp)).1 (Nat.le_refl _)
  simpa using this

/-! the parts between -/
noncomputable def headC (c : Nat) : List (List Nat) → List (List Nat)
  | p :: r => (c :: p) :: r
  | [] => [[c]]
noncomputable def splL (a b : Nat) : List Nat → List (List Nat)
  | c :: d :: r => if c = a ∧ d = b then [] :: splL a b r else headC c (splL a b (d :: r))
  | [c] => [[c]]
  | [] => [[]]
theorem splL_ne (a b : Nat) : ∀ (l : List Nat), ∃ p ps, splL a b l = p :: ps
  | [] => ⟨_, _, rfl⟩
  | [c] => ⟨_, _, rfl⟩
  | c :: d :: r => by
    unfold splL
    split
    · exact ⟨_, _, rfl⟩
    · obtain ⟨p, ps, h⟩ := splL_ne a b (d :: r)
      rw [h]; exact ⟨_, _, rfl⟩
theorem sub_S (l : List Nat) (i j : Nat) : strSub (S l) i j = S ((l.drop i).take (j - i)) := by
  apply Str.ext'
  apply Array.toList_inj.mp
  rw [StrLaws.strSub_toList]
theorem parts_gen (l : List Nat) (a b : Nat) : ∀ (n i i0 : Nat), (l.drop i).length ≤ n → i0 ≤ i → i ≤ l.length → ∀ p ps, splL a b (l.drop i) = p :: ps →
    StrLaws.partsFrom (S l) 2 i0 (occL a b i (l.drop i)) = S ((l.drop i0).take (i - i0) ++ p) :: ps.map S := by
  intro n
  induction n with
  | zero =>
    intro i i0 hn h0 hi p ps h
    have hd : l.drop i = [] := List.length_eq_zero_iff.mp (by omega)
    rw [hd] at h ⊢
    simp only [splL, List.cons.injEq] at h
    obtain ⟨rfl, rfl⟩ := h
    have hil : i = l.length := by rw [List.length_drop] at hn; omega
    simp only [occL, StrLaws.partsFrom, sub_S, S_len, List.append_nil, List.map_nil]
    subst hil
    rfl
  | succ n ih =>
    intro i i0 hn h0 hi p ps h
    match hm : l.drop i with
    | [] =>
      rw [hm] at h
      simp only [splL, List.cons.injEq] at h
      obtain ⟨rfl, rfl⟩ := h
      have hil : i = l.length := by
        have := congrArg List.length hm
        rw [List.length_drop] at this; simp at this; omega
      simp only [occL, StrLaws.partsFrom, sub_S, S_len, List.append_nil, List.map_nil]
      subst hil
      rfl
    | [c] =>
      rw [hm] at h
      simp only [splL, List.cons.injEq] at h
      obtain ⟨rfl, rfl⟩ := h
      simp only [occL, StrLaws.partsFrom, sub_S, S_len, List.map_nil]
      congr 2
      have e : (l.drop i0).drop (i - i0) = [c] := by rw [List.drop_drop, show i0 + (i - i0) = i by omega, hm]
      rw [← e, List.take_append_drop, List.take_of_length_le (by rw [List.length_drop]; omega)]
    | c :: d :: r =>
      have hdr : l.drop (i + 1) = d :: r := by
        rw [show i + 1 = i + 1 from rfl, ← List.drop_drop, hm]; rfl
      have hdr2 : l.drop (i + 2) = r := by
        rw [← List.drop_drop, hm]; rfl
      have hlen : i + 2 ≤ l.length := by
        have := congrArg List.length hm
        rw [List.length_drop] at this; simp at this; omega
      rw [hm] at h
      by_cases hc : c = a ∧ d = b
      · rw [show splL a b (c :: d :: r) = [] :: splL a b r by rw [splL, if_pos hc]] at h
        injection h with h1 h2
        subst h1; subst h2
        rw [show occL a b i (c :: d :: r) = i :: occL a b (i + 2) r by rw [occL, if_pos hc]]
        obtain ⟨p', ps', h'⟩ := splL_ne a b r
        rw [h']
        have e2 := ih (i + 2) (i + 2) (by rw [hdr2]; have := congrArg List.length hm; simp at this; rw [List.length_drop] at hn; omega) (Nat.le_refl _) hlen p' ps' (by rw [hdr2]; exact h')
        rw [hdr2] at e2
        show strSub (S l) i0 i :: StrLaws.partsFrom (S l) 2 (i + 2) (occL a b (i + 2) r) = _
        rw [e2, sub_S]
        simp
      · rw [show splL a b (c :: d :: r) = headC c (splL a b (d :: r)) by rw [splL, if_neg hc]] at h
        rw [show occL a b i (c :: d :: r) = occL a b (i + 1) (d :: r) by rw [occL, if_neg hc]]
        obtain ⟨p', ps', h'⟩ := splL_ne a b (d :: r)
        rw [h'] at h
        simp only [headC, List.cons.injEq] at h
        obtain ⟨rfl, rfl⟩ := h
        have e2 := ih (i + 1) i0 (by rw [List.length_drop] at hn ⊢; omega) (by omega) (by omega) p' ps' (by rw [hdr]; exact h')
        rw [hdr] at e2
        rw [e2]
        congr 2
        have e3 : (l.drop i0).take (i + 1 - i0) = (l.drop i0).take (i - i0) ++ [c] := by
          rw [show i + 1 - i0 = (i - i0) + 1 by omega, List.take_add_one]
          congr 1
          rw [List.getElem?_drop, show i0 + (i - i0) = i by omega]
          have : l[i]? = (l.drop i)[0]? := by rw [List.getElem?_drop]; rfl
          rw [this, hm]; rfl
        rw [e3, List.append_assoc]; rfl
theorem parts2 (l : List Nat) (a b : Nat) : partsBetween (S l) (occL a b 0 l) 2 = (splL a b l).map S := by
  rw [StrLaws.partsBetween_eq]
  obtain ⟨p, ps, h⟩ := splL_ne a b l
  have := parts_gen l a b l.length 0 0 (by simp) (Nat.le_refl _) (Nat.zero_le _) p ps (by simpa using h)
  rw [List.drop_zero] at this
  rw [this, h]
  simp
end Mine

namespace Mine
open PySem PySem.Calls PyProof.Rows PyProof.V PySem.Builtin.Str

noncomputable def joinL (z : List Nat) : List (List Nat) → List Nat
  | [] => []
  | p :: ps => p ++ ps.flatMap (fun q => z ++ q)
theorem glue_fold (z : List Nat) : ∀ (ps : List (List Nat)) (acc : Array Nat), ((ps.map S).foldl (fun acc p => acc ++ (S z).cps ++ p.cps) acc).toList = acc.toList ++ ps.flatMap (fun q => z ++ q)
  | [], acc => by simp
  | p :: ps, acc => by
    rw [List.map_cons, List.foldl_cons, glue_fold z ps]
    simp
theorem glued_S (z : List Nat) (ps : List (List Nat)) : glued (S z) (ps.map S) = S (joinL z ps) := by
  apply Str.ext'
  apply Array.toList_inj.mp
  unfold glued
  cases ps with
  | nil => simp [joinL, Str.empty]
  | cons p ps =>
    simp only [List.map_cons, List.drop_succ_cons, List.drop_zero, List.headD_cons]
    rw [glue_fold]
    simp [joinL]
theorem join_S (z : List Nat) (ps : List (List Nat)) : Txt.join (S z) (ps.map S) = S (joinL z ps) := glued_S z ps

noncomputable def replL (a b : Nat) (z : List Nat) : List Nat → List Nat
  | c :: d :: r => if c = a ∧ d = b then z ++ replL a b z r else c :: replL a b z (d :: r)
  | [c] => [c]
  | [] => []
theorem joinL_head (z : List Nat) (c : Nat) (p : List Nat) (ps : List (List Nat)) : joinL z (headC c (p :: ps)) = c :: joinL z (p :: ps) := rfl
theorem joinL_cons (z p q : List Nat) (ps : List (List Nat)) : joinL z (p :: q :: ps) = p ++ z ++ joinL z (q :: ps) := by simp [joinL]
theorem repl_spl (a b : Nat) (z : List Nat) : ∀ (n : Nat) (l : List Nat), l.length ≤ n → joinL z (splL a b l) = replL a b z l
  | _, [], _ => rfl
  | _, [c], _ => by simp [splL, joinL, replL]
  | n + 1, c :: d :: r, h => by
    rw [splL, replL]
    split
    · obtain ⟨p, ps, e⟩ := splL_ne a b r
      have ih := repl_spl a b z n r (by simp at h; omega)
      rw [e] at ih ⊢
      rw [joinL_cons, ih]; simp
    · obtain ⟨p, ps, e⟩ := splL_ne a b (d :: r)
      have ih := repl_spl a b z n (d :: r) (by simp at h ⊢; omega)
      rw [e] at ih ⊢
      rw [joinL_head, ih]
theorem parts_nil' (x : Str) (k : Nat) : partsBetween x [] k = [x] := by
  rw [StrLaws.partsBetween_eq]
  show [strSub x 0 x.length] = [x]
  rw [StrLaws.sub_whole]
theorem replace_S (l : List Nat) (a b : Nat) (z : List Nat) : Txt.replace (S l) (S [a, b]) (S z) = S (replL a b z l) := by
  have hg : glued (S z) (partsBetween (S l) (occL a b 0 l) 2) = S (replL a b z l) := by
    rw [parts2, glued_S, repl_spl a b z l.length l (Nat.le_refl _)]
  unfold Txt.replace
  rw [occ2]
  split
  · rename_i h
    have hy : ((S [a, b]).length == 0) = false := by rw [S_len]; rfl
    rw [hy, Bool.false_and, Bool.or_false] at h
    have he : occL a b 0 l = [] := List.isEmpty_iff.mp h
    rw [he, parts_nil'] at hg
    rw [← hg]
    show S l = glued (S z) ([l].map S)
    rw [glued_S]; simp [joinL]
  · exact hg
theorem split_S (l : List Nat) : Txt.split (S l) (S [44, 32]) = (splL 44 32 l).map S := by
  unfold Txt.split
  have hk : decide (strKind (S l) < strKind (S [44, 32])) = false := by
    have h1 : strKind (S [44, 32]) = 1 := by decide +kernel
    rw [h1]
    unfold Builtin.Str.strKind
    split
    · decide
    · split <;> decide
  rw [hk, Bool.or_false]
  split
  · rename_i h
    have hl : l.length < 2 := by simpa [S_len] using h
    match l, hl with
    | [], _ => rfl
    | [c], _ => rfl
  · rw [occ2]
    split
    · rename_i h
      have he : occL 44 32 0 l = [] := List.isEmpty_iff.mp h
      have := parts2 l 44 32
      rw [he, parts_nil'] at this
      exact this
    · exact parts2 l 44 32

theorem spl_name (n r : List Nat) (h : 44 ∉ n) : splL 44 32 (n ++ 44 :: 32 :: r) = n :: splL 44 32 r := by
  induction n with
  | nil => simp [splL]
  | cons c n ih =>
    simp only [List.mem_cons, not_or] at h
    have ih := ih h.2
    cases n with
    | nil =>
      simp only [List.nil_append] at ih
      show splL 44 32 (c :: 44 :: 32 :: r) = _
      rw [show splL 44 32 (c :: 44 :: 32 :: r) = headC c (splL 44 32 (44 :: 32 :: r)) by rw [splL, if_neg (by omega)], ih]
      rfl
    | cons d n =>
      show splL 44 32 (c :: d :: (n ++ 44 :: 32 :: r)) = _
      rw [show splL 44 32 (c :: d :: (n ++ 44 :: 32 :: r)) = headC c (splL 44 32 (d :: (n ++ 44 :: 32 :: r))) by rw [splL, if_neg (by omega)]]
      rw [List.cons_append] at ih
      rw [ih]; rfl
theorem spl_last (n : List Nat) (h : 44 ∉ n) : splL 44 32 n = [n] := by
  induction n with
  | nil => rfl
  | cons c n ih =>
    simp only [List.mem_cons, not_or] at h
    cases n with
    | nil => rfl
    | cons d n =>
      rw [show splL 44 32 (c :: d :: n) = headC c (splL 44 32 (d :: n)) by rw [splL, if_neg (by omega)], ih h.2]; rfl
theorem spl_join : ∀ (n : List Nat) (ns : List (List Nat)), (∀ m ∈ n :: ns, 44 ∉ m) → splL 44 32 (joinL [44, 32] (n :: ns)) = n :: ns
  | n, [], h => by
    have : joinL [44, 32] [n] = n := by simp [joinL]
    rw [this, spl_last n (h n (by simp))]
  | n, m :: ns, h => by
    rw [joinL_cons]
    have e : n ++ [44, 32] ++ joinL [44, 32] (m :: ns) = n ++ 44 :: 32 :: joinL [44, 32] (m :: ns) := by simp
    rw [e, spl_name n _ (h n (by simp)), spl_join m ns (fun q hq => h q (List.mem_cons_of_mem _ hq))]

theorem repl_sep {a b : Nat} {z : List Nat} (ha : a ≠ 44) (ha2 : a ≠ 32) (hb : b ≠ 44) : ∀ (k : Nat) (n r : List Nat), n.length ≤ k → replL a b z (n ++ 44 :: 32 :: r) = replL a b z n ++ 44 :: 32 :: replL a b z r := by
  have h0 : ∀ r, replL a b z (44 :: 32 :: r) = 44 :: 32 :: replL a b z r := fun r => by
    rw [replL, if_neg (by omega)]
    congr 1
    cases r with
    | nil => rfl
    | cons e r => rw [replL, if_neg (by omega)]
  intro k
  induction k with
  | zero => intro n r h; obtain rfl := List.length_eq_zero_iff.mp (by omega : n.length = 0); exact h0 r
  | succ k ih =>
    intro n r h
    match n with
    | [] => exact h0 r
    | [c] =>
      show replL a b z (c :: 44 :: 32 :: r) = _
      rw [show replL a b z (c :: 44 :: 32 :: r) = c :: replL a b z (44 :: 32 :: r) by rw [replL, if_neg (by omega)], h0]; rfl
    | c :: d :: n =>
      show replL a b z (c :: d :: (n ++ 44 :: 32 :: r)) = _
      rw [replL, replL]
      split
      · rw [ih n r (by simp at h; omega)]; simp
      · have := ih (d :: n) r (by simp at h ⊢; omega)
        rw [List.cons_append] at this
        rw [this]; rfl
theorem repl_join {a b : Nat} {z : List Nat} (ha : a ≠ 44) (ha2 : a ≠ 32) (hb : b ≠ 44) : ∀ (n : List Nat) (ns : List (List Nat)), replL a b z (joinL [44, 32] (n :: ns)) = joinL [44, 32] ((n :: ns).map (replL a b z))
  | n, [] => by simp [joinL]
  | n, m :: ns => by
    rw [joinL_cons]
    have e : n ++ [44, 32] ++ joinL [44, 32] (m :: ns) = n ++ 44 :: 32 :: joinL [44, 32] (m :: ns) := by simp
    rw [e, repl_sep ha ha2 hb n.length n _ (Nat.le_refl _), repl_join ha ha2 hb m ns]
    simp only [List.map_cons]
    rw [joinL_cons]; simp

/-! small letters -/
noncomputable def lw (c : Nat) : Nat := if 65 ≤ c ∧ c ≤ 90 then c + 32 else c
theorem lower_ascii : ∀ c, c < 128 → Unicode.lowerOf c = [lw c] := by
  have H : (List.range 128).all (fun c => Unicode.lowerOf c == [lw c]) = true := by decide +kernel
  exact fun c h => eq_of_beq (List.all_eq_true.mp H c (List.mem_range.mpr h))
theorem lower_S (l : List Nat) (h : ∀ c ∈ l, c < 128) : Txt.lower (S l) = S (l.map lw) := by
  unfold Txt.lower placed
  apply Str.ext'
  have e : ((S l).cps.mapIdx fun i c => (Unicode.lowerAt (S l).cps i).toArray) = (l.map fun c => #[lw c]).toArray := by
    apply Array.ext
    · simp
    · intro i h1 h2
      simp only [Array.size_mapIdx, List.size_toArray] at h1
      simp only [Array.getElem_mapIdx, List.getElem_toArray, List.getElem_map]
      unfold Unicode.lowerAt
      have hi : (S l).cps[i]? = some l[i] := by
        show l.toArray[i]? = some l[i]
        rw [List.getElem?_toArray, List.getElem?_eq_getElem h1]
      rw [hi]
      have hc := h l[i] (List.getElem_mem h1)
      have hn : (l[i] == 0x3A3) = false := by
        rw [beq_eq_false_iff_ne]; omega
      simp only [hn, Bool.false_and, Bool.false_eq_true, if_false]
      rw [lower_ascii _ hc]
  show ((S l).cps.mapIdx fun i c => (Unicode.lowerAt (S l).cps i).toArray).flatten = _
  rw [e]
  apply Array.toList_inj.mp
  have : ∀ l : List Nat, ((l.map fun c => #[lw c]).toArray.flatten).toList = l.map lw := by
    intro l
    induction l with
    | nil => rfl
    | cons c l ih =>
      simp only [Array.toList_flatten, List.map_cons, List.map_map] at ih ⊢
      simpa using ih
  rw [this]
end Mine

namespace Mine
open PySem PySem.Calls PyProof.Rows PyProof.V

/-! the names of the flags -/
noncomputable def names10 : List Str := ["OPTIMIZED", "NEWLOCALS", "VARARGS", "VARKEYWORDS", "NESTED", "GENERATOR", "NOFREE", "COROUTINE", "ITERABLE_COROUTINE", "ASYNC_GENERATOR"]
noncomputable def NM (p : Nat) : Str := (names10[p]?).getD (baseText "0x" 16 (2 ^ p))
theorem strsOf_inv : ∀ {ds : List D} {ys : List Str}, strsOf ds = some ys → ds = ys.map D.str
  | [], ys, h => by cases h; rfl
  | d :: ds, ys, h => by
    cases d <;> simp only [strsOf, reduceCtorEq] at h
    case str x =>
      cases e : strsOf ds with
      | none => rw [e] at h; cases h
      | some xs => rw [e] at h; cases h; rw [strsOf_inv e]; rfl
theorem strsOf_map : ∀ (ys : List Str), strsOf (ys.map D.str) = some ys
  | [] => rfl
  | y :: ys => by simp only [List.map_cons, strsOf, strsOf_map ys]
noncomputable def chk6 (s : Nat) : Bool := match f6 [.int s] with
  | some (.list ds) => strsOf ds == some ((List.range 8).map fun j => NM (s + j))
  | _ => false
theorem f6_ok (s : Nat) (hs : s < 26) : f6 [.int s] = some (.list ((List.range 8).map fun j => .str (NM (s + j)))) := by
  have H : (List.range 26).all chk6 = true := by decide +kernel
  have h := List.all_eq_true.mp H s (List.mem_range.mpr hs)
  unfold chk6 at h
  split at h
  · rename_i ds e
    rw [e, strsOf_inv (eq_of_beq h), List.map_map]; rfl
  · cases h

/-! bits -/
noncomputable def bl : Nat → Nat → Nat → List Nat
  | 0, _, _ => []
  | n + 1, i, q => if q % 2 = 1 then i :: bl n (i + 1) (q / 2) else bl n (i + 1) (q / 2)
theorem bl_zero : ∀ n i, bl n i 0 = []
  | 0, _ => rfl
  | n + 1, i => by simp [bl, bl_zero n]
theorem bl_add : ∀ (n m i q : Nat), bl (n + m) i q = bl n i q ++ bl m (i + n) (q / 2 ^ n)
  | 0, m, i, q => by simp [bl]
  | n + 1, m, i, q => by
    rw [show n + 1 + m = (n + m) + 1 by omega]
    have e : q / 2 ^ (n + 1) = q / 2 / 2 ^ n := by rw [Nat.pow_succ, Nat.mul_comm, Nat.div_div_eq_div_mul]
    simp only [bl]
    rw [bl_add n m (i + 1) (q / 2), e, show i + 1 + n = i + (n + 1) by omega]
    split <;> simp
theorem bl_shift : ∀ (s n i q : Nat), bl (s + n) i (2 ^ s * q) = bl n (i + s) q
  | 0, n, i, q => by simp
  | s + 1, n, i, q => by
    rw [show s + 1 + n = (s + n) + 1 by omega]
    have e : 2 ^ (s + 1) * q = 2 * (2 ^ s * q) := by rw [Nat.pow_succ]; ac_rfl
    simp only [bl]
    rw [e, Nat.mul_mod_right, if_neg (by decide), Nat.mul_div_cancel_left _ (by decide), bl_shift s n (i + 1) q, show i + 1 + s = i + (s + 1) by omega]
theorem bl_map (s : Nat) : ∀ (n i q : Nat), (bl n i q).map (s + ·) = bl n (s + i) q
  | 0, _, _ => rfl
  | n + 1, i, q => by
    simp only [bl]
    split
    · rw [List.map_cons, bl_map s n (i + 1) (q / 2)]; rfl
    · rw [bl_map s n (i + 1) (q / 2)]; rfl
theorem bl_mem : ∀ (n i q j : Nat), j ∈ bl n i q ↔ (i ≤ j ∧ j < i + n ∧ q / 2 ^ (j - i) % 2 = 1)
  | 0, i, q, j => by simp [bl]; omega
  | n + 1, i, q, j => by
    have ih := bl_mem n (i + 1) (q / 2) j
    have e : i + 1 ≤ j → q / 2 / 2 ^ (j - (i + 1)) = q / 2 ^ (j - i) := fun h => by
      rw [show j - i = (j - (i + 1)) + 1 by omega, Nat.pow_succ, Nat.mul_comm, Nat.div_div_eq_div_mul]
    simp only [bl]
    by_cases hq : q % 2 = 1
    · rw [if_pos hq, List.mem_cons, ih]
      constructor
      · rintro (rfl | ⟨h1, h2, h3⟩)
        · simp [hq]
        · rw [e h1] at h3; exact ⟨by omega, by omega, h3⟩
      · rintro ⟨h1, h2, h3⟩
        by_cases hj : j = i
        · exact .inl hj
        · exact .inr ⟨by omega, by omega, by rw [e (by omega)]; exact h3⟩
    · rw [if_neg hq, ih]
      constructor
      · rintro ⟨h1, h2, h3⟩
        rw [e h1] at h3; exact ⟨by omega, by omega, h3⟩
      · rintro ⟨h1, h2, h3⟩
        by_cases hj : j = i
        · subst hj; simp at h3; exact absurd h3 hq
        · exact ⟨by omega, by omega, by rw [e (by omega)]; exact h3⟩

theorem band_nat (x y : Nat) : Builtin.bitAnd (x : Int) (y : Int) = ((x &&& y : Nat) : Int) := by
  unfold Builtin.bitAnd
  simp
theorem bnot_nat (x : Nat) : Builtin.bitNot (x : Int) = -(x : Int) - 1 := by unfold Builtin.bitNot; omega
theorem bor_nat (x y : Nat) : Builtin.bitOr (x : Int) (y : Int) = ((x ||| y : Nat) : Int) := by
  unfold Builtin.bitOr Builtin.bitAnd
  have h1 : decide (0 ≤ Builtin.bitNot (x : Int)) = false := by rw [bnot_nat]; simp; omega
  have h2 : decide (0 ≤ Builtin.bitNot (y : Int)) = false := by rw [bnot_nat]; simp; omega
  have h3 : ∀ z : Nat, Builtin.bitNot (Builtin.bitNot (z : Int)) = (z : Int) := fun z => by unfold Builtin.bitNot; omega
  rw [h1, h2]
  simp only
  rw [h3, h3, h3]
  simp
theorem and_pow (i q : Nat) : (2 ^ i * q) &&& 2 ^ i = if q % 2 = 1 then 2 ^ i else 0 := by
  apply Nat.eq_of_testBit_eq
  intro j
  rw [Nat.testBit_and, Nat.testBit_two_pow_mul, Nat.testBit_two_pow]
  by_cases hj : i = j
  · subst hj
    by_cases h : q % 2 = 1
    · simp [h]
    · simp [h]
  · split
    · simp [hj]
    · simp [hj]
theorem or_pow (i q : Nat) (h : q % 2 = 1) : (2 ^ i * q) ||| 2 ^ i = 2 ^ i * q := by
  apply Nat.eq_of_testBit_eq
  intro j
  rw [Nat.testBit_or, Nat.testBit_two_pow_mul, Nat.testBit_two_pow]
  by_cases hj : i = j
  · subst hj; simp [h]
  · simp [hj]
theorem band_pow (i q : Nat) : Builtin.bitAnd ((2 ^ i * q : Nat) : Int) ((2 ^ i : Nat) : Int) = if q % 2 = 1 then ((2 ^ i : Nat) : Int) else 0 := by
  rw [band_nat, and_pow]
  split <;> rfl
theorem bxor_pow (i q : Nat) (h : q % 2 = 1) : Builtin.bitXor ((2 ^ i * q : Nat) : Int) ((2 ^ i : Nat) : Int) = ((2 ^ (i + 1) * (q / 2) : Nat) : Int) := by
  unfold Builtin.bitXor
  rw [bor_nat, band_nat, or_pow i q h, and_pow, if_pos h]
  have e : 2 ^ i * q = 2 ^ (i + 1) * (q / 2) + 2 ^ i := by
    have h2 : q = 2 * (q / 2) + 1 := by omega
    rw [Nat.pow_succ]
    conv => lhs; rw [h2]
    rw [Nat.mul_add, Nat.mul_one]; congr 1; ac_rfl
  rw [e]
  omega
end Mine

namespace Mine
open PySem PySem.Calls PyProof.Rows PyProof.V

noncomputable def chkFlag (i : Nat) : Bool := match dHex [.int ((2 ^ i : Nat) : Int)] with
  | some (.str y) => (match get2 flagTab [.int ((2 ^ i : Nat) : Int), .str y] with
    | some (.str z) => z == NM i
    | _ => false)
  | _ => false
theorem flag_name (i : Nat) (h : i < 32) : ∃ y, dHex [.int ((2 ^ i : Nat) : Int)] = some (.str y) ∧ get2 flagTab [.int ((2 ^ i : Nat) : Int), .str y] = some (.str (NM i)) := by
  have H : (List.range 32).all chkFlag = true := by decide +kernel
  have h := List.all_eq_true.mp H i (List.mem_range.mpr h)
  unfold chkFlag at h
  split at h
  · rename_i y e
    split at h
    · rename_i z e2
      exact ⟨y, e, by rw [e2, eq_of_beq h]⟩
    · cases h
  · cases h
noncomputable def isStr (d : Option D) (s : Str) : Bool := match d with
  | some (.str y) => y == s
  | _ => false
theorem isStr_eq {d : Option D} {s : Str} (h : isStr d s = true) : d = some (.str s) := by
  unfold isStr at h
  split at h
  · rw [eq_of_beq h]
  · cases h
theorem hex_zero : dHex [.int 0] = some (.str "0x0") := isStr_eq (by decide +kernel)
theorem hex_32 : dHex [.int ((2 ^ 32 : Nat) : Int)] = some (.str (NM 32)) := isStr_eq (by decide +kernel)

noncomputable abbrev B2 : List D → Option (Fl × List D) := (sSeq (sAssign 3 (eBin dLShift (fun _ => some (.int 1)) (eVar 2))) (sSeq (sIf (tOf (eBin dAnd (eVar 0) (eVar 3))) (sSeq (sAppend 1 (eCall (get2 flagTab) (lCons (eVar 3) (lCons (eCall dHex (lCons (eVar 3) lNil)) lNil)))) (sSeq (sAug 0 dXor (eVar 3)) (sSeq (sIf (tNot (tOf (eVar 0))) (sSeq sBrk sNil) sNil) sNil))) sNil) sNil))

theorem append_of {k : Nat} {f : List D → Option D} {ds : List D} {d : D} {xs : List D} (h : f ds = some d) (h2 : ds[k]? = some (.own xs)) (hl : xs.length ≤ 65536) : sAppend k f ds = some (.next, ds.set k (.own (xs ++ [d]))) := by
  unfold sAppend; rw [h]; dsimp only; rw [h2]; dsimp only; rw [if_pos hl]
theorem lshift_one (i : Nat) (h : i ≤ 64) : dLShift (.int 1) (.int (i : Int)) = some (.int ((2 ^ i : Nat) : Int)) := by
  have hb : Builtin.Int.intBits 1 = 1 := by decide +kernel
  show (if 0 ≤ (i : Int) ∧ (Builtin.Int.intBits 1 : Int) + i ≤ 2 ^ 27 then some (D.int (1 * 2 ^ (i : Int).toNat)) else none) = _
  rw [hb, if_pos (by constructor <;> omega)]
  simp
theorem b2_step {F i : Nat} {A : List D} {y : D} (hi : i < 32) (hA : A.length ≤ 1000) {q : Nat} (hF : F = 2 ^ i * q) :
    B2 [.int (F : Int), .own A, .int (i : Int), y] = if q % 2 = 1 then (if q / 2 = 0 then some (.brk, [.int 0, .own (A ++ [.str (NM i)]), .int (i : Int), .int ((2 ^ i : Nat) : Int)])
      else some (.next, [.int ((2 ^ (i + 1) * (q / 2) : Nat) : Int), .own (A ++ [.str (NM i)]), .int (i : Int), .int ((2 ^ i : Nat) : Int)]))
      else some (.next, [.int ((2 ^ (i + 1) * (q / 2) : Nat) : Int), .own A, .int (i : Int), .int ((2 ^ i : Nat) : Int)]) := by
  subst hF
  have e1 : (eBin dLShift (fun _ => some (.int 1)) (eVar 2)) [.int ((2 ^ i * q : Nat) : Int), .own A, .int (i : Int), y] = some (.int ((2 ^ i : Nat) : Int)) := bin_of (x := .int 1) (y := .int (i : Int)) rfl rfl (lshift_one i (by omega))
  refine (seq_of (asg_of e1)).trans ?_
  show sSeq _ _ [.int ((2 ^ i * q : Nat) : Int), .own A, .int (i : Int), .int ((2 ^ i : Nat) : Int)] = _
  have e2 : tOf (eBin dAnd (eVar 0) (eVar 3)) [.int ((2 ^ i * q : Nat) : Int), .own A, .int (i : Int), .int ((2 ^ i : Nat) : Int)] = some (decide (q % 2 = 1)) := by
    refine tof_of (d := .int (Builtin.bitAnd ((2 ^ i * q : Nat) : Int) ((2 ^ i : Nat) : Int))) (bin_of rfl rfl rfl) ?_
    rw [band_pow]
    have hp : 0 < 2 ^ i := Nat.two_pow_pos i
    by_cases h : q % 2 = 1
    · rw [if_pos h]
      simp only [dTruth, h, decide_true, Option.some.injEq, bne_iff_ne]
      omega
    · rw [if_neg h]
      simp [dTruth, h]
  by_cases h : q % 2 = 1
  · rw [if_pos h]
    obtain ⟨hx, h1, h2⟩ := flag_name i hi
    have e3 : (eCall (get2 flagTab) (lCons (eVar 3) (lCons (eCall dHex (lCons (eVar 3) lNil)) lNil))) [.int ((2 ^ i * q : Nat) : Int), .own A, .int (i : Int), .int ((2 ^ i : Nat) : Int)] = some (.str (NM i)) :=
      call_of (xs := [.int ((2 ^ i : Nat) : Int), .str hx]) (lcons_of rfl (lcons_of h1 rfl)) h2
    have e4 : eBin dXor (eVar 0) (eVar 3) [.int ((2 ^ i * q : Nat) : Int), .own (A ++ [.str (NM i)]), .int (i : Int), .int ((2 ^ i : Nat) : Int)] = some (.int ((2 ^ (i + 1) * (q / 2) : Nat) : Int)) :=
      bin_of (x := .int ((2 ^ i * q : Nat) : Int)) (y := .int ((2 ^ i : Nat) : Int)) rfl rfl (congrArg (fun z => some (D.int z)) (bxor_pow i q h))
    have e5 : ∀ r, r = (sSeq (sAppend 1 (eCall (get2 flagTab) (lCons (eVar 3) (lCons (eCall dHex (lCons (eVar 3) lNil)) lNil)))) (sSeq (sAug 0 dXor (eVar 3)) (sSeq (sIf (tNot (tOf (eVar 0))) (sSeq sBrk sNil) sNil) sNil))) [.int ((2 ^ i * q : Nat) : Int), .own A, .int (i : Int), .int ((2 ^ i : Nat) : Int)] →
        r = (sSeq (sIf (tNot (tOf (eVar 0))) (sSeq sBrk sNil) sNil) sNil) [.int ((2 ^ (i + 1) * (q / 2) : Nat) : Int), .own (A ++ [.str (NM i)]), .int (i : Int), .int ((2 ^ i : Nat) : Int)] := fun r hr => by
      rw [hr]
      refine (seq_of (append_of e3 rfl (by omega))).trans ?_
      show sSeq _ _ [.int ((2 ^ i * q : Nat) : Int), .own (A ++ [.str (NM i)]), .int (i : Int), .int ((2 ^ i : Nat) : Int)] = _
      exact (seq_of (aug_of e4)).trans rfl
    have e6 : tNot (tOf (eVar 0)) [.int ((2 ^ (i + 1) * (q / 2) : Nat) : Int), .own (A ++ [.str (NM i)]), .int (i : Int), .int ((2 ^ i : Nat) : Int)] = some (decide (q / 2 = 0)) := by
      have : tOf (eVar 0) [.int ((2 ^ (i + 1) * (q / 2) : Nat) : Int), .own (A ++ [.str (NM i)]), .int (i : Int), .int ((2 ^ i : Nat) : Int)] = some (!decide (q / 2 = 0)) := by
        refine tof_of (d := .int ((2 ^ (i + 1) * (q / 2) : Nat) : Int)) rfl ?_
        have hp : 0 < 2 ^ (i + 1) := Nat.two_pow_pos _
        by_cases h0 : q / 2 = 0
        · simp [dTruth, h0]
        · have : 0 < 2 ^ (i + 1) * (q / 2) := Nat.mul_pos hp (by omega)
          simp only [dTruth, h0, decide_false, Bool.not_false, Option.some.injEq, bne_iff_ne]
          omega
      unfold tNot; rw [this]; simp
    by_cases h0 : q / 2 = 0
    · rw [if_pos h0]
      refine seq_brk ((if_t (e2.trans (by rw [h]; rfl))).trans ?_)
      rw [e5 _ rfl]
      rw [h0] at e6 ⊢
      exact seq_brk ((if_t (e6.trans (by rfl))).trans (seq_brk rfl))
    · rw [if_neg h0]
      refine (seq_of ((if_t (e2.trans (by rw [h]; rfl))).trans ?_)).trans rfl
      rw [e5 _ rfl]
      exact (seq_of (if_skip (e6.trans (by rw [decide_eq_false h0])))).trans rfl
  · rw [if_neg h]
    refine (seq_of (if_skip (e2.trans (by rw [decide_eq_false h])))).trans ?_
    have : 2 ^ i * q = 2 ^ (i + 1) * (q / 2) := by
      have h2 : q = 2 * (q / 2) := by omega
      rw [Nat.pow_succ]
      conv => lhs; rw [h2]
      ac_rfl
    rw [this]

theorem for_loop {k : Nat} {body : List D → Option (Fl × List D)} {x : D} {xs : List D} {ds : List D} : forD (setK k) body (x :: xs) ds = (match body (ds.set k x) with
    | some (.next, ds2) => forD (setK k) body xs ds2
    | r => r) := rfl
noncomputable abbrev strD (p : Nat) : D := .str (NM p)
theorem loop2 : ∀ (n i q : Nat) (A : List D) (x y : D), i + n = 32 → A.length + n ≤ 100 → ∃ x' y',
    forD (setK 2) B2 ((List.range' i n).map fun (j : Nat) => D.int (j : Int)) [.int ((2 ^ i * q : Nat) : Int), .own A, x, y] =
      if q ≠ 0 ∧ q / 2 ^ n = 0 then some (.brk, [.int 0, .own (A ++ (bl n i q).map strD), x', y'])
      else some (.next, [.int ((2 ^ 32 * (q / 2 ^ n) : Nat) : Int), .own (A ++ (bl n i q).map strD), x', y'])
  | 0, i, q, A, x, y, hi, hA => by
    obtain rfl : i = 32 := by omega
    refine ⟨x, y, ?_⟩
    have : ¬ (q ≠ 0 ∧ q / 2 ^ 0 = 0) := by simp
    rw [if_neg this]
    simp [forD, bl]
  | n + 1, i, q, A, x, y, hi, hA => by
    have e : q / 2 ^ (n + 1) = q / 2 / 2 ^ n := by rw [Nat.pow_succ, Nat.mul_comm, Nat.div_div_eq_div_mul]
    rw [List.range'_succ, List.map_cons, for_loop]
    show ∃ x' y', (match B2 [.int ((2 ^ i * q : Nat) : Int), .own A, .int (i : Int), y] with
      | some (.next, ds2) => forD (setK 2) B2 ((List.range' (i + 1) n).map fun (j : Nat) => D.int (j : Int)) ds2
      | r => r) = _
    rw [b2_step (by omega) (by omega) rfl]
    by_cases h : q % 2 = 1
    · rw [if_pos h]
      have hbl : bl (n + 1) i q = i :: bl n (i + 1) (q / 2) := by simp only [bl]; rw [if_pos h]
      by_cases h0 : q / 2 = 0
      · rw [if_pos h0]
        refine ⟨.int (i : Int), .int ((2 ^ i : Nat) : Int), ?_⟩
        rw [if_pos ⟨by omega, by rw [e, h0]; simp⟩, hbl, h0, bl_zero]
        rfl
      · rw [if_neg h0]
        obtain ⟨x', y', ih⟩ := loop2 n (i + 1) (q / 2) (A ++ [.str (NM i)]) (.int (i : Int)) (.int ((2 ^ i : Nat) : Int)) (by omega) (by simp; omega)
        refine ⟨x', y', ?_⟩
        dsimp only
        rw [ih, hbl, e]
        by_cases hc : q / 2 / 2 ^ n = 0
        · rw [if_pos ⟨h0, hc⟩, if_pos ⟨by omega, hc⟩]; simp
        · rw [if_neg (fun z => hc z.2), if_neg (fun z => hc z.2)]; simp
    · rw [if_neg h]
      have hbl : bl (n + 1) i q = bl n (i + 1) (q / 2) := by simp only [bl]; rw [if_neg h]
      obtain ⟨x', y', ih⟩ := loop2 n (i + 1) (q / 2) A (.int (i : Int)) (.int ((2 ^ i : Nat) : Int)) (by omega) (by omega)
      refine ⟨x', y', ?_⟩
      dsimp only
      rw [ih, hbl, e]
      by_cases hq : q = 0
      · subst hq; simp
      · by_cases hc : q / 2 / 2 ^ n = 0
        · rw [if_pos ⟨by omega, hc⟩, if_pos ⟨hq, hc⟩]
        · rw [if_neg (fun z => hc z.2), if_neg (fun z => hc z.2)]

theorem rng32 : rangeItems 0 32 = (List.range' 0 32).map fun (j : Nat) => D.int (j : Int) := by
  unfold rangeItems
  rw [← List.range_eq_range']
  apply List.map_congr_left
  intro a _
  congr 1
  omega
theorem bl_len : ∀ n i q, (bl n i q).length ≤ n
  | 0, _, _ => Nat.le_refl _
  | n + 1, i, q => by
    have := bl_len n (i + 1) (q / 2)
    simp only [bl]; split <;> simp <;> omega

/-- the names told of a crowd of flags -/
noncomputable def told (s c : Nat) : List Str := if c = 0 then ["0x0"] else (bl 8 s c).map NM
theorem told_fits {ys : List Str} {n m : Nat} (h : ∀ y ∈ ys, y.length ≤ n) (hl : ys.length ≤ m) : (ys.map (·.length)).sum + ys.length * 2 ≤ m * (n + 2) := by
  have h1 : (ys.map (·.length)).sum ≤ ys.length * n := by
    induction ys with
    | nil => simp
    | cons y ys ih =>
      have a := h y List.mem_cons_self
      have b := ih (fun z hz => h z (List.mem_cons_of_mem _ hz)) (by simp at hl; omega)
      simp only [List.map_cons, List.sum_cons, List.length_cons, Nat.add_mul, Nat.one_mul]
      omega
  calc (ys.map (·.length)).sum + ys.length * 2 ≤ ys.length * n + ys.length * 2 := by omega
    _ = ys.length * (n + 2) := by rw [Nat.mul_add]
    _ ≤ m * (n + 2) := Nat.mul_le_mul_right _ hl
theorem nm_short (p : Nat) (h : p ≤ 33) : (NM p).length ≤ 20 := by
  have H : (List.range 34).all (fun p => decide ((NM p).length ≤ 20)) = true := by decide +kernel
  exact of_decide_eq_true (List.all_eq_true.mp H p (List.mem_range.mpr (by omega)))
theorem dJoin_of {ys : List Str} (h : ∀ y ∈ ys, y.length ≤ 20) (hl : ys.length ≤ 100) : dJoin [.str ", ", .list (ys.map D.str)] = some (.str (Txt.join ", " ys)) := by
  show (match strsOf (ys.map D.str) with | some ys => (if (ys.map (fun y : Str => y.length)).sum + ys.length * (", " : Str).length ≤ 65536 then some (D.str (Txt.join ", " ys)) else none) | none => none) = _
  rw [strsOf_map]
  dsimp only
  have h2 : (", " : Str).length = 2 := by decide +kernel
  have := told_fits h hl
  rw [h2, if_pos (by omega)]
theorem told_short {s c : Nat} (hs : s < 26) : ∀ y ∈ told s c, y.length ≤ 20 := by
  unfold told
  split
  · intro y hy
    rw [List.mem_singleton.mp hy]; decide +kernel
  · intro y hy
    obtain ⟨p, hp, rfl⟩ := List.mem_map.mp hy
    have := (bl_mem 8 s c p).mp hp
    exact nm_short p (by omega)
theorem told_len (s c : Nat) : (told s c).length ≤ 9 := by
  unfold told
  split
  · simp
  · rw [List.length_map]; have := bl_len 8 s c; omega

theorem sFor_of {set : D → List D → Option (List D)} {fi : List D → Option D} {gb go : List D → Option (Fl × List D)} {ds : List D} {d : D} {xs : List D} (h : fi ds = some d) (h2 : itemsD d = some xs) :
    sFor set fi gb go ds = (match forD set gb xs ds with
      | some (.next, ds1) => go ds1
      | some (.brk, ds1) => some (.next, ds1)
      | r => r) := by
  unfold sFor; rw [h]; dsimp only; rw [h2]
  all_goals try dsimp only
  all_goals
    cases forD set gb xs ds with
    | none => rfl
    | some p => obtain ⟨fl, _⟩ := p; cases fl <;> rfl
theorem rel_own {k : Nat} {g : List D → Option (Fl × List D)} {ds : List D} {xs : List D} (h : ds[k]? = some (.own xs)) : sRel k g ds = g (ds.set k (.list xs)) := by
  unfold sRel rel; rw [h]
theorem rel_not {k : Nat} {g : List D → Option (Fl × List D)} {ds : List D} {d : D} (h : ds[k]? = some d) (hd : ∀ xs, d ≠ .own xs) : sRel k g ds = g ds := by
  unfold sRel rel; rw [h]
  cases d <;> first | rfl | exact absurd rfl (hd _)
theorem f2_bits (s c : Nat) (hs : s < 26) (hc : c < 256) : bl 32 0 (2 ^ s * c) = bl (32 - s) s c := by
  have : 32 = s + (32 - s) := by omega
  rw [this, bl_shift, Nat.zero_add]
  rw [← this]
theorem bl_eight (n s c : Nat) (hn : 8 ≤ n) (hc : c < 256) : bl n s c = bl 8 s c := by
  have : n = 8 + (n - 8) := by omega
  rw [this, bl_add 8 (n - 8) s c, Nat.div_eq_of_lt hc, bl_zero, List.append_nil]
theorem f2_ok (s c : Nat) (hs : s < 26) (hc : c < 256) : f2 [.int ((2 ^ s * c : Nat) : Int)] = some (.str (Txt.join ", " (told s c))) := by
  obtain ⟨x', y', hl⟩ := loop2 32 0 (2 ^ s * c) [] .undef .undef rfl (by decide)
  have hz : 2 ^ 0 * (2 ^ s * c) = 2 ^ s * c := by simp
  rw [hz] at hl
  have hits : itemsD (.rng 0 32) = some ((List.range' 0 32).map fun (j : Nat) => D.int (j : Int)) := by
    rw [← rng32]; rfl
  -- the names at the loop's end
  have hend : ∃ F, sFor (setK 2) (eCall dRange (lCons (fun _ => some (.int 32)) lNil)) B2 (sSeq (sAppend 1 (eCall dHex (lCons (eVar 0) lNil))) sNil) [.int ((2 ^ s * c : Nat) : Int), .own [], .undef, .undef] = some (.next, [F, .own ((told s c).map D.str), x', y']) := by
    rw [sFor_of (d := .rng 0 32) rfl hits, hl]
    have hcs : 2 ^ s * c = 0 ↔ c = 0 := by
      constructor
      · intro h
        rcases Nat.mul_eq_zero.mp h with h | h
        · exact absurd h (Nat.ne_of_gt (Nat.two_pow_pos s))
        · exact h
      · rintro rfl; simp
    by_cases h0 : c = 0
    · subst h0
      simp only [Nat.mul_zero, ne_eq, not_true, false_and, if_false, Nat.zero_div]
      rw [bl_zero]
      refine ⟨.int 0, ?_⟩
      have e : sAppend 1 (eCall dHex (lCons (eVar 0) lNil)) [.int 0, .own [], x', y'] = some (.next, [.int 0, .own [.str "0x0"], x', y']) := append_of (d := .str "0x0") (xs := []) hex_zero rfl (by decide)
      exact (seq_of e).trans rfl
    · by_cases hd : 2 ^ s * c / 2 ^ 32 = 0
      · rw [if_pos ⟨fun h => h0 (hcs.mp h), hd⟩]
        refine ⟨.int 0, ?_⟩
        rw [f2_bits s c hs hc]
        have e : bl (32 - s) s c = bl 8 s c := by
          by_cases h8 : 8 ≤ 32 - s
          · exact bl_eight _ s c h8 hc
          · have h25 : s = 25 := by omega
            subst h25
            have h7 : c / 2 ^ 7 = 0 := by
              have e2 : 2 ^ 25 * c / 2 ^ 32 = c / 2 ^ 7 := by
                rw [show (2 : Nat) ^ 32 = 2 ^ 25 * 2 ^ 7 by decide, Nat.mul_div_mul_left _ _ (by decide)]
              rw [e2] at hd; exact hd
            have := bl_add 7 1 25 c
            rw [h7] at this
            rw [show bl (7 + 1) 25 c = bl 8 25 c from rfl] at this
            rw [this]
            simp [bl]
        rw [e]
        unfold told
        rw [if_neg h0, List.map_map]
        rfl
      · rw [if_neg (fun z => hd z.2)]
        have h25 : s = 25 := by
          rcases Nat.lt_or_ge s 25 with h | h
          · exfalso
            apply hd
            apply Nat.div_eq_of_lt
            have h1 : 2 ^ s ≤ 2 ^ 24 := Nat.pow_le_pow_right (by decide) (by omega)
            calc 2 ^ s * c ≤ 2 ^ 24 * c := Nat.mul_le_mul_right _ h1
              _ < 2 ^ 24 * 2 ^ 8 := Nat.mul_lt_mul_of_pos_left (by simpa using hc) (by decide)
              _ = 2 ^ 32 := by decide
          · omega
        subst h25
        have e2 : 2 ^ 25 * c / 2 ^ 32 = c / 2 ^ 7 := by
          rw [show (2 : Nat) ^ 32 = 2 ^ 25 * 2 ^ 7 by decide, Nat.mul_div_mul_left _ _ (by decide)]
        have h7 : c / 2 ^ 7 = 1 := by rw [e2] at hd; omega
        have hb : bl 32 0 (2 ^ 25 * c) = bl 7 25 c := f2_bits 25 c hs hc
        have hb8 : bl 8 25 c = bl 7 25 c ++ [32] := by
          have := bl_add 7 1 25 c
          rw [h7] at this
          simpa [bl] using this
        rw [e2, h7, hb]
        refine ⟨.int ((2 ^ 32 * 1 : Nat) : Int), ?_⟩
        have ht : told 25 c = (bl 7 25 c).map NM ++ [NM 32] := by
          unfold told; rw [if_neg h0, hb8, List.map_append]; rfl
        rw [ht]
        have e : sAppend 1 (eCall dHex (lCons (eVar 0) lNil)) [.int ((2 ^ 32 * 1 : Nat) : Int), .own ([] ++ (bl 7 25 c).map strD), x', y'] = some (.next, [.int ((2 ^ 32 * 1 : Nat) : Int), .own ([] ++ (bl 7 25 c).map strD ++ [.str (NM 32)]), x', y']) :=
          append_of (d := .str (NM 32)) (xs := [] ++ (bl 7 25 c).map strD) hex_32 rfl (by rw [List.nil_append, List.length_map]; have := bl_len 7 25 c; omega)
        refine (seq_of e).trans ?_
        show some (Fl.next, [D.int ((2 ^ 32 * 1 : Nat) : Int), D.own ([] ++ (bl 7 25 c).map strD ++ [.str (NM 32)]), x', y']) = _
        rw [List.map_append, List.map_map]; rfl
  obtain ⟨F, hend⟩ := hend
  show fnD 1 4 b2 [.int ((2 ^ s * c : Nat) : Int)] = some (.str (Txt.join ", " (told s c)))
  refine fn_of_ret (n := 1) (m := 4) (body := b2) (xs := [.int ((2 ^ s * c : Nat) : Int)]) (ds1 := [F, .list ((told s c).map D.str), x', y']) rfl ?_
  show b2 [.int ((2 ^ s * c : Nat) : Int), .undef, .undef, .undef] = _
  refine (seq_of (ds1 := [.int ((2 ^ s * c : Nat) : Int), .own [], .undef, .undef]) rfl).trans ?_
  refine (seq_of hend).trans ?_
  refine (rel_own (xs := (told s c).map D.str) rfl).trans ?_
  show sSeq _ _ [F, .list ((told s c).map D.str), x', y'] = _
  refine seq_ret (ret_of (call_of (xs := [.str ", ", .list ((told s c).map D.str)]) rfl (dJoin_of (told_short hs) (Nat.le_trans (told_len s c) (by decide)))))
end Mine

namespace Mine
open PySem PySem.Calls PyProof.Rows PyProof.V

theorem fdiv_nat (a b : Nat) : Int.fdiv (a : Int) (b : Int) = ((a / b : Nat) : Int) := by
  rw [Int.fdiv_eq_ediv_of_nonneg _ (by omega)]; rfl
theorem fmod_nat (a b : Nat) : Int.fmod (a : Int) (b : Int) = ((a % b : Nat) : Int) := by
  rw [Int.fmod_eq_emod_of_nonneg _ (by omega)]; rfl
theorem rngN (n : Nat) : rangeItems 0 n = (List.range' 0 n).map fun (j : Nat) => D.int (j : Int) := by
  unfold rangeItems
  rw [← List.range_eq_range', show ((n : Int) - 0).toNat = n by omega]
  apply List.map_congr_left
  intro a _
  congr 1
  omega
/-- a comprehension of a filter and a map -/
theorem compD_eq {α : Type} {cap : List D} {ft : List D → Option Bool} {fe : List D → Option D} (dv : α → D) (p : α → Bool) (g : α → D) : ∀ (xs : List α), (∀ x ∈ xs, ft (dv x :: cap) = some (p x) ∧ (p x = true → fe (dv x :: cap) = some (g x))) →
    compD cap ft fe (xs.map dv) = some ((xs.filter p).map g)
  | [], _ => rfl
  | x :: xs, h => by
    obtain ⟨h1, h2⟩ := h x List.mem_cons_self
    have ih := compD_eq dv p g xs fun y hy => h y (List.mem_cons_of_mem _ hy)
    rw [List.map_cons]
    unfold compD
    rw [h1]
    cases e : p x with
    | false =>
      simp only
      rw [ih, List.filter_cons_of_neg (by simp [e])]
    | true =>
      simp only
      rw [h2 e]
      simp only
      rw [ih, List.filter_cons_of_pos (by simp [e])]; rfl
theorem comp_of {ks : List Nat} {fi : List D → Option D} {ft : List D → Option Bool} {fe : List D → Option D} {ds cap : List D} {d : D} {xs ys : List D} (h1 : fi ds = some d) (h2 : itemsD d = some xs) (h3 : xs.length ≤ 65536) (hc : capD ks ds = cap) (h4 : compD cap ft fe xs = some ys) :
    eComp ks fi ft fe ds = some (.list ys) := by
  unfold eComp
  rw [h1]; dsimp only; rw [h2]; dsimp only
  rw [if_pos h3, hc, h4]
noncomputable def bit (c j : Nat) : Bool := c / 2 ^ j % 2 == 1
theorem bl_filter : ∀ (n i c : Nat), bl n i (c / 2 ^ i) = (List.range' i n).filter (bit c)
  | 0, i, c => rfl
  | n + 1, i, c => by
    have e : c / 2 ^ i / 2 = c / 2 ^ (i + 1) := by rw [Nat.pow_succ, Nat.div_div_eq_div_mul]
    rw [List.range'_succ]
    simp only [bl]
    rw [e, bl_filter n (i + 1) c]
    by_cases h : c / 2 ^ i % 2 = 1
    · rw [if_pos h, List.filter_cons_of_pos (by simpa [bit] using h)]
    · rw [if_neg h, List.filter_cons_of_neg (by simpa [bit] using h)]
theorem bit_test (c j : Nat) {cap : List D} (hc : cap[1]? = some (.int (c : Int))) : tOf (eBin dAnd (eBin dRShift (eVar 2) (eVar 0)) (fun _ => some (.int 1))) (.int (j : Int) :: cap) = some (bit c j) := by
  have e2 : eVar 2 (.int (j : Int) :: cap) = some (.int (c : Int)) := by
    show (match (D.int (j : Int) :: cap)[2]? with | some d => (if d.plain then some d else none) | none => none) = _
    rw [show (D.int (j : Int) :: cap)[2]? = cap[1]? from rfl, hc]; rfl
  have e1 : eBin dRShift (eVar 2) (eVar 0) (.int (j : Int) :: cap) = some (.int ((c / 2 ^ j : Nat) : Int)) := by
    refine bin_of e2 rfl ?_
    show (if 0 ≤ (j : Int) then some (D.int ((c : Int).fdiv (2 ^ (j : Int).toNat))) else none) = _
    rw [if_pos (by omega)]
    congr 2
    rw [← fdiv_nat, Int.toNat_natCast]; congr 1
  refine tof_of (bin_of e1 rfl rfl) ?_
  have hb : Builtin.bitAnd ((c / 2 ^ j : Nat) : Int) 1 = if c / 2 ^ j % 2 = 1 then 1 else 0 := by
    have := band_pow 0 (c / 2 ^ j)
    simpa using this
  show dTruth (.int (Builtin.bitAnd ((c / 2 ^ j : Nat) : Int) 1)) = _
  rw [hb]
  unfold bit
  by_cases h : c / 2 ^ j % 2 = 1
  · rw [if_pos h, h]; rfl
  · rw [if_neg h]; simp [dTruth, h]
noncomputable abbrev namesD (s : Nat) : D := .list ((List.range 8).map fun j => .str (NM (s + j)))
theorem idx_names (s j : Nat) (h : j < 8) {cap : List D} (hc : cap[0]? = some (namesD s)) : eBin dIdx (eVar 1) (eVar 0) (.int (j : Int) :: cap) = some (.str (NM (s + j))) := by
  have e1 : eVar 1 (.int (j : Int) :: cap) = some (namesD s) := by
    show (match (D.int (j : Int) :: cap)[1]? with | some d => (if d.plain then some d else none) | none => none) = _
    rw [show (D.int (j : Int) :: cap)[1]? = cap[0]? from rfl, hc]; rfl
  refine bin_of e1 rfl ?_
  show (if 0 ≤ (j : Int) ∧ (j : Int) < 65536 then ((List.range 8).map fun j => D.str (NM (s + j)))[(j : Int).toNat]? else none) = _
  rw [if_pos (by constructor <;> omega), Int.toNat_natCast, List.getElem?_map, List.getElem?_range h]
  rfl
theorem bl_nil (s c : Nat) (hc : c < 256) : bl 8 s c = [] ↔ c = 0 := by
  have e : bl 8 s c = (bl 8 0 c).map (s + ·) := (bl_map s 8 0 c).symm
  have H : (List.range 256).all (fun c => (bl 8 0 c).isEmpty == (c == 0)) = true := by decide +kernel
  have h := List.all_eq_true.mp H c (List.mem_range.mpr hc)
  rw [e, List.map_eq_nil_iff]
  have h := eq_of_beq h
  constructor
  · intro h0; rw [h0] at h; simpa using h.symm
  · intro h0; rw [h0] at h ⊢; rfl
theorem f7_ok (s c : Nat) (hs : s < 26) (hc : c < 256) : f7 [namesD s, .int (c : Int)] = some (.str (Txt.join ", " (told s c))) := by
  have hcomp : compD [namesD s, .int (c : Int)] (tOf (eBin dAnd (eBin dRShift (eVar 2) (eVar 0)) (fun _ => some (.int 1)))) (eBin dIdx (eVar 1) (eVar 0)) ((List.range' 0 8).map fun (j : Nat) => D.int (j : Int)) = some ((bl 8 s c).map strD) := by
    rw [compD_eq (fun (j : Nat) => D.int (j : Int)) (bit c) (fun j => D.str (NM (s + j))) (List.range' 0 8) fun j hj => ⟨bit_test c j rfl, fun _ => idx_names s j (by simp [List.mem_range'] at hj; omega) rfl⟩]
    have e := bl_filter 8 0 c
    rw [Nat.pow_zero, Nat.div_one] at e
    rw [← e, ← Nat.add_zero s, ← bl_map s 8 0 c, List.map_map]
    rfl
  show fnD 2 3 b7 [namesD s, .int (c : Int)] = some (.str (Txt.join ", " (told s c)))
  refine fn_of_ret (n := 2) (m := 3) (body := b7) (xs := [namesD s, .int (c : Int)]) (ds1 := [namesD s, .int (c : Int), .list ((bl 8 s c).map strD)]) rfl ?_
  show b7 [namesD s, .int (c : Int), .undef] = _
  refine (seq_of (asg_of (d := .list ((bl 8 s c).map strD)) (comp_of (d := .rng 0 8) (cap := [namesD s, .int (c : Int)]) rfl (congrArg some (rngN 8)) (by simp) rfl hcomp))).trans ?_
  show sSeq _ _ [namesD s, .int (c : Int), .list ((bl 8 s c).map strD)] = _
  refine seq_ret (ret_of ?_)
  have hne : tOf (eBin dNe (eVar 2) (eList lNil)) [namesD s, .int (c : Int), .list ((bl 8 s c).map strD)] = some (decide (c ≠ 0)) := by
    by_cases h0 : c = 0
    · rw [(bl_nil s c hc).mpr h0]
      rw [h0]; rfl
    · have hn : bl 8 s c ≠ [] := fun h => h0 ((bl_nil s c hc).mp h)
      refine tof_of (d := .bool true) (bin_of (x := .list ((bl 8 s c).map strD)) (y := .list []) rfl rfl ?_) (by simp [dTruth, h0])
      show (match dEqL ((bl 8 s c).map strD) [] with | some b => some (D.bool (!b)) | none => none) = _
      unfold dEqL
      rw [if_neg (by simpa using hn)]; rfl
  unfold eIf
  rw [hne]
  by_cases h0 : c = 0
  · subst h0
    have : told s 0 = [("0x0" : Str)] := by unfold told; rw [if_pos rfl]
    rw [this]
    have hj : Txt.join ", " [("0x0" : Str)] = "0x0" := by decide +kernel
    rw [hj]; rfl
  · rw [decide_eq_true h0]
    have ht : told s c = (bl 8 s c).map NM := by unfold told; rw [if_neg h0]
    have : (.list ((bl 8 s c).map strD) : D) = .list ((told s c).map D.str) := by rw [ht, List.map_map]; rfl
    rw [this]
    exact call_of (xs := [.str ", ", .list ((told s c).map D.str)]) rfl (dJoin_of (told_short hs) (Nat.le_trans (told_len s c) (by decide)))
end Mine

namespace Mine
open PySem PySem.Calls PyProof.Rows PyProof.V

theorem lookup_mem {i : Int} {x : Str} : ∀ (ps : List (Int × Str)), (ps.map (·.1)).Nodup → (i, x) ∈ ps → Spec.lookup (.int i) (encD (ps.map fun p => (p.1, PyData.str p.2))) = some (.str x)
  | [], _, h => by cases h
  | p :: ps, hn, h => by
    rw [List.map_cons, List.nodup_cons] at hn
    show (if Spec.same (.int p.1) (.int i) then some (PyData.str p.2) else Spec.lookup (.int i) (encD (ps.map fun p => (p.1, PyData.str p.2)))) = _
    rw [same_int]
    rcases List.mem_cons.mp h with rfl | h
    · simp
    · have hne : p.1 ≠ i := fun e => hn.1 (List.mem_map.mpr ⟨_, h, e.symm⟩)
      rw [decide_eq_false hne]
      exact lookup_mem ps hn.2 h
theorem lookup_low {i : Int} : ∀ (ps : List (Int × Str)), (∀ p ∈ ps, p.1 ≠ i) → Spec.lookup (.int i) (encD (ps.map fun p => (p.1, PyData.str p.2))) = none
  | [], _ => rfl
  | p :: ps, h => by
    show (if Spec.same (.int p.1) (.int i) then some (PyData.str p.2) else Spec.lookup (.int i) (encD (ps.map fun p => (p.1, PyData.str p.2)))) = _
    rw [same_int, decide_eq_false (h p List.mem_cons_self)]
    exact lookup_low ps fun q hq => h q (List.mem_cons_of_mem _ hq)
theorem b3_high : b3Ps.all (fun p => decide (181 ≤ p.1)) = true := by decide +kernel
theorem b3_none (c : Nat) (h : c < 181) : Spec.lookup (.int c) b3Tab = none := by
  rw [b3_tab]
  refine lookup_low _ fun p hp e => ?_
  have := of_decide_eq_true (List.all_eq_true.mp b3_high p hp)
  rw [e] at this; omega
theorem b3_some {c : Nat} {x : Str} (h : ((c : Int), x) ∈ b3Ps) : Spec.lookup (.int c) b3Tab = some (.str x) := by
  rw [b3_tab]; exact lookup_mem _ b3_nd h
noncomputable def seg (i b : Nat) : Bool := (b3Ps.drop i).take 26 == (List.range 26).map fun k => (((b + k : Nat) : Int), (⟨#[97 + k]⟩ : Str))
theorem seg_mem {i b k : Nat} (h : seg i b = true) (hk : k < 26) : (((b + k : Nat) : Int), (⟨#[97 + k]⟩ : Str)) ∈ b3Ps := by
  have e := eq_of_beq h
  have : (((b + k : Nat) : Int), (⟨#[97 + k]⟩ : Str)) ∈ (b3Ps.drop i).take 26 := by
    rw [e]; exact List.mem_map.mpr ⟨k, List.mem_range.mpr hk, rfl⟩
  exact List.mem_of_mem_drop (List.mem_of_mem_take this)
theorem seg_119808 : seg 202 119808 = true := by decide +kernel
theorem seg_119912 : seg 254 119912 = true := by decide +kernel
theorem seg_120016 : seg 298 120016 = true := by decide +kernel
theorem seg_120172 : seg 364 120172 = true := by decide +kernel
theorem seg_120224 : seg 390 120224 = true := by decide +kernel
theorem seg_120276 : seg 416 120276 = true := by decide +kernel
theorem seg_120328 : seg 442 120328 = true := by decide +kernel
theorem seg_120380 : seg 468 120380 = true := by decide +kernel
theorem seg_120432 : seg 494 120432 = true := by decide +kernel
theorem seg_st : (((64262 : Nat) : Int), S [115, 116]) ∈ b3Ps := by
  have h : b3Ps[196]? == some (((64262 : Nat) : Int), S [115, 116]) := by decide +kernel
  exact List.mem_of_getElem? (eq_of_beq h)
theorem seg_no : (((8470 : Nat) : Int), S [110, 111]) ∈ b3Ps := by
  have h : b3Ps[121]? == some (((8470 : Nat) : Int), S [110, 111]) := by decide +kernel
  exact List.mem_of_getElem? (eq_of_beq h)

/-! map_table_b3, in_table_b1 of one sign -/
theorem f4_found {c : Nat} {x : Str} (h : ((c : Int), x) ∈ b3Ps) : f4 [.str (S [c])] = some (.str x) := by
  have e1 : eCall (get1 b3Tab) (lCons (eCall dOrd (lCons (eVar 0) lNil)) lNil) [.str (S [c]), .undef] = some (.str x) := by
    refine call_of (xs := [.int c]) rfl ?_
    show strOr (Spec.lookup (.int c) b3Tab) (some .none) = _
    rw [b3_some h]
  show fnD 1 2 b4 [.str (S [c])] = some (.str x)
  refine fn_of_ret (n := 1) (m := 2) (body := b4) (xs := [.str (S [c])]) (ds1 := [.str (S [c]), .str x]) rfl ?_
  show b4 [.str (S [c]), .undef] = _
  refine (seq_of (asg_of e1)).trans ?_
  exact seq_ret ((if_t rfl).trans (seq_ret rfl))
theorem f4_low {c : Nat} (h : c < 128) : f4 [.str (S [c])] = some (.str (S [lw c])) := by
  have e1 : eCall (get1 b3Tab) (lCons (eCall dOrd (lCons (eVar 0) lNil)) lNil) [.str (S [c]), .undef] = some .none := by
    refine call_of (xs := [.int c]) rfl ?_
    show strOr (Spec.lookup (.int c) b3Tab) (some .none) = _
    rw [b3_none c (by omega)]
  show fnD 1 2 b4 [.str (S [c])] = some (.str (S [lw c]))
  refine fn_of_ret (n := 1) (m := 2) (body := b4) (xs := [.str (S [c])]) (ds1 := [.str (S [c]), .none]) rfl ?_
  show b4 [.str (S [c]), .undef] = _
  refine (seq_of (asg_of e1)).trans ?_
  refine (seq_of (if_skip rfl)).trans ?_
  refine seq_ret (ret_of (call_of (xs := [.str (S [c])]) rfl ?_))
  show (if (S [c]).length ≤ 65536 then some (D.str (Txt.lower (S [c]))) else none) = _
  rw [if_pos (show (S [c]).length ≤ 65536 from by rw [S_len, List.length_singleton]; decide), lower_S [c] (fun d hd => by rw [List.mem_singleton.mp hd]; exact h)]
  rfl
theorem f3_ok (c : Nat) : f3 [.str (S [c])] = some (.bool (b1S c)) := rfl
end Mine

namespace Mine
open PySem PySem.Calls PyProof.Rows PyProof.V

/-! the typed text -/
noncomputable def greats : List Nat := [119808, 119912, 120016, 120172, 120224, 120276, 120328, 120380, 120432]
noncomputable def baseOf (t : Nat) : Nat := if t % 4 = 0 then 97 else if t % 4 = 1 then 65 else if t % 4 = 2 then greats.getD (t / 4 % 9) 0 else greats.getD (t / 36) 0
noncomputable def isL (c : Nat) : Bool := (decide (65 ≤ c) && decide (c ≤ 90)) || c == 120
noncomputable def tc (t c : Nat) : Nat := if isL c then c % 32 - 1 + baseOf t else c
noncomputable def b1N : List Nat := b1List.map Int.toNat
noncomputable def us (t : Nat) : List Nat := if t % 12 = 5 then [b1N.getD (t / 12) 0] else []
noncomputable def TY : Nat → List Nat → List Nat
  | _, [] => []
  | t, c :: r => us ((t + 25) % 324) ++ tc ((t + 25) % 324) c :: TY ((t + 25) % 324) r
noncomputable abbrev unseenD : D := .list (b1List.map D.int)
noncomputable abbrev greatsD : D := .list (greats.map fun (g : Nat) => D.int g)
theorem b1_nat (j : Nat) (h : j < 27) : b1List[j]? = some ((b1N.getD j 0 : Nat) : Int) := by
  have H : (List.range 27).all (fun j => b1List[j]? == some ((b1N.getD j 0 : Nat) : Int)) = true := by decide +kernel
  exact eq_of_beq (List.all_eq_true.mp H j (List.mem_range.mpr h))
theorem b1_small (j : Nat) (h : j < 27) : b1N.getD j 0 ≤ 1114111 := by
  have H : (List.range 27).all (fun j => decide (b1N.getD j 0 ≤ 1114111)) = true := by decide +kernel
  exact of_decide_eq_true (List.all_eq_true.mp H j (List.mem_range.mpr h))
theorem base_cases (t : Nat) (h : t < 324) : baseOf t ∈ 97 :: 65 :: greats := by
  have H : (List.range 324).all (fun t => (97 :: 65 :: greats).contains (baseOf t)) = true := by decide +kernel
  exact List.contains_iff_mem.mp (List.all_eq_true.mp H t (List.mem_range.mpr h))
theorem base_small (t : Nat) (h : t < 324) : baseOf t ≤ 120432 := by
  have H : (97 :: 65 :: greats).all (fun b => decide (b ≤ 120432)) = true := by decide +kernel
  exact of_decide_eq_true (List.all_eq_true.mp H _ (base_cases t h))

noncomputable abbrev B8 : List D → Option (Fl × List D) := (sSeq (sAssign 2 (eBin dMod (eBin dAdd (eVar 2) (fun _ => some (.int 25))) (fun _ => some (.int 324)))) (sSeq (sIf (tOf (eBin dEq (eBin dMod (eVar 2) (fun _ => some (.int 12))) (fun _ => some (.int 5)))) (sSeq (sAug 3 dIAdd (eCall dChr (lCons (eBin dIdx (eVar 1) (eBin dFloorDiv (eVar 2) (fun _ => some (.int 12)))) lNil))) sNil) sNil) (sSeq (sIf (tOr (tChain dLe dLe (fun _ => some (.str "A")) (eVar 5) (fun _ => some (.str "Z"))) (tOf (eBin dEq (eVar 5) (fun _ => some (.str "x"))))) (sSeq (sAug 3 dIAdd (eCall dChr (lCons (eBin dAdd (eBin dSub (eBin dMod (eCall dOrd (lCons (eVar 5) lNil)) (fun _ => some (.int 32))) (fun _ => some (.int 1))) (eBin dIdx (eList (lCons (fun _ => some (.int 97)) (lCons (fun _ => some (.int 65)) (lCons (eBin dIdx (eVar 4) (eBin dMod (eBin dFloorDiv (eVar 2) (fun _ => some (.int 4))) (fun _ => some (.int 9)))) (lCons (eBin dIdx (eVar 4) (eBin dFloorDiv (eVar 2) (fun _ => some (.int 36)))) lNil))))) (eBin dMod (eVar 2) (fun _ => some (.int 4))))) lNil))) sNil) (sSeq (sAug 3 dIAdd (eVar 5)) sNil)) sNil)))
theorem iadd_str {a b : List Nat} (h : a.length + b.length ≤ 65536) : dIAdd (.str (S a)) (.str (S b)) = some (.str (S (a ++ b))) := by
  show (if (S a).length + (S b).length ≤ 65536 then some (D.str (S a ++ S b)) else none) = _
  rw [S_len, S_len, if_pos h]
  congr 2
  apply Str.ext'
  apply Array.toList_inj.mp
  simp [Str.cps_append]
theorem chr_of (i : Int) (n : Nat) (h : i = (n : Int)) (hn : n ≤ 1114111) : dChr [.int i] = some (.str (S [n])) := by
  subst h
  show (if 0 ≤ (n : Int) ∧ (n : Int) ≤ 1114111 then some (D.str ⟨#[(n : Int).toNat]⟩) else none) = _
  rw [if_pos (by constructor <;> omega), Int.toNat_natCast]
theorem idx_list {xs : List D} {j : Nat} {d : D} (h : xs[j]? = some d) (hj : j < 65536) : dIdx (.list xs) (.int (j : Int)) = some d := by
  show (if 0 ≤ (j : Int) ∧ (j : Int) < 65536 then xs[(j : Int).toNat]? else none) = _
  rw [if_pos (by constructor <;> omega), Int.toNat_natCast, h]
theorem mod_nat (a b : Nat) (hb : b ≠ 0) : dMod (.int (a : Int)) (.int (b : Int)) = some (.int ((a % b : Nat) : Int)) := by
  show (if (b : Int) ≠ 0 then some (D.int ((a : Int).fmod (b : Int))) else none) = _
  rw [if_pos (by omega), fmod_nat]
theorem div_nat (a b : Nat) (hb : b ≠ 0) (hb2 : b < 1073741824) : dFloorDiv (.int (a : Int)) (.int (b : Int)) = some (.int ((a / b : Nat) : Int)) := by
  show (if (b : Int) ≠ 0 ∧ (b : Int).natAbs < 1073741824 then some (D.int ((a : Int).fdiv (b : Int))) else none) = _
  rw [if_pos (by constructor <;> omega), fdiv_nat]
theorem isL_test {ds : List D} {c : Nat} (h : eVar 5 ds = some (.str (S [c]))) : tOr (tChain dLe dLe (fun _ => some (.str "A")) (eVar 5) (fun _ => some (.str "Z"))) (tOf (eBin dEq (eVar 5) (fun _ => some (.str "x")))) ds = some (isL c) := by
  have hA : (("A" : Str).cps.toList) = [65] := by decide +kernel
  have hZ : (("Z" : Str).cps.toList) = [90] := by decide +kernel
  have hx : ("x" : Str) = S [120] := by decide +kernel
  have h1 : dLe (.str "A") (.str (S [c])) = some (.bool (decide (65 ≤ c))) := by
    show some (D.bool (!decide ((S [c]).cps.toList < ("A" : Str).cps.toList))) = _
    rw [hA]
    congr 2
    show (!decide ([c] < [65])) = decide (65 ≤ c)
    rw [Bool.eq_iff_iff]
    simp [List.cons_lt_cons_iff]
  have h2 : dLe (.str (S [c])) (.str "Z") = some (.bool (decide (c ≤ 90))) := by
    show some (D.bool (!decide (("Z" : Str).cps.toList < (S [c]).cps.toList))) = _
    rw [hZ]
    congr 2
    show (!decide ([90] < [c])) = decide (c ≤ 90)
    rw [Bool.eq_iff_iff]
    simp [List.cons_lt_cons_iff]
  have h3 : tChain dLe dLe (fun _ => some (.str "A")) (eVar 5) (fun _ => some (.str "Z")) ds = some (decide (65 ≤ c) && decide (c ≤ 90)) := by
    unfold tChain
    rw [h]
    simp only [h1, h2, dTruth]
    cases decide (65 ≤ c) <;> rfl
  have h4 : tOf (eBin dEq (eVar 5) (fun _ => some (.str "x"))) ds = some (c == 120) := by
    refine tof_of (d := .bool (S [c] == ("x" : Str))) (bin_of h rfl rfl) ?_
    show some (S [c] == ("x" : Str)) = _
    rw [hx]
    congr 1
    rw [Bool.eq_iff_iff, beq_iff_eq, beq_iff_eq]
    exact ⟨fun e => by simpa using S_inj e, fun e => by rw [e]⟩
  unfold tOr
  rw [h3, h4]
  unfold isL
  cases (decide (65 ≤ c) && decide (c ≤ 90)) <;> rfl
end Mine

namespace Mine
open PySem PySem.Calls PyProof.Rows PyProof.V

theorem great_at (j : Nat) (h : j < 9) : (greats.map fun (g : Nat) => D.int g)[j]? = some (.int ((greats.getD j 0 : Nat) : Int)) := by
  match j, h with
  | 0, _ => rfl
  | 1, _ => rfl
  | 2, _ => rfl
  | 3, _ => rfl
  | 4, _ => rfl
  | 5, _ => rfl
  | 6, _ => rfl
  | 7, _ => rfl
  | 8, _ => rfl
theorem elist_of {g : List D → Option (List D)} {ds xs : List D} (h : g ds = some xs) (hl : xs.length ≤ 65536) : eList g ds = some (.list xs) := by
  unfold eList; rw [h]; dsimp only; rw [if_pos hl]
theorem base_of (w x : D) (t : Nat) (ht : t < 324) (c : Nat) : (eBin dIdx (eList (lCons (fun _ => some (.int 97)) (lCons (fun _ => some (.int 65)) (lCons (eBin dIdx (eVar 4) (eBin dMod (eBin dFloorDiv (eVar 2) (fun _ => some (.int 4))) (fun _ => some (.int 9)))) (lCons (eBin dIdx (eVar 4) (eBin dFloorDiv (eVar 2) (fun _ => some (.int 36)))) lNil))))) (eBin dMod (eVar 2) (fun _ => some (.int 4)))) [w, unseenD, .int (t : Int), x, greatsD, .str (S [c])] = some (.int (baseOf t : Nat)) := by
  have e1 : eBin dIdx (eVar 4) (eBin dMod (eBin dFloorDiv (eVar 2) (fun _ => some (.int 4))) (fun _ => some (.int 9))) [w, unseenD, .int (t : Int), x, greatsD, .str (S [c])] = some (.int ((greats.getD (t / 4 % 9) 0 : Nat) : Int)) :=
    bin_of rfl (bin_of (bin_of rfl rfl (div_nat t 4 (by decide) (by decide))) rfl (mod_nat (t / 4) 9 (by decide))) (idx_list (great_at _ (Nat.mod_lt _ (by decide))) (Nat.lt_trans (Nat.mod_lt _ (by decide)) (by decide)))
  have e2 : eBin dIdx (eVar 4) (eBin dFloorDiv (eVar 2) (fun _ => some (.int 36))) [w, unseenD, .int (t : Int), x, greatsD, .str (S [c])] = some (.int ((greats.getD (t / 36) 0 : Nat) : Int)) :=
    bin_of rfl (bin_of rfl rfl (div_nat t 36 (by decide) (by decide))) (idx_list (great_at _ (by omega)) (by omega))
  have e3 := elist_of (lcons_of (f := fun _ => some (.int 97)) (x := .int 97) rfl (lcons_of (f := fun _ => some (.int 65)) (x := .int 65) rfl (lcons_of e1 (lcons_of e2 (show lNil _ = some [] from rfl))))) (show 4 ≤ 65536 by decide)
  refine bin_of e3 (bin_of rfl rfl (mod_nat t 4 (by decide))) (idx_list ?_ (by omega))
  unfold baseOf
  have h4 : t % 4 < 4 := Nat.mod_lt _ (by decide)
  generalize t % 4 = r at h4
  match r, h4 with
  | 0, _ => rfl
  | 1, _ => rfl
  | 2, _ => rfl
  | 3, _ => rfl
theorem ord_of {f : List D → Option D} {ds : List D} {c : Nat} (h : f ds = some (.str (S [c]))) : eCall dOrd (lCons f lNil) ds = some (.int (c : Int)) := call_of (lcons_of h rfl) rfl
theorem b8_step (w : D) (t : Nat) (X : List Nat) (c : Nat) (hX : X.length ≤ 60000) (hc : c ≤ 1114111) (hc1 : isL c = true → 1 ≤ c % 32) :
    B8 [w, unseenD, .int (t : Int), .str (S X), greatsD, .str (S [c])] = some (.next, [w, unseenD, .int (((t + 25) % 324 : Nat) : Int), .str (S (X ++ (us ((t + 25) % 324) ++ [tc ((t + 25) % 324) c]))), greatsD, .str (S [c])]) := by
  have e0 : (eBin dMod (eBin dAdd (eVar 2) (fun _ => some (.int 25))) (fun _ => some (.int 324))) [w, unseenD, .int (t : Int), .str (S X), greatsD, .str (S [c])] = some (.int (((t + 25) % 324 : Nat) : Int)) :=
    bin_of (x := .int ((t + 25 : Nat) : Int)) (bin_of rfl rfl rfl) rfl (mod_nat (t + 25) 324 (by decide))
  refine (seq_of (asg_of e0)).trans ?_
  show sSeq _ _ [w, unseenD, .int (((t + 25) % 324 : Nat) : Int), .str (S X), greatsD, .str (S [c])] = _
  have ht : (t + 25) % 324 < 324 := Nat.mod_lt _ (by decide)
  generalize (t + 25) % 324 = t at ht
  -- the unseen sign
  have e1 : (sIf (tOf (eBin dEq (eBin dMod (eVar 2) (fun _ => some (.int 12))) (fun _ => some (.int 5)))) (sSeq (sAug 3 dIAdd (eCall dChr (lCons (eBin dIdx (eVar 1) (eBin dFloorDiv (eVar 2) (fun _ => some (.int 12)))) lNil))) sNil) sNil) [w, unseenD, .int (t : Int), .str (S X), greatsD, .str (S [c])] =
      some (.next, [w, unseenD, .int (t : Int), .str (S (X ++ us t)), greatsD, .str (S [c])]) := by
    have e2 : tOf (eBin dEq (eBin dMod (eVar 2) (fun _ => some (.int 12))) (fun _ => some (.int 5))) [w, unseenD, .int (t : Int), .str (S X), greatsD, .str (S [c])] = some (decide (t % 12 = 5)) := by
      refine tof_of (d := .bool (((t % 12 : Nat) : Int) == 5)) (bin_of (bin_of rfl rfl (mod_nat t 12 (by decide))) rfl rfl) ?_
      show some (((t % 12 : Nat) : Int) == 5) = _
      congr 1
      rw [Bool.eq_iff_iff, beq_iff_eq, decide_eq_true_eq]; omega
    unfold us
    by_cases h5 : t % 12 = 5
    · rw [if_pos h5]
      have hj : t / 12 < 27 := by omega
      have e3 : eCall dChr (lCons (eBin dIdx (eVar 1) (eBin dFloorDiv (eVar 2) (fun _ => some (.int 12)))) lNil) [w, unseenD, .int (t : Int), .str (S X), greatsD, .str (S [c])] = some (.str (S [b1N.getD (t / 12) 0])) := by
        refine call_of (lcons_of (x := .int ((b1N.getD (t / 12) 0 : Nat) : Int)) (bin_of rfl (bin_of rfl rfl (div_nat t 12 (by decide) (by decide))) (idx_list ?_ (by omega))) rfl) (chr_of _ _ rfl (b1_small _ hj))
        rw [List.getElem?_map, b1_nat _ hj]; rfl
      refine (if_t (e2.trans (by rw [decide_eq_true h5]))).trans ?_
      exact (seq_of (aug_of (bin_of (x := .str (S X)) rfl e3 (iadd_str (by rw [List.length_singleton]; omega))))).trans rfl
    · rw [if_neg h5, List.append_nil]
      exact if_skip (e2.trans (by rw [decide_eq_false h5]))
  refine (seq_of e1).trans ?_
  have hu : (us t).length ≤ 1 := by unfold us; split <;> simp
  have e4 := isL_test (ds := [w, unseenD, .int (t : Int), .str (S (X ++ us t)), greatsD, .str (S [c])]) (c := c) rfl
  have hlen : (X ++ us t).length + [tc t c].length ≤ 65536 := by rw [List.length_append, List.length_singleton]; omega
  rw [← List.append_assoc]
  cases hl : isL c with
  | true =>
    have htc : tc t c = c % 32 - 1 + baseOf t := by unfold tc; rw [hl]; rfl
    have h1 := hc1 hl
    have hb := base_small t ht
    have e5 : eCall dChr (lCons (eBin dAdd (eBin dSub (eBin dMod (eCall dOrd (lCons (eVar 5) lNil)) (fun _ => some (.int 32))) (fun _ => some (.int 1))) (eBin dIdx (eList (lCons (fun _ => some (.int 97)) (lCons (fun _ => some (.int 65)) (lCons (eBin dIdx (eVar 4) (eBin dMod (eBin dFloorDiv (eVar 2) (fun _ => some (.int 4))) (fun _ => some (.int 9)))) (lCons (eBin dIdx (eVar 4) (eBin dFloorDiv (eVar 2) (fun _ => some (.int 36)))) lNil))))) (eBin dMod (eVar 2) (fun _ => some (.int 4))))) lNil) [w, unseenD, .int (t : Int), .str (S (X ++ us t)), greatsD, .str (S [c])] = some (.str (S [tc t c])) := by
      refine call_of (lcons_of (bin_of (bin_of (bin_of (ord_of rfl) rfl (mod_nat c 32 (by decide))) rfl rfl) (base_of w (.str (S (X ++ us t))) t ht c) rfl) rfl) (chr_of _ (tc t c) ?_ ?_)
      · rw [htc]; omega
      · rw [htc]; have : c % 32 < 32 := Nat.mod_lt _ (by decide); omega
    refine (seq_of (ds1 := [w, unseenD, .int (t : Int), .str (S (X ++ us t ++ [tc t c])), greatsD, .str (S [c])]) ((if_t (e4.trans (by rw [hl]))).trans ?_)).trans rfl
    exact (seq_of (aug_of (bin_of (x := .str (S (X ++ us t))) rfl e5 (iadd_str hlen)))).trans rfl
  | false =>
    have htc : tc t c = c := by unfold tc; rw [hl]; rfl
    rw [htc] at hlen ⊢
    refine (seq_of (ds1 := [w, unseenD, .int (t : Int), .str (S (X ++ us t ++ [c])), greatsD, .str (S [c])]) ((if_f (e4.trans (by rw [hl]))).trans ?_)).trans rfl
    exact (seq_of (aug_of (bin_of (x := .str (S (X ++ us t))) (y := .str (S [c])) rfl rfl (iadd_str hlen)))).trans rfl
end Mine

namespace Mine
open PySem PySem.Calls PyProof.Rows PyProof.V

noncomputable def okC (c : Nat) : Prop := c ≤ 1114111 ∧ (isL c = true → 1 ≤ c % 32)
theorem loop8 (w : D) : ∀ (signs : List Nat) (t : Nat) (X : List Nat) (l : D), X.length + 2 * signs.length ≤ 60000 → (∀ c ∈ signs, okC c) → ∃ t' l',
    forD (setK 5) B8 (signs.map fun (c : Nat) => D.str (S [c])) [w, unseenD, .int (t : Int), .str (S X), greatsD, l] = some (.next, [w, unseenD, .int (t' : Int), .str (S (X ++ TY t signs)), greatsD, l'])
  | [], t, X, l, _, _ => ⟨(t : Int), l, by simp [forD, TY]⟩
  | c :: signs, t, X, l, hX, hc => by
    have h1 := hc c List.mem_cons_self
    rw [List.length_cons] at hX
    have hu : (us ((t + 25) % 324)).length ≤ 1 := by unfold us; split <;> simp
    obtain ⟨t', l', ih⟩ := loop8 w signs ((t + 25) % 324) (X ++ (us ((t + 25) % 324) ++ [tc ((t + 25) % 324) c])) (.str (S [c])) (by simp; omega) (fun d hd => hc d (List.mem_cons_of_mem _ hd))
    refine ⟨t', l', ?_⟩
    rw [List.map_cons, for_loop]
    show (match B8 [w, unseenD, .int (t : Int), .str (S X), greatsD, .str (S [c])] with
      | some (.next, ds2) => forD (setK 5) B8 (signs.map fun (c : Nat) => D.str (S [c])) ds2
      | r => r) = _
    rw [b8_step w t X c (by omega) h1.1 h1.2]
    dsimp only
    rw [ih]
    simp [TY]
noncomputable def rp (W : List Nat) : List Nat := replL 78 79 [8470] (replL 83 84 [64262] W)
theorem rp_eq (W : List Nat) (ds : List D) (h : eVar 0 ds = some (.str (S W))) (hl : W.length ≤ 30000) (hl2 : (replL 83 84 [64262] W).length ≤ 30000) : eReplace "NO" 8470 (eReplace "ST" 64262 (eVar 0)) ds = some (.str (S (rp W))) := by
  have hST : ("ST" : Str) = S [83, 84] := by decide +kernel
  have hNO : ("NO" : Str) = S [78, 79] := by decide +kernel
  have e1 : eReplace "ST" 64262 (eVar 0) ds = some (.str (S (replL 83 84 [64262] W))) := by
    unfold eReplace
    rw [h]; dsimp only
    rw [if_pos ⟨by decide, by decide, by rw [S_len]; omega⟩, hST]
    have := replace_S W 83 84 [64262]
    exact congrArg (fun z => some (D.str z)) this
  unfold eReplace at e1 ⊢
  rw [e1]; dsimp only
  rw [if_pos ⟨by decide, by decide, by rw [S_len]; omega⟩, hNO]
  exact congrArg (fun z => some (D.str z)) (replace_S (replL 83 84 [64262] W) 78 79 [8470])
theorem f8_ok (W : List Nat) (t : Nat) (hl : W.length ≤ 30000) (hl2 : (replL 83 84 [64262] W).length ≤ 30000) (hl3 : (rp W).length ≤ 30000) (hc : ∀ c ∈ rp W, okC c) :
    f8 [.str (S W), unseenD, .int (t : Int)] = some (.str (S (TY t (rp W)))) := by
  obtain ⟨t', l', hL⟩ := loop8 (.str (S W)) (rp W) t [] .undef (by simp; omega) hc
  have hE : ("" : Str) = S [] := by decide +kernel
  show fnD 3 6 b8 [.str (S W), unseenD, .int (t : Int)] = some (.str (S (TY t (rp W))))
  refine fn_of_ret (n := 3) (m := 6) (body := b8) (xs := [.str (S W), unseenD, .int (t : Int)]) (ds1 := [.str (S W), unseenD, .int (t' : Int), .str (S (TY t (rp W))), greatsD, l']) rfl ?_
  show b8 [.str (S W), unseenD, .int (t : Int), .undef, .undef, .undef] = _
  refine (seq_of (asg_of (d := .str "") rfl)).trans ?_
  rw [hE]
  refine (seq_of (asg_of (d := greatsD) rfl)).trans ?_
  show sSeq (sFor (setK 5) (eReplace "NO" 8470 (eReplace "ST" 64262 (eVar 0))) B8 sNil) _ [.str (S W), unseenD, .int (t : Int), .str (S []), greatsD, .undef] = _
  refine (seq_of (ds1 := [.str (S W), unseenD, .int (t' : Int), .str (S (TY t (rp W))), greatsD, l']) ?_).trans ?_
  · rw [sFor_of (rp_eq W _ rfl hl hl2) (xs := (rp W).map fun (c : Nat) => D.str (S [c])) (by rfl), hL]
    rfl
  · exact seq_ret rfl

/-! what the signs fold to -/
noncomputable def FD (z : Nat) : List Nat := if isL z then [97 + (z % 32 - 1)] else if z = 64262 then [115, 116] else if z = 8470 then [110, 111] else [z]
noncomputable def OTH : List Nat := [44, 32, 95, 48, 49, 50, 51, 52, 53, 54, 55, 56, 57, 64262, 8470]
noncomputable def okSign (z : Nat) : Bool := isL z || OTH.contains z
theorem okSign_C {z : Nat} (h : okSign z = true) : okC z := by
  unfold okSign at h
  rcases Bool.or_eq_true_iff.mp h with h | h
  · unfold isL at h
    simp only [Bool.or_eq_true, Bool.and_eq_true, decide_eq_true_eq, beq_iff_eq] at h
    exact ⟨by omega, fun _ => by omega⟩
  · have H : OTH.all (fun z => decide (z ≤ 1114111) && !isL z) = true := by decide +kernel
    have := List.all_eq_true.mp H z (List.contains_iff_mem.mp h)
    simp only [Bool.and_eq_true, decide_eq_true_eq, Bool.not_eq_true'] at this
    exact ⟨this.1, fun e => by rw [this.2] at e; cases e⟩
theorem base_b1 (b k : Nat) (hb : b ∈ 97 :: 65 :: greats) (hk : k < 26) : b1S ((k + b : Nat) : Int) = false := by
  have H : (97 :: 65 :: greats).all (fun b => (List.range 26).all fun k => !b1S ((k + b : Nat) : Int)) = true := by decide +kernel
  have := List.all_eq_true.mp (List.all_eq_true.mp H b hb) k (List.mem_range.mpr hk)
  simpa using this
theorem base_f4 (b k : Nat) (hb : b ∈ 97 :: 65 :: greats) (hk : k < 26) : f4 [.str (S [k + b])] = some (.str (S [97 + k])) := by
  have hg : ∀ {i g : Nat}, seg i g = true → f4 [.str (S [k + g])] = some (.str (S [97 + k])) := fun {i g} hs => by
    rw [Nat.add_comm k g]
    exact f4_found (seg_mem hs hk)
  simp only [greats, List.mem_cons, List.not_mem_nil, or_false] at hb
  rcases hb with rfl | rfl | rfl | rfl | rfl | rfl | rfl | rfl | rfl | rfl | rfl
  · rw [f4_low (by omega), show lw (k + 97) = 97 + k by unfold lw; rw [if_neg (by omega)]; omega]
  · rw [f4_low (by omega), show lw (k + 65) = 97 + k by unfold lw; rw [if_pos (by omega)]; omega]
  · exact hg seg_119808
  · exact hg seg_119912
  · exact hg seg_120016
  · exact hg seg_120172
  · exact hg seg_120224
  · exact hg seg_120276
  · exact hg seg_120328
  · exact hg seg_120380
  · exact hg seg_120432
theorem typed_ok (t z : Nat) (ht : t < 324) (h : okSign z = true) : b1S ((tc t z : Nat) : Int) = false ∧ f4 [.str (S [tc t z])] = some (.str (S (FD z))) := by
  cases hl : isL z with
  | true =>
    have hk : z % 32 - 1 < 26 := by
      unfold isL at hl
      simp only [Bool.or_eq_true, Bool.and_eq_true, decide_eq_true_eq, beq_iff_eq] at hl
      omega
    have e : tc t z = z % 32 - 1 + baseOf t := by unfold tc; rw [hl]; rfl
    have e2 : FD z = [97 + (z % 32 - 1)] := by unfold FD; rw [hl]; rfl
    rw [e, e2]
    exact ⟨base_b1 _ _ (base_cases t ht) hk, base_f4 _ _ (base_cases t ht) hk⟩
  | false =>
    have e : tc t z = z := by unfold tc; rw [hl]; rfl
    rw [e]
    unfold okSign at h
    rw [hl, Bool.false_or] at h
    have hm := List.contains_iff_mem.mp h
    refine ⟨?_, ?_⟩
    · have H : OTH.all (fun z => !b1S (z : Int)) = true := by decide +kernel
      simpa using List.all_eq_true.mp H z hm
    · simp only [OTH, List.mem_cons, List.not_mem_nil, or_false] at hm
      rcases hm with rfl | rfl | rfl | rfl | rfl | rfl | rfl | rfl | rfl | rfl | rfl | rfl | rfl | rfl | rfl
      all_goals first | exact f4_low (by decide) | exact f4_found seg_st | exact f4_found seg_no
theorem us_b1 (t : Nat) (ht : t < 324) : ∀ u ∈ us t, b1S (u : Int) = true := by
  intro u hu
  unfold us at hu
  split at hu
  · rw [List.mem_singleton] at hu
    subst hu
    have H : (List.range 27).all (fun j => b1S ((b1N.getD j 0 : Nat) : Int)) = true := by decide +kernel
    exact List.all_eq_true.mp H (t / 12) (List.mem_range.mpr (by omega))
  · cases hu
end Mine

namespace Mine
open PySem PySem.Calls PyProof.Rows PyProof.V

noncomputable def goodB (n : List Nat) : Bool := n.all (fun c => decide (c < 128) && c != 44) && (rp n).all okSign && ((rp n).flatMap FD == n.map lw) && decide (n.length ≤ 20) && decide ((replL 83 84 [64262] n).length ≤ 20) && decide ((rp n).length ≤ 20)
structure GoodN (n : List Nat) : Prop where
  ascii : ∀ c ∈ n, c < 128
  comma : 44 ∉ n
  signs : ∀ z ∈ rp n, okSign z = true
  fold : (rp n).flatMap FD = n.map lw
  l1 : n.length ≤ 20
  l2 : (replL 83 84 [64262] n).length ≤ 20
  l3 : (rp n).length ≤ 20
theorem good_of {n : List Nat} (h : goodB n = true) : GoodN n := by
  unfold goodB at h
  simp only [Bool.and_eq_true, List.all_eq_true, decide_eq_true_eq, bne_iff_ne, beq_iff_eq] at h
  obtain ⟨⟨⟨⟨⟨h1, h2⟩, h3⟩, h4⟩, h5⟩, h6⟩ := h
  exact ⟨fun c hc => (h1 c hc).1, fun hc => (h1 44 hc).2 rfl, h2, h3, h4, h5, h6⟩
noncomputable def nm (p : Nat) : List Nat := (NM p).cps.toList
theorem good_nm (p : Nat) (h : p < 33) : GoodN (nm p) := by
  have H : (List.range 33).all (fun p => goodB (nm p)) = true := by decide +kernel
  exact good_of (List.all_eq_true.mp H p (List.mem_range.mpr h))
noncomputable def z0 : List Nat := [48, 120, 48]
theorem good_z0 : GoodN z0 := good_of (by decide +kernel)
/-- the names as lists of signs -/
noncomputable def nsOf (s c : Nat) : List (List Nat) := if c = 0 then [z0] else (bl 8 s c).map nm
theorem told_ns (s c : Nat) : told s c = (nsOf s c).map S := by
  unfold told nsOf
  split
  · have : ("0x0" : Str) = S z0 := by decide +kernel
    rw [this]; rfl
  · rw [List.map_map]; rfl
theorem ns_good (s c : Nat) (hs : s < 26) : ∀ n ∈ nsOf s c, GoodN n := by
  intro n hn
  unfold nsOf at hn
  split at hn
  · rw [List.mem_singleton.mp hn]; exact good_z0
  · obtain ⟨p, hp, rfl⟩ := List.mem_map.mp hn
    have := (bl_mem 8 s c p).mp hp
    exact good_nm p (by omega)
theorem ns_ne (s c : Nat) (hc : c < 256) : nsOf s c ≠ [] := by
  unfold nsOf
  split
  · simp
  · rename_i h
    intro e
    exact h ((bl_nil s c hc).mp (List.map_eq_nil_iff.mp e))
theorem ns_len (s c : Nat) : (nsOf s c).length ≤ 9 := by
  unfold nsOf
  split
  · simp
  · rw [List.length_map]; have := bl_len 8 s c; omega
noncomputable def Wof (s c : Nat) : List Nat := joinL [44, 32] (nsOf s c)
theorem words_eq (s c : Nat) : Txt.join ", " (told s c) = S (Wof s c) := by
  have : (", " : Str) = S [44, 32] := by decide +kernel
  rw [this, told_ns, join_S]; rfl
theorem joinL_len {ns : List (List Nat)} {k m : Nat} (h : ∀ n ∈ ns, n.length ≤ k) (hl : ns.length ≤ m) : (joinL [44, 32] ns).length ≤ m * (k + 2) := by
  cases ns with
  | nil => simp [joinL]
  | cons p ps =>
    have : ∀ (ps : List (List Nat)), (∀ n ∈ ps, n.length ≤ k) → (ps.flatMap fun q => [44, 32] ++ q).length ≤ ps.length * (k + 2) := by
      intro ps
      induction ps with
      | nil => intro _; simp
      | cons q ps ih =>
        intro h
        have a := h q List.mem_cons_self
        have b := ih fun n hn => h n (List.mem_cons_of_mem _ hn)
        rw [List.flatMap_cons, List.length_append, List.length_cons, Nat.add_mul, Nat.one_mul]
        simp at a b ⊢
        omega
    have a := h p List.mem_cons_self
    have b := this ps fun n hn => h n (List.mem_cons_of_mem _ hn)
    have : (joinL [44, 32] (p :: ps)).length ≤ (p :: ps).length * (k + 2) := by
      show (p ++ ps.flatMap fun q => [44, 32] ++ q).length ≤ _
      rw [List.length_append, List.length_cons, Nat.add_mul, Nat.one_mul]
      omega
    exact Nat.le_trans this (Nat.mul_le_mul_right _ hl)
theorem joinL_mem {ns : List (List Nat)} {z : Nat} (h : z ∈ joinL [44, 32] ns) : z = 44 ∨ z = 32 ∨ ∃ n ∈ ns, z ∈ n := by
  cases ns with
  | nil => cases h
  | cons p ps =>
    have h' : z ∈ p ++ ps.flatMap fun q => [44, 32] ++ q := h
    rcases List.mem_append.mp h' with h | h
    · exact .inr (.inr ⟨p, List.mem_cons_self, h⟩)
    · obtain ⟨q, hq, h⟩ := List.mem_flatMap.mp h
      rcases List.mem_append.mp h with h | h
      · simp at h; exact h.elim .inl (fun h => .inr (.inl h))
      · exact .inr (.inr ⟨q, List.mem_cons_of_mem _ hq, h⟩)
theorem joinL_map (f : Nat → Nat) (h1 : f 44 = 44) (h2 : f 32 = 32) (ns : List (List Nat)) : (joinL [44, 32] ns).map f = joinL [44, 32] (ns.map (List.map f)) := by
  cases ns with
  | nil => rfl
  | cons p ps =>
    show (p ++ ps.flatMap fun q => [44, 32] ++ q).map f = p.map f ++ (ps.map (List.map f)).flatMap fun q => [44, 32] ++ q
    rw [List.map_append]
    congr 1
    induction ps with
    | nil => rfl
    | cons q ps ih =>
      rw [List.flatMap_cons, List.map_append, ih, List.map_cons, List.flatMap_cons]
      simp [h1, h2]
theorem joinL_flat (f : Nat → List Nat) (h1 : f 44 = [44]) (h2 : f 32 = [32]) (ns : List (List Nat)) : (joinL [44, 32] ns).flatMap f = joinL [44, 32] (ns.map fun n => n.flatMap f) := by
  cases ns with
  | nil => rfl
  | cons p ps =>
    show (p ++ ps.flatMap fun q => [44, 32] ++ q).flatMap f = p.flatMap f ++ (ps.map fun n => n.flatMap f).flatMap fun q => [44, 32] ++ q
    rw [List.flatMap_append]
    congr 1
    induction ps with
    | nil => rfl
    | cons q ps ih =>
      rw [List.flatMap_cons, List.flatMap_append, ih, List.map_cons, List.flatMap_cons]
      simp [h1, h2]
section
variable {s c : Nat} (hs : s < 26) (hc : c < 256)
include hs hc
theorem rp_W : rp (Wof s c) = joinL [44, 32] ((nsOf s c).map rp) := by
  unfold Wof rp
  have hne := ns_ne s c hc
  cases e : nsOf s c with
  | nil => exact absurd e hne
  | cons n ns =>
    rw [repl_join (by decide) (by decide) (by decide), List.map_cons, repl_join (by decide) (by decide) (by decide)]
    rw [← List.map_cons, List.map_map]; rfl
theorem W_len : (Wof s c).length ≤ 300 := Nat.le_trans (joinL_len (k := 20) (m := 9) (fun n hn => (ns_good s c hs n hn).l1) (ns_len s c)) (by decide)
theorem rp_len : (rp (Wof s c)).length ≤ 300 := by
  rw [rp_W hs hc]
  refine Nat.le_trans (joinL_len (k := 20) (m := 9) (fun n hn => ?_) (by rw [List.length_map]; exact ns_len s c)) (by decide)
  obtain ⟨n', hn', rfl⟩ := List.mem_map.mp hn
  exact (ns_good s c hs n' hn').l3
theorem rp1_len : (replL 83 84 [64262] (Wof s c)).length ≤ 300 := by
  have : replL 83 84 [64262] (Wof s c) = joinL [44, 32] ((nsOf s c).map (replL 83 84 [64262])) := by
    unfold Wof
    have hne := ns_ne s c hc
    cases e : nsOf s c with
    | nil => exact absurd e hne
    | cons n ns => exact repl_join (by decide) (by decide) (by decide) n ns
  rw [this]
  refine Nat.le_trans (joinL_len (k := 20) (m := 9) (fun n hn => ?_) (by rw [List.length_map]; exact ns_len s c)) (by decide)
  obtain ⟨n', hn', rfl⟩ := List.mem_map.mp hn
  exact (ns_good s c hs n' hn').l2
theorem rp_signs : ∀ z ∈ rp (Wof s c), okSign z = true := by
  intro z hz
  rw [rp_W hs hc] at hz
  rcases joinL_mem hz with rfl | rfl | ⟨n, hn, hz⟩
  · decide +kernel
  · decide +kernel
  · obtain ⟨n', hn', rfl⟩ := List.mem_map.mp hn
    exact (ns_good s c hs n' hn').signs z hz
theorem rp_fold : (rp (Wof s c)).flatMap FD = (Wof s c).map lw := by
  rw [rp_W hs hc, joinL_flat FD (by decide) (by decide)]
  unfold Wof
  rw [joinL_map lw (by decide) (by decide), List.map_map]
  congr 1
  apply List.map_congr_left
  intro n hn
  exact (ns_good s c hs n hn).fold
theorem W_lower : Txt.lower (S (Wof s c)) = S ((Wof s c).map lw) := by
  refine lower_S _ fun z hz => ?_
  rcases joinL_mem hz with rfl | rfl | ⟨n, hn, hz⟩
  · decide
  · decide
  · exact (ns_good s c hs n hn).ascii z hz
theorem lw_44 {z : Nat} (h : lw z = 44) : z = 44 := by
  unfold lw at h
  split at h <;> omega
theorem W_split : Txt.split (S ((Wof s c).map lw)) ", " = ((nsOf s c).map (List.map lw)).map S := by
  have : (", " : Str) = S [44, 32] := by decide +kernel
  rw [this, split_S]
  unfold Wof
  rw [joinL_map lw (by decide) (by decide)]
  have hne := ns_ne s c hc
  cases e : nsOf s c with
  | nil => exact absurd e hne
  | cons n ns =>
    rw [List.map_cons, spl_join]
    intro m hm hm2
    rw [← List.map_cons, ← e] at hm
    obtain ⟨n', hn', rfl⟩ := List.mem_map.mp hm
    obtain ⟨z, hz, hz2⟩ := List.mem_map.mp hm2
    have hz3 := lw_44 hs hc hz2
    rw [hz3] at hz
    exact (ns_good s c hs n' hn').comma hz
theorem W_split_count : Txt.split (S (Wof s c)) ", " = (nsOf s c).map S := by
  have : (", " : Str) = S [44, 32] := by decide +kernel
  rw [this, split_S]
  unfold Wof
  have hne := ns_ne s c hc
  cases e : nsOf s c with
  | nil => exact absurd e hne
  | cons n ns =>
    rw [spl_join]
    intro m hm
    rw [← e] at hm
    exact (ns_good s c hs m hm).comma
end
end Mine

namespace Mine
open PySem PySem.Calls PyProof.Rows PyProof.V

noncomputable abbrev BK : List D → Option (Fl × List D) := (sSeq (sAssign 11 (eCall f3 (lCons (eVar 10) lNil))) (sSeq (sIf (tOf (eBin dIsNot (eVar 11) (eBin dIn (eCall dOrd (lCons (eVar 10) lNil)) (eVar 4)))) (sSeq (sRet (fun _ => some (.bool false))) sNil) sNil) (sSeq (sIf (tNot (tOf (eVar 11))) (sSeq (sAug 9 dIAdd (eCall f4 (lCons (eVar 10) lNil))) sNil) sNil) sNil)))
noncomputable abbrev BC : List D → Option (Fl × List D) := (sSeq (sAssign 8 (eCall f2 (lCons (eBin dLShift (eVar 7) (eVar 2)) lNil))) (sSeq (sIf (tOf (eBin dNe (eVar 8) (eCall f7 (lCons (eVar 3) (lCons (eVar 7) lNil))))) (sSeq (sRet (fun _ => some (.bool false))) sNil) sNil) (sSeq (sAssign 9 (fun _ => some (.str ""))) (sSeq (sFor (setK 10) (eCall f8 (lCons (eVar 8) (lCons (eVar 4) (lCons (eBin dMod (eBin dIdx (eVar 1) (fun _ => some (.int 1))) (fun _ => some (.int 324))) lNil)))) BK sNil) (sSeq (sIf (tOf (eBin dNe (eVar 9) (eCall dLower (lCons (eVar 8) lNil)))) (sSeq (sRet (fun _ => some (.bool false))) sNil) sNil) (sSeq (sAssign 12 (eCall dSplit (lCons (eVar 9) (lCons (fun _ => some (.str ", ")) lNil)))) (sSeq (sAppend 6 (eComp [3, 12] (eCall dRange (lCons (fun _ => some (.int 8)) lNil)) (tOf (eBin dIn (eCall dLower (lCons (eBin dIdx (eVar 1) (eVar 0)) lNil)) (eVar 2))) (eVar 0))) sNil)))))))
noncomputable abbrev BG : List D → Option (Fl × List D) := (sSeq (sAssign 16 (eCall f1 (lCons (eBin dDiv (eVar 14) (fun _ => some (.int 32))) (lCons (fun _ => some (.flt 0)) (lCons (eBin dDiv (eVar 15) (fun _ => some (.int 4))) lNil))))) (sSeq (sIf (tOf (eBin dNe (eVar 16) (eTup (lCons (eBin dDiv (eVar 15) (fun _ => some (.int 4))) (lCons (eBin dDiv (eVar 15) (fun _ => some (.int 4))) (lCons (eBin dDiv (eVar 15) (fun _ => some (.int 4))) lNil)))))) (sSeq (sRet (fun _ => some (.bool false))) sNil) sNil) (sSeq (sIf (tOf (eBin dNe (eCall f0 (lCons (eBin dIdx (eVar 16) (fun _ => some (.int 0))) (lCons (eBin dIdx (eVar 16) (fun _ => some (.int 1))) (lCons (eBin dIdx (eVar 16) (fun _ => some (.int 2))) lNil)))) (eTup (lCons (fun _ => some (.flt 0)) (lCons (eBin dDiv (eVar 15) (fun _ => some (.int 4))) (lCons (fun _ => some (.flt 0)) lNil)))))) (sSeq (sRet (fun _ => some (.bool false))) sNil) sNil) sNil)))
noncomputable abbrev BL : List D → Option (Fl × List D) := (sSeq (sAssign 23 (eBin dMod (eBin dFloorDiv (eBin dIdx (eVar 1) (fun _ => some (.int 2))) (eBin dPow (fun _ => some (.int 16)) (eVar 22))) (fun _ => some (.int 16)))) (sSeq (sAssign 24 (eBin dAdd (eBin dMul (eBin dMod (eBin dAdd (eVar 22) (eVar 17)) (fun _ => some (.int 8))) (fun _ => some (.int 4))) (eVar 14))) (sSeq (sAssign 25 (eBin dAdd (eBin dAdd (eBin dDiv (eBin dAdd (eVar 22) (eVar 17)) (fun _ => some (.int 8))) (eBin dDiv (eVar 14) (fun _ => some (.int 32)))) (eBin dMod (eBin dFloorDiv (eBin dIdx (eVar 1) (fun _ => some (.int 1))) (fun _ => some (.int 324))) (fun _ => some (.int 3))))) (sSeq (sAssign 26 (eCall f1 (lCons (eVar 25) (lCons (eBin dDiv (eBin dAdd (fun _ => some (.int 1)) (eBin dFloorDiv (eVar 23) (fun _ => some (.int 4)))) (fun _ => some (.int 4))) (lCons (eBin dDiv (eBin dAdd (fun _ => some (.int 1)) (eBin dMod (eVar 23) (fun _ => some (.int 4)))) (fun _ => some (.int 4))) lNil))))) (sSeq (sIf (tOf (eBin dNe (eCall dList (lCons (eVar 26) lNil)) (eCall f9 (lCons (eVar 24) (lCons (eBin dAdd (fun _ => some (.int 1)) (eBin dMod (eVar 23) (fun _ => some (.int 4)))) (lCons (eBin dAdd (fun _ => some (.int 1)) (eBin dFloorDiv (eVar 23) (fun _ => some (.int 4)))) lNil)))))) (sSeq (sRet (fun _ => some (.bool false))) sNil) sNil) (sSeq (sAssign 27 (eCall f0 (lCons (eBin dIdx (eVar 26) (fun _ => some (.int 0))) (lCons (eBin dIdx (eVar 26) (fun _ => some (.int 1))) (lCons (eBin dIdx (eVar 26) (fun _ => some (.int 2))) lNil))))) (sSeq (sIf (tOf (eBin dNe (eVar 27) (eCall f10 (lCons (eVar 24) (lCons (eBin dAdd (fun _ => some (.int 1)) (eBin dMod (eVar 23) (fun _ => some (.int 4)))) (lCons (eBin dAdd (fun _ => some (.int 1)) (eBin dFloorDiv (eVar 23) (fun _ => some (.int 4)))) lNil)))))) (sSeq (sRet (fun _ => some (.bool false))) sNil) sNil) (sSeq (sAppend 21 (eCall dInt (lCons (eBin dMul (eBin dIdx (eVar 27) (fun _ => some (.int 0))) (fun _ => some (.int 8))) lNil))) sNil))))))))
noncomputable abbrev BP : List D → Option (Fl × List D) := (sSeq (sAssignOwn 21 []) (sSeq (sFor (setK 22) (eVar 20) BL sNil) (sRel 21 (sSeq (sAssign 28 (eCall dSum (lCons (eComp [21] (eVar 19) (tOf (eBin dIn (eVar 0) (eVar 1))) (eBin dPow (fun _ => some (.int 2)) (eVar 0))) lNil))) (sSeq (sAssign 8 (eCall f2 (lCons (eBin dLShift (eVar 28) (eVar 2)) lNil))) (sSeq (sAppend 18 (eIf (tOf (eBin dEq (eVar 8) (fun _ => some (.str "0x0")))) (fun _ => some (.int 0)) (eCall dLen (lCons (eCall dSplit (lCons (eVar 8) (lCons (fun _ => some (.str ", ")) lNil))) lNil)))) sNil))))))
noncomputable abbrev BT : List D → Option (Fl × List D) := (sSeq (sAssignOwn 18 []) (sRel 6 (sSeq (sFor (setPair 19 20) (eTup (lCons (eVar 6) (lCons (eVar 13) lNil))) BP sNil) (sRel 18 (sRel 6 (sSeq (sIf (tOf (eBin dNe (eBin dSub (eBin dIdx (eVar 18) (fun _ => some (.int 0))) (eBin dIdx (eVar 18) (fun _ => some (.int 1)))) (eBin dSub (eBin dAdd (eCall dLen (lCons (eBin dIdx (eVar 6) (fun _ => some (.int 0))) lNil)) (eCall dLen (lCons (eBin dIdx (eVar 6) (fun _ => some (.int 1))) lNil))) (fun _ => some (.int 8))))) (sSeq (sRet (fun _ => some (.bool false))) sNil) sNil) sNil))))))
theorem b11_eq : b11 = (sSeq (sAssign 1 (eCall f5 (lCons (eVar 0) lNil))) (sSeq (sAssign 2 (eBin dMod (eBin dFloorDiv (eBin dIdx (eVar 1) (fun _ => some (.int 0))) (fun _ => some (.int 65536))) (fun _ => some (.int 26)))) (sSeq (sAssign 3 (eCall f6 (lCons (eVar 2) lNil))) (sSeq (sAssign 4 (eBin dAdd (eList (lCons (fun _ => some (.int 173)) (lCons (fun _ => some (.int 847)) (lCons (fun _ => some (.int 6150)) (lCons (fun _ => some (.int 6155)) (lCons (fun _ => some (.int 6156)) (lCons (fun _ => some (.int 6157)) (lCons (fun _ => some (.int 8203)) (lCons (fun _ => some (.int 8204)) (lCons (fun _ => some (.int 8205)) (lCons (fun _ => some (.int 8288)) (lCons (fun _ => some (.int 65279)) lNil)))))))))))) (eCall dList (lCons (eCall dRange (lCons (fun _ => some (.int 65024)) (lCons (fun _ => some (.int 65040)) lNil))) lNil)))) (sSeq (sAssign 5 (eTup (lCons (fun _ => some (.int 172)) (lCons (fun _ => some (.int 174)) (lCons (fun _ => some (.int 846)) (lCons (fun _ => some (.int 848)) (lCons (fun _ => some (.int 6149)) (lCons (fun _ => some (.int 6151)) (lCons (fun _ => some (.int 6154)) (lCons (fun _ => some (.int 6158)) (lCons (fun _ => some (.int 8202)) (lCons (fun _ => some (.int 8206)) (lCons (fun _ => some (.int 8287)) (lCons (fun _ => some (.int 8289)) (lCons (fun _ => some (.int 65023)) (lCons (fun _ => some (.int 65040)) (lCons (fun _ => some (.int 65278)) (lCons (fun _ => some (.int 65280)) lNil)))))))))))))))))) (sSeq (sIf (tOf (eBin dNe (eComp [] (eVar 5) (fun _ => some true) (eCall f3 (lCons (eCall dChr (lCons (eVar 0) lNil)) lNil))) (eBin dMul (eList (lCons (fun _ => some (.bool false)) lNil)) (fun _ => some (.int 16))))) (sSeq (sRet (fun _ => some (.bool false))) sNil) sNil) (sSeq (sAssignOwn 6 []) (sSeq (sFor (setK 7) (eTup (lCons (eBin dMod (eBin dIdx (eVar 1) (fun _ => some (.int 0))) (fun _ => some (.int 256))) (lCons (eBin dMod (eBin dFloorDiv (eBin dIdx (eVar 1) (fun _ => some (.int 0))) (fun _ => some (.int 256))) (fun _ => some (.int 256))) lNil))) BC sNil) (sRel 6 (sSeq (sAssign 13 (eComp [] (eVar 6) (fun _ => some true) (eComp [0] (eCall dRange (lCons (fun _ => some (.int 8)) lNil)) (tOf (eBin dNotIn (eVar 0) (eVar 1))) (eVar 0)))) (sSeq (sAssign 14 (eBin dMod (eBin dFloorDiv (eBin dIdx (eVar 1) (fun _ => some (.int 1))) (fun _ => some (.int 972))) (fun _ => some (.int 4)))) (sSeq (sFor (setK 15) (eTup (lCons (fun _ => some (.int 0)) (lCons (eBin dAdd (fun _ => some (.int 1)) (eBin dMod (eBin dIdx (eVar 1) (fun _ => some (.int 2))) (fun _ => some (.int 4)))) lNil))) BG sNil) (sSeq (sFor (setK 17) (eCall dRange (lCons (eBin dMod (eBin dFloorDiv (eBin dIdx (eVar 1) (fun _ => some (.int 1))) (fun _ => some (.int 3888))) (fun _ => some (.int 8))) (lCons (eBin dAdd (eBin dMod (eBin dFloorDiv (eBin dIdx (eVar 1) (fun _ => some (.int 1))) (fun _ => some (.int 3888))) (fun _ => some (.int 8))) (fun _ => some (.int 3))) lNil))) BT sNil) (sSeq (sRet (fun _ => some (.bool true))) sNil)))))))))))))) := rfl

section
variable {a0 a1 a2 a3 a4 a5 a6 a7 a8 a9 a10 a11 a12 a13 a14 a15 a16 a17 a18 a19 a20 a21 a22 a23 a24 a25 a26 a27 a28 : D}
noncomputable abbrev stK (K : List Nat) (x y : D) : List D := [a0, a1, a2, a3, unseenD, a5, a6, a7, a8, .str (S K), x, y, a12, a13, a14, a15, a16, a17, a18, a19, a20, a21, a22, a23, a24, a25, a26, a27, a28]
theorem in_unseen (z : Int) : dIn (.int z) unseenD = some (.bool (b1S z)) := by
  have H : ∀ l : List Int, dInAll (.int z) (l.map D.int) = some (l.any (· == z)) := by
    intro l
    induction l with
    | nil => rfl
    | cons y l ih =>
      rw [List.map_cons, List.any_cons]
      show (match some (y == z) with | some b => (match dInAll (.int z) (l.map D.int) with | some c => some (b || c) | none => none) | none => none) = _
      rw [ih]
  show (if dKey (.int z) = true then (match dInAll (.int z) (b1List.map D.int) with | some b => some (D.bool b) | none => none) else none) = _
  rw [if_pos (show dKey (.int z) = true from rfl), H, b1_any]
theorem bk_test {K : List Nat} {z : Nat} {y : D} : (sIf (tOf (eBin dIsNot (eVar 11) (eBin dIn (eCall dOrd (lCons (eVar 10) lNil)) (eVar 4)))) (sSeq (sRet (fun _ => some (.bool false))) sNil) sNil) ([a0, a1, a2, a3, unseenD, a5, a6, a7, a8, .str (S K), .str (S [z]), .bool (b1S (z : Int)), a12, a13, a14, a15, a16, a17, a18, a19, a20, a21, a22, a23, a24, a25, a26, a27, a28]) = some (.next, [a0, a1, a2, a3, unseenD, a5, a6, a7, a8, .str (S K), .str (S [z]), .bool (b1S (z : Int)), a12, a13, a14, a15, a16, a17, a18, a19, a20, a21, a22, a23, a24, a25, a26, a27, a28]) := by
  refine if_skip (tof_of (d := .bool (b1S (z : Int) != b1S (z : Int))) (bin_of rfl (bin_of (ord_of rfl) rfl (in_unseen z)) rfl) ?_)
  show some (b1S (z : Int) != b1S (z : Int)) = _
  simp
theorem bk_unseen {K : List Nat} {z : Nat} {y : D} (h : b1S (z : Int) = true) : BK (stK (a0 := a0) (a1 := a1) (a2 := a2) (a3 := a3) (a5 := a5) (a6 := a6) (a7 := a7) (a8 := a8) (a12 := a12) (a13 := a13) (a14 := a14) (a15 := a15) (a16 := a16) (a17 := a17) (a18 := a18) (a19 := a19) (a20 := a20) (a21 := a21) (a22 := a22) (a23 := a23) (a24 := a24) (a25 := a25) (a26 := a26) (a27 := a27) (a28 := a28) K (.str (S [z])) y) = some (.next, [a0, a1, a2, a3, unseenD, a5, a6, a7, a8, .str (S K), .str (S [z]), .bool true, a12, a13, a14, a15, a16, a17, a18, a19, a20, a21, a22, a23, a24, a25, a26, a27, a28]) := by
  have e0 : eCall f3 (lCons (eVar 10) lNil) ([a0, a1, a2, a3, unseenD, a5, a6, a7, a8, .str (S K), .str (S [z]), y, a12, a13, a14, a15, a16, a17, a18, a19, a20, a21, a22, a23, a24, a25, a26, a27, a28]) = some (.bool (b1S (z : Int))) := call_of (xs := [.str (S [z])]) rfl (f3_ok z)
  refine (seq_of (asg_of e0)).trans ?_
  show sSeq _ _ ([a0, a1, a2, a3, unseenD, a5, a6, a7, a8, .str (S K), .str (S [z]), .bool (b1S (z : Int)), a12, a13, a14, a15, a16, a17, a18, a19, a20, a21, a22, a23, a24, a25, a26, a27, a28]) = _
  refine (seq_of (bk_test (y := y))).trans ?_
  rw [h]
  exact (seq_of (if_skip rfl)).trans rfl
theorem bk_good {K F : List Nat} {z : Nat} {y : D} (h : b1S (z : Int) = false) (hf : f4 [.str (S [z])] = some (.str (S F))) (hl : K.length + F.length ≤ 65536) : BK (stK (a0 := a0) (a1 := a1) (a2 := a2) (a3 := a3) (a5 := a5) (a6 := a6) (a7 := a7) (a8 := a8) (a12 := a12) (a13 := a13) (a14 := a14) (a15 := a15) (a16 := a16) (a17 := a17) (a18 := a18) (a19 := a19) (a20 := a20) (a21 := a21) (a22 := a22) (a23 := a23) (a24 := a24) (a25 := a25) (a26 := a26) (a27 := a27) (a28 := a28) K (.str (S [z])) y) = some (.next, [a0, a1, a2, a3, unseenD, a5, a6, a7, a8, .str (S (K ++ F)), .str (S [z]), .bool false, a12, a13, a14, a15, a16, a17, a18, a19, a20, a21, a22, a23, a24, a25, a26, a27, a28]) := by
  have e0 : eCall f3 (lCons (eVar 10) lNil) ([a0, a1, a2, a3, unseenD, a5, a6, a7, a8, .str (S K), .str (S [z]), y, a12, a13, a14, a15, a16, a17, a18, a19, a20, a21, a22, a23, a24, a25, a26, a27, a28]) = some (.bool (b1S (z : Int))) := call_of (xs := [.str (S [z])]) rfl (f3_ok z)
  refine (seq_of (asg_of e0)).trans ?_
  show sSeq _ _ ([a0, a1, a2, a3, unseenD, a5, a6, a7, a8, .str (S K), .str (S [z]), .bool (b1S (z : Int)), a12, a13, a14, a15, a16, a17, a18, a19, a20, a21, a22, a23, a24, a25, a26, a27, a28]) = _
  refine (seq_of (bk_test (y := y))).trans ?_
  rw [h]
  refine (seq_of (ds1 := [a0, a1, a2, a3, unseenD, a5, a6, a7, a8, .str (S (K ++ F)), .str (S [z]), .bool false, a12, a13, a14, a15, a16, a17, a18, a19, a20, a21, a22, a23, a24, a25, a26, a27, a28]) ((if_t rfl).trans ?_)).trans rfl
  have e5 : eCall f4 (lCons (eVar 10) lNil) ([a0, a1, a2, a3, unseenD, a5, a6, a7, a8, .str (S K), .str (S [z]), .bool false, a12, a13, a14, a15, a16, a17, a18, a19, a20, a21, a22, a23, a24, a25, a26, a27, a28]) = some (.str (S F)) := call_of (xs := [.str (S [z])]) rfl hf
  exact (seq_of (aug_of (bin_of (x := .str (S K)) rfl e5 (iadd_str hl)))).trans rfl
theorem forD_cons {set : D → List D → Option (List D)} {body : List D → Option (Fl × List D)} {x : D} {xs : List D} {ds : List D} : forD set body (x :: xs) ds = (match set x ds with
    | none => none
    | some ds1 => match body ds1 with
      | some (.next, ds2) => forD set body xs ds2
      | r => r) := rfl
theorem for_append {set : D → List D → Option (List D)} {body : List D → Option (Fl × List D)} : ∀ (xs ys : List D) (ds ds1 : List D), forD set body xs ds = some (.next, ds1) → forD set body (xs ++ ys) ds = forD set body ys ds1
  | [], ys, ds, ds1, h => by cases h; rfl
  | x :: xs, ys, ds, ds1, h => by
    rw [List.cons_append]
    rw [forD_cons] at h ⊢
    cases e : set x ds with
    | none => rw [e] at h; cases h
    | some d1 =>
      rw [e] at h
      dsimp only at h ⊢
      cases e2 : body d1 with
      | none => rw [e2] at h; cases h
      | some p =>
        obtain ⟨fl, d2⟩ := p
        rw [e2] at h
        cases fl with
        | next => exact for_append xs ys d2 ds1 h
        | brk => cases h
        | ret _ => cases h
theorem FD_len (z : Nat) : (FD z).length ≤ 2 := by 
  unfold FD
  split
  · simp
  · split
    · simp
    · split <;> simp
theorem loopK : ∀ (signs : List Nat) (t : Nat) (K : List Nat) (x y : D), (∀ z ∈ signs, okSign z = true) → K.length + 2 * signs.length ≤ 60000 → ∃ x' y',
    forD (setK 10) BK ((TY t signs).map fun (z : Nat) => D.str (S [z])) ([a0, a1, a2, a3, unseenD, a5, a6, a7, a8, .str (S K), x, y, a12, a13, a14, a15, a16, a17, a18, a19, a20, a21, a22, a23, a24, a25, a26, a27, a28]) = some (.next, [a0, a1, a2, a3, unseenD, a5, a6, a7, a8, .str (S (K ++ signs.flatMap FD)), x', y', a12, a13, a14, a15, a16, a17, a18, a19, a20, a21, a22, a23, a24, a25, a26, a27, a28])
  | [], t, K, x, y, _, _ => ⟨x, y, by simp [TY, forD]⟩
  | c :: signs, t, K, x, y, hs, hl => by
    have h1 := hs c List.mem_cons_self
    have ht : (t + 25) % 324 < 324 := Nat.mod_lt _ (by decide)
    obtain ⟨hb, hf⟩ := typed_ok _ c ht h1
    rw [List.length_cons] at hl
    have hFl := FD_len c
    have hu : ∃ x1 y1, forD (setK 10) BK ((us ((t + 25) % 324)).map fun (z : Nat) => D.str (S [z])) ([a0, a1, a2, a3, unseenD, a5, a6, a7, a8, .str (S K), x, y, a12, a13, a14, a15, a16, a17, a18, a19, a20, a21, a22, a23, a24, a25, a26, a27, a28]) = some (.next, [a0, a1, a2, a3, unseenD, a5, a6, a7, a8, .str (S K), x1, y1, a12, a13, a14, a15, a16, a17, a18, a19, a20, a21, a22, a23, a24, a25, a26, a27, a28]) := by
      have hub := us_b1 _ ht
      generalize us ((t + 25) % 324) = u at hub
      induction u generalizing x y with
      | nil => exact ⟨x, y, rfl⟩
      | cons v u ih =>
        obtain ⟨x1, y1, e⟩ := ih (.str (S [v])) (.bool true) fun w hw => hub w (List.mem_cons_of_mem _ hw)
        refine ⟨x1, y1, ?_⟩
        rw [List.map_cons, for_loop]
        show (match BK ([a0, a1, a2, a3, unseenD, a5, a6, a7, a8, .str (S K), .str (S [v]), y, a12, a13, a14, a15, a16, a17, a18, a19, a20, a21, a22, a23, a24, a25, a26, a27, a28]) with
          | some (.next, ds2) => forD (setK 10) BK (u.map fun (z : Nat) => D.str (S [z])) ds2
          | r => r) = _
        rw [bk_unseen (hub v List.mem_cons_self)]
        exact e
    obtain ⟨x1, y1, hu⟩ := hu
    obtain ⟨x', y', ih⟩ := loopK signs ((t + 25) % 324) (K ++ FD c) (.str (S [tc ((t + 25) % 324) c])) (.bool false) (fun z hz => hs z (List.mem_cons_of_mem _ hz)) (by rw [List.length_append]; omega)
    refine ⟨x', y', ?_⟩
    rw [TY, List.map_append, for_append _ _ _ _ hu, List.map_cons, for_loop]
    show (match BK ([a0, a1, a2, a3, unseenD, a5, a6, a7, a8, .str (S K), .str (S [tc ((t + 25) % 324) c]), y1, a12, a13, a14, a15, a16, a17, a18, a19, a20, a21, a22, a23, a24, a25, a26, a27, a28]) with
      | some (.next, ds2) => forD (setK 10) BK ((TY ((t + 25) % 324) signs).map fun (z : Nat) => D.str (S [z])) ds2
      | r => r) = _
    rw [bk_good hb hf (by omega)]
    dsimp only
    rw [ih, List.flatMap_cons, List.append_assoc]
end
end Mine

namespace Mine
open PySem PySem.Calls PyProof.Rows PyProof.V

noncomputable abbrev HP (h0 h1 h2 : Int) : D := .list [.int h0, .int h1, .int h2]
noncomputable def BITS (c : Nat) : List Nat := (List.range' 0 8).filter (bit c)
noncomputable abbrev bitsD (c : Nat) : D := .list ((BITS c).map fun (j : Nat) => D.int (j : Int))
noncomputable def T1 (h1 : Int) : Nat := (h1.fmod 324).toNat
theorem fmod_pos (x : Int) (m : Nat) (hm : 0 < m) : x.fmod (m : Int) = (((x.fmod (m : Int)).toNat : Nat) : Int) ∧ (x.fmod (m : Int)).toNat < m := by
  have e : x.fmod (m : Int) = x.emod m := Int.fmod_eq_emod_of_nonneg _ (by omega)
  have h1 : 0 ≤ x.emod m := Int.emod_nonneg x (by omega)
  have h2 : x.emod m < m := Int.emod_lt_of_pos x (by omega)
  rw [e]
  constructor <;> omega
theorem dMod_int (x : Int) (m : Nat) (hm : 0 < m) : dMod (.int x) (.int (m : Int)) = some (.int (((x.fmod (m : Int)).toNat : Nat) : Int)) := by
  show (if (m : Int) ≠ 0 then some (D.int (x.fmod (m : Int))) else none) = _
  rw [if_pos (by omega), ← (fmod_pos x m hm).1]
noncomputable def lwn (p : Nat) : List Nat := (nm p).map lw
theorem lwn_inj {p q : Nat} (hp : p < 33) (hq : q < 33) (h : lwn p = lwn q) : p = q := by
  have H : ((List.range 33).map lwn).Nodup := by decide +kernel
  have h1 : ((List.range 33).map lwn)[p]? = some (lwn p) := by rw [List.getElem?_map, List.getElem?_range hp]; rfl
  have h2 : ((List.range 33).map lwn)[q]? = some (lwn p) := by rw [List.getElem?_map, List.getElem?_range hq, h]; rfl
  exact nodup_inj H h1 h2
theorem lwn_z0 {p : Nat} (hp : p < 33) : z0.map lw ≠ lwn p := by
  have H : (List.range 33).all (fun p => z0.map lw != lwn p) = true := by decide +kernel
  have := List.all_eq_true.mp H p (List.mem_range.mpr hp)
  simpa using this
theorem inAll_str (x : Str) : ∀ l : List Str, dInAll (.str x) (l.map D.str) = some (l.any (· == x))
  | [] => rfl
  | y :: l => by
    rw [List.map_cons, List.any_cons]
    show (match some (y == x) with | some b => (match dInAll (.str x) (l.map D.str) with | some c => some (b || c) | none => none) | none => none) = _
    rw [inAll_str x l]
theorem heard_any (s c j : Nat) (hs : s < 26) (hc : c < 256) (hj : j < 8) : ((((nsOf s c).map (List.map lw)).map S).any (· == S (lwn (s + j)))) = bit c j := by
  rw [Bool.eq_iff_iff, List.any_eq_true]
  have hb : bit c j = true ↔ c / 2 ^ j % 2 = 1 := by unfold bit; exact beq_iff_eq
  rw [hb]
  unfold nsOf
  by_cases h0 : c = 0
  · rw [if_pos h0]
    subst h0
    constructor
    · rintro ⟨x, hx, hx2⟩
      simp only [List.map_cons, List.map_nil, List.mem_singleton] at hx
      subst hx
      exact absurd (S_inj (eq_of_beq hx2)) (lwn_z0 (by omega))
    · intro h; simp at h
  · rw [if_neg h0]
    constructor
    · rintro ⟨x, hx, hx2⟩
      obtain ⟨y, hy, rfl⟩ := List.mem_map.mp hx
      obtain ⟨z, hz, rfl⟩ := List.mem_map.mp hy
      obtain ⟨p, hp, rfl⟩ := List.mem_map.mp hz
      have hm := (bl_mem 8 s c p).mp hp
      have e := lwn_inj (p := p) (q := s + j) (by omega) (by omega) (S_inj (eq_of_beq hx2))
      subst e
      simpa using hm.2.2
    · intro h
      refine ⟨S (lwn (s + j)), List.mem_map.mpr ⟨lwn (s + j), List.mem_map.mpr ⟨nm (s + j), List.mem_map.mpr ⟨s + j, (bl_mem 8 s c (s + j)).mpr ⟨by omega, by omega, by simpa using h⟩, rfl⟩, rfl⟩, rfl⟩, by simp⟩
theorem nm_lower (p : Nat) (hp : p < 33) : Txt.lower (NM p) = S (lwn p) := lower_S (nm p) (good_nm p hp).ascii
theorem dNe_str (x : Str) : dNe (.str x) (.str x) = some (.bool false) := by
  show some (D.bool (x != x)) = _
  simp
theorem dLower_of {l : List Nat} (hl : l.length ≤ 60000) {r : Str} (h : Txt.lower (S l) = r) : dLower [.str (S l)] = some (.str r) := by
  show (if (S l).length ≤ 65536 then some (D.str (Txt.lower (S l))) else none) = _
  rw [if_pos (by rw [S_len]; omega), h]
theorem lit_comp (s c : Nat) (hs : s < 26) (hc : c < 256) : compD [namesD s, .list (((nsOf s c).map (List.map lw)).map S |>.map D.str)] (tOf (eBin dIn (eCall dLower (lCons (eBin dIdx (eVar 1) (eVar 0)) lNil)) (eVar 2))) (eVar 0) ((List.range' 0 8).map fun (j : Nat) => D.int (j : Int)) =
    some ((BITS c).map fun (j : Nat) => D.int (j : Int)) := by
  refine compD_eq (fun (j : Nat) => D.int (j : Int)) (bit c) (fun (j : Nat) => D.int (j : Int)) (List.range' 0 8) fun j hj => ⟨?_, fun _ => rfl⟩
  have hj8 : j < 8 := by simp [List.mem_range'] at hj; omega
  have e1 := idx_names s j hj8 (cap := [namesD s, .list (((nsOf s c).map (List.map lw)).map S |>.map D.str)]) rfl
  have hg := good_nm (s + j) (by omega)
  have e2 : dLower [.str (NM (s + j))] = some (.str (S (lwn (s + j)))) := dLower_of (l := nm (s + j)) (by have := hg.l1; omega) (nm_lower _ (by omega))
  refine tof_of (d := .bool (bit c j)) (bin_of (x := .str (S (lwn (s + j)))) (y := .list (((nsOf s c).map (List.map lw)).map S |>.map D.str)) (call_of (lcons_of e1 rfl) e2) rfl ?_) rfl
  show (if dKey (.str (S (lwn (s + j)))) = true then (match dInAll (.str (S (lwn (s + j)))) ((((nsOf s c).map (List.map lw)).map S).map D.str) with | some b => some (D.bool b) | none => none) else none) = _
  rw [if_pos (show dKey (.str (S (lwn (s + j)))) = true from rfl), inAll_str, heard_any s c j hs hc hj8]
theorem nss_len (s c : Nat) : (((nsOf s c).map (List.map lw)).map S).length ≤ 9 := by rw [List.length_map, List.length_map]; exact ns_len s c
theorem W_dsplit (s c : Nat) (hs : s < 26) (hc : c < 256) {l : List Nat} {ns : List (List Nat)} (hW : l.length ≤ 300) (hns : ns.length ≤ 9) (h : Txt.split (S l) ", " = ns.map S) : dSplit [.str (S l), .str ", "] = some (.list ((ns.map S).map D.str)) := by
  have h2 : (", " : Str).length = 2 := by decide +kernel
  have hp : (Builtin.Str.partsBetween (S l) (Builtin.Str.occurrences (S l) ", " 0 (S l).length ((S l).length + 1)) (", " : Str).length).length ≤ 65536 := by
    have e : (", " : Str) = S [44, 32] := by decide +kernel
    rw [e, occ2]
    rw [show (S [44, 32]).length = 2 from rfl, parts2, List.length_map]
    have : ∀ (k : Nat) (l : List Nat), l.length ≤ k → (splL 44 32 l).length ≤ l.length + 1 := by
      intro k
      induction k with
      | zero => intro l hl; obtain rfl := List.length_eq_zero_iff.mp (by omega : l.length = 0); simp [splL]
      | succ k ih =>
        intro l hl
        match l with
        | [] => simp [splL]
        | [c] => simp [splL]
        | c :: d :: r =>
          rw [splL]
          split
          · have := ih r (by simp at hl; omega); simp at this ⊢; omega
          · obtain ⟨p, ps, e⟩ := splL_ne 44 32 (d :: r)
            have := ih (d :: r) (by simp at hl ⊢; omega)
            rw [e] at this ⊢
            simp [headC] at this ⊢; omega
    have := this l.length l (Nat.le_refl _)
    omega
  show (if (S l).length ≤ 65536 ∧ (", " : Str).length ≠ 0 ∧ (Txt.split (S l) ", ").length ≤ 65536 ∧ (Builtin.Str.partsBetween (S l) (Builtin.Str.occurrences (S l) ", " 0 (S l).length ((S l).length + 1)) (", " : Str).length).length ≤ 65536 then some (D.list ((Txt.split (S l) ", ").map D.str)) else none) = _
  rw [if_pos ⟨by rw [S_len]; omega, by rw [h2]; decide, by rw [h, List.length_map]; omega, hp⟩, h]
section
variable {a0 a1 a2 a3 a4 a5 a6 a7 a8 a9 a10 a11 a12 a13 a14 a15 a16 a17 a18 a19 a20 a21 a22 a23 a24 a25 a26 a27 a28 : D}
theorem bc_step (h0 h1 h2 : Int) (s c : Nat) (LT : List D) (hs : s < 26) (hc : c < 256) (hLT : LT.length ≤ 100) : ∃ b8 b9 b10 b11 b12,
    BC ([a0, HP h0 h1 h2, .int (s : Int), namesD s, unseenD, a5, .own LT, .int (c : Int), a8, a9, a10, a11, a12, a13, a14, a15, a16, a17, a18, a19, a20, a21, a22, a23, a24, a25, a26, a27, a28]) = some (.next, [a0, HP h0 h1 h2, .int (s : Int), namesD s, unseenD, a5, .own (LT ++ [bitsD c]), .int (c : Int), b8, b9, b10, b11, b12, a13, a14, a15, a16, a17, a18, a19, a20, a21, a22, a23, a24, a25, a26, a27, a28]) := by
  have hW := W_len hs hc
  have hWl : ((Wof s c).map lw).length ≤ 300 := by rw [List.length_map]; exact hW
  have ht := fmod_pos h1 324 (by decide)
  obtain ⟨x', y', hK⟩ := loopK (a0 := a0) (a1 := HP h0 h1 h2) (a2 := .int (s : Int)) (a3 := namesD s) (a5 := a5) (a6 := .own LT) (a7 := .int (c : Int)) (a8 := .str (S (Wof s c))) (a12 := a12) (a13 := a13) (a14 := a14) (a15 := a15) (a16 := a16) (a17 := a17) (a18 := a18) (a19 := a19) (a20 := a20) (a21 := a21) (a22 := a22) (a23 := a23) (a24 := a24) (a25 := a25) (a26 := a26) (a27 := a27) (a28 := a28)
    (rp (Wof s c)) (T1 h1) [] a10 a11 (rp_signs hs hc) (by have := rp_len hs hc; simp; omega)
  rw [List.nil_append, rp_fold hs hc] at hK
  refine ⟨.str (S (Wof s c)), .str (S ((Wof s c).map lw)), x', y', .list (((nsOf s c).map (List.map lw)).map S |>.map D.str), ?_⟩
  -- words
  have e8 : eCall f2 (lCons (eBin dLShift (eVar 7) (eVar 2)) lNil) ([a0, HP h0 h1 h2, .int (s : Int), namesD s, unseenD, a5, .own LT, .int (c : Int), a8, a9, a10, a11, a12, a13, a14, a15, a16, a17, a18, a19, a20, a21, a22, a23, a24, a25, a26, a27, a28]) = some (.str (S (Wof s c))) := by
    have hsh : dLShift (.int (c : Int)) (.int (s : Int)) = some (.int ((2 ^ s * c : Nat) : Int)) := by
      have hb : (Builtin.Int.intBits (c : Int) : Int) ≤ 64 := by
        have := bits_small (a := (c : Int)) (by omega)
        omega
      show (if 0 ≤ (s : Int) ∧ (Builtin.Int.intBits (c : Int) : Int) + s ≤ 2 ^ 27 then some (D.int ((c : Int) * 2 ^ (s : Int).toNat)) else none) = _
      rw [if_pos ⟨by omega, by omega⟩, Int.toNat_natCast]
      congr 2
      rw [Int.natCast_mul, Int.mul_comm]; congr 1
    refine call_of (lcons_of (bin_of rfl rfl hsh) rfl) ?_
    rw [f2_ok s c hs hc, words_eq]
  refine (seq_of (asg_of e8)).trans ?_
  show sSeq _ _ ([a0, HP h0 h1 h2, .int (s : Int), namesD s, unseenD, a5, .own LT, .int (c : Int), .str (S (Wof s c)), a9, a10, a11, a12, a13, a14, a15, a16, a17, a18, a19, a20, a21, a22, a23, a24, a25, a26, a27, a28]) = _
  have e7 : eCall f7 (lCons (eVar 3) (lCons (eVar 7) lNil)) ([a0, HP h0 h1 h2, .int (s : Int), namesD s, unseenD, a5, .own LT, .int (c : Int), .str (S (Wof s c)), a9, a10, a11, a12, a13, a14, a15, a16, a17, a18, a19, a20, a21, a22, a23, a24, a25, a26, a27, a28]) = some (.str (S (Wof s c))) := by
    refine call_of (xs := [namesD s, .int (c : Int)]) rfl ?_
    rw [f7_ok s c hs hc, words_eq]
  refine (seq_of (if_skip (tof_of (bin_of rfl e7 (dNe_str _)) rfl))).trans ?_
  refine (seq_of (asg_of (d := .str "") rfl)).trans ?_
  have hE : ("" : Str) = S [] := by decide +kernel
  rw [hE]
  show sSeq _ _ ([a0, HP h0 h1 h2, .int (s : Int), namesD s, unseenD, a5, .own LT, .int (c : Int), .str (S (Wof s c)), .str (S []), a10, a11, a12, a13, a14, a15, a16, a17, a18, a19, a20, a21, a22, a23, a24, a25, a26, a27, a28]) = _
  have ef8 : eCall f8 (lCons (eVar 8) (lCons (eVar 4) (lCons (eBin dMod (eBin dIdx (eVar 1) (fun _ => some (.int 1))) (fun _ => some (.int 324))) lNil))) ([a0, HP h0 h1 h2, .int (s : Int), namesD s, unseenD, a5, .own LT, .int (c : Int), .str (S (Wof s c)), .str (S []), a10, a11, a12, a13, a14, a15, a16, a17, a18, a19, a20, a21, a22, a23, a24, a25, a26, a27, a28]) = some (.str (S (TY (T1 h1) (rp (Wof s c))))) := by
    have em : (eBin dMod (eBin dIdx (eVar 1) (fun _ => some (.int 1))) (fun _ => some (.int 324))) ([a0, HP h0 h1 h2, .int (s : Int), namesD s, unseenD, a5, .own LT, .int (c : Int), .str (S (Wof s c)), .str (S []), a10, a11, a12, a13, a14, a15, a16, a17, a18, a19, a20, a21, a22, a23, a24, a25, a26, a27, a28]) = some (.int ((T1 h1 : Nat) : Int)) :=
      bin_of (x := .int h1) (y := .int 324) rfl rfl (dMod_int h1 324 (by decide))
    refine call_of (xs := [.str (S (Wof s c)), unseenD, .int ((T1 h1 : Nat) : Int)]) (lcons_of rfl (lcons_of rfl (lcons_of em rfl))) ?_
    exact f8_ok (Wof s c) (T1 h1) (by omega) (by have := rp1_len hs hc; omega) (by have := rp_len hs hc; omega) fun z hz => okSign_C (rp_signs hs hc z hz)
  have eF : (sFor (setK 10) (eCall f8 (lCons (eVar 8) (lCons (eVar 4) (lCons (eBin dMod (eBin dIdx (eVar 1) (fun _ => some (.int 1))) (fun _ => some (.int 324))) lNil)))) BK sNil) ([a0, HP h0 h1 h2, .int (s : Int), namesD s, unseenD, a5, .own LT, .int (c : Int), .str (S (Wof s c)), .str (S []), a10, a11, a12, a13, a14, a15, a16, a17, a18, a19, a20, a21, a22, a23, a24, a25, a26, a27, a28]) = some (.next, [a0, HP h0 h1 h2, .int (s : Int), namesD s, unseenD, a5, .own LT, .int (c : Int), .str (S (Wof s c)), .str (S ((Wof s c).map lw)), x', y', a12, a13, a14, a15, a16, a17, a18, a19, a20, a21, a22, a23, a24, a25, a26, a27, a28]) := by
    rw [sFor_of ef8 (xs := (TY (T1 h1) (rp (Wof s c))).map fun (z : Nat) => D.str (S [z])) (by rfl), hK]
  refine (seq_of eF).trans ?_
  have el : eCall dLower (lCons (eVar 8) lNil) ([a0, HP h0 h1 h2, .int (s : Int), namesD s, unseenD, a5, .own LT, .int (c : Int), .str (S (Wof s c)), .str (S ((Wof s c).map lw)), x', y', a12, a13, a14, a15, a16, a17, a18, a19, a20, a21, a22, a23, a24, a25, a26, a27, a28]) = some (.str (S ((Wof s c).map lw))) :=
    call_of (xs := [.str (S (Wof s c))]) rfl (dLower_of (by omega) (W_lower hs hc))
  refine (seq_of (if_skip (tof_of (bin_of (x := .str (S ((Wof s c).map lw))) rfl el (dNe_str _)) rfl))).trans ?_
  have es : eCall dSplit (lCons (eVar 9) (lCons (fun _ => some (.str ", ")) lNil)) ([a0, HP h0 h1 h2, .int (s : Int), namesD s, unseenD, a5, .own LT, .int (c : Int), .str (S (Wof s c)), .str (S ((Wof s c).map lw)), x', y', a12, a13, a14, a15, a16, a17, a18, a19, a20, a21, a22, a23, a24, a25, a26, a27, a28]) = some (.list (((nsOf s c).map (List.map lw)).map S |>.map D.str)) :=
    call_of (xs := [.str (S ((Wof s c).map lw)), .str ", "]) rfl (W_dsplit s c hs hc hWl (by rw [List.length_map]; exact ns_len s c) (W_split hs hc))
  refine (seq_of (asg_of es)).trans ?_
  show sSeq _ _ ([a0, HP h0 h1 h2, .int (s : Int), namesD s, unseenD, a5, .own LT, .int (c : Int), .str (S (Wof s c)), .str (S ((Wof s c).map lw)), x', y', .list (((nsOf s c).map (List.map lw)).map S |>.map D.str), a13, a14, a15, a16, a17, a18, a19, a20, a21, a22, a23, a24, a25, a26, a27, a28]) = _
  have ec : eComp [3, 12] (eCall dRange (lCons (fun _ => some (.int 8)) lNil)) (tOf (eBin dIn (eCall dLower (lCons (eBin dIdx (eVar 1) (eVar 0)) lNil)) (eVar 2))) (eVar 0) ([a0, HP h0 h1 h2, .int (s : Int), namesD s, unseenD, a5, .own LT, .int (c : Int), .str (S (Wof s c)), .str (S ((Wof s c).map lw)), x', y', .list (((nsOf s c).map (List.map lw)).map S |>.map D.str), a13, a14, a15, a16, a17, a18, a19, a20, a21, a22, a23, a24, a25, a26, a27, a28]) = some (bitsD c) :=
    comp_of (d := .rng 0 8) (cap := [namesD s, .list (((nsOf s c).map (List.map lw)).map S |>.map D.str)]) rfl (congrArg some (rngN 8)) (by simp) rfl (lit_comp s c hs hc)
  exact (seq_of (append_of ec rfl (by omega))).trans rfl
end
end Mine
namespace Mine
open PySem PySem.Calls PyProof.Rows PyProof.V

/-! the heaps -/
noncomputable abbrev B5 : List D → Option (Fl × List D) := (sSeq (sAugIdx 1 (eBin dMod (eVar 2) (fun _ => some (.int 3))) (eBin dMod (eVar 3) (eBin dPow (fun _ => some (.int 10)) (fun _ => some (.int 12))))) sNil)
theorem b5_step (a0 : D) (h0 h1 h2 n : Int) (i : Nat) : ∃ g0 g1 g2, B5 [a0, .own [.int h0, .int h1, .int h2], .int (i : Int), .int n] = some (.next, [a0, .own [.int g0, .int g1, .int g2], .int (i : Int), .int n]) := by
  have e1 : eBin dMod (eVar 2) (fun _ => some (.int 3)) [a0, .own [.int h0, .int h1, .int h2], .int (i : Int), .int n] = some (.int ((i % 3 : Nat) : Int)) := bin_of rfl rfl (mod_nat i 3 (by decide))
  have e2 : eBin dMod (eVar 3) (eBin dPow (fun _ => some (.int 10)) (fun _ => some (.int 12))) [a0, .own [.int h0, .int h1, .int h2], .int (i : Int), .int n] = some (.int (n.fmod 1000000000000)) :=
    bin_of (x := .int n) (y := .int 1000000000000) rfl (by kernel_rfl) rfl
  have key : sAugIdx 1 (eBin dMod (eVar 2) (fun _ => some (.int 3))) (eBin dMod (eVar 3) (eBin dPow (fun _ => some (.int 10)) (fun _ => some (.int 12)))) [a0, .own [.int h0, .int h1, .int h2], .int (i : Int), .int n] =
      (match (some (.own [.int h0, .int h1, .int h2]) : Option D) with
      | some (.own xs) => if 0 ≤ ((i % 3 : Nat) : Int) ∧ ((i % 3 : Nat) : Int) < xs.length ∧ xs.length ≤ 65536 then match xs[((i % 3 : Nat) : Int).toNat]? with
        | some (.int y) => some (.next, [a0, .own (xs.set ((i % 3 : Nat) : Int).toNat (.int (y + n.fmod 1000000000000))), .int (i : Int), .int n])
        | _ => none
        else none
      | _ => none) := by
    unfold sAugIdx
    rw [e1]; dsimp only; rw [e2]
    rfl
  have h3 : i % 3 < 3 := Nat.mod_lt _ (by decide)
  generalize i % 3 = r at key h3
  match r, h3 with
  | 0, _ => exact ⟨_, _, _, (seq_of (key.trans rfl)).trans rfl⟩
  | 1, _ => exact ⟨_, _, _, (seq_of (key.trans rfl)).trans rfl⟩
  | 2, _ => exact ⟨_, _, _, (seq_of (key.trans rfl)).trans rfl⟩
theorem loop5 (a0 : D) : ∀ (ns : List Int) (i : Nat) (h0 h1 h2 : Int) (x y : D), ∃ g0 g1 g2 x' y',
    forD (setPair 2 3) B5 (enumD i (ns.map D.int)) [a0, .own [.int h0, .int h1, .int h2], x, y] = some (.next, [a0, .own [.int g0, .int g1, .int g2], x', y'])
  | [], i, h0, h1, h2, x, y => ⟨h0, h1, h2, x, y, rfl⟩
  | n :: ns, i, h0, h1, h2, x, y => by
    obtain ⟨g0, g1, g2, e⟩ := b5_step a0 h0 h1 h2 n i
    obtain ⟨k0, k1, k2, x', y', ih⟩ := loop5 a0 ns (i + 1) g0 g1 g2 (.int (i : Int)) (.int n)
    refine ⟨k0, k1, k2, x', y', ?_⟩
    rw [List.map_cons]
    show forD (setPair 2 3) B5 (.tup [.int (i : Int), .int n] :: enumD (i + 1) (ns.map D.int)) _ = _
    rw [forD_cons]
    show (match B5 [a0, .own [.int h0, .int h1, .int h2], .int (i : Int), .int n] with
      | some (.next, ds2) => forD (setPair 2 3) B5 (enumD (i + 1) (ns.map D.int)) ds2
      | r => r) = _
    rw [e]
    exact ih
theorem f5_ok (ns : List Int) (hn : ns.length ≤ 63) : ∃ h0 h1 h2, f5 [.list (ns.map D.int)] = some (HP h0 h1 h2) := by
  obtain ⟨g0, g1, g2, x', y', hL⟩ := loop5 (.list (ns.map D.int)) ns 0 21541 9077 1559798674 .undef .undef
  refine ⟨g0, g1, g2, ?_⟩
  show fnD 1 4 b5 [.list (ns.map D.int)] = some (HP g0 g1 g2)
  refine fn_of_ret (n := 1) (m := 4) (body := b5) (xs := [.list (ns.map D.int)]) (ds1 := [.list (ns.map D.int), HP g0 g1 g2, x', y']) rfl ?_
  show b5 [.list (ns.map D.int), .undef, .undef, .undef] = _
  refine (seq_of (ds1 := [.list (ns.map D.int), .own [.int 21541, .int 9077, .int 1559798674], .undef, .undef]) rfl).trans ?_
  have e1 : eBin dUpto (eVar 0) (fun _ => some (.int 63)) [.list (ns.map D.int), .own [.int 21541, .int 9077, .int 1559798674], .undef, .undef] = some (.list (ns.map D.int)) := by
    refine bin_of (x := .list (ns.map D.int)) (y := .int 63) rfl rfl ?_
    show (if 0 ≤ (63 : Int) ∧ (ns.map D.int).length ≤ 65536 then some (D.list ((ns.map D.int).take (63 : Int).toNat)) else none) = _
    rw [if_pos ⟨by decide, by rw [List.length_map]; omega⟩, List.take_of_length_le (by rw [List.length_map]; exact hn)]
  refine (seq_of (ds1 := [.list (ns.map D.int), .own [.int g0, .int g1, .int g2], x', y']) ?_).trans ?_
  · unfold sForEnum
    rw [e1]; dsimp only; rw [hL]
  · refine (rel_own (xs := [.int g0, .int g1, .int g2]) rfl).trans ?_
    show sSeq (sRet (eVar 1)) sNil [.list (ns.map D.int), HP g0 g1 g2, x', y'] = _
    exact seq_ret (ret_of rfl)

/-! floats -/
theorem sEq_flt {a b : UInt64} (h : fEq a b = true) : sEq (.flt a) (.flt b) = some true := by
  unfold fEq at h
  show (if (a == b && !Float64.isNaN a && (Float64.cmp a b == some Ordering.eq)) = true then some true else none) = _
  rw [if_pos h]
theorem lEq3 {a b c a' b' c' : UInt64} (h1 : fEq a a' = true) (h2 : fEq b b' = true) (h3 : fEq c c' = true) : lEq [.flt a, .flt b, .flt c] [.flt a', .flt b', .flt c'] = some true := by
  simp only [lEq, sEq_flt h1, sEq_flt h2, sEq_flt h3]; rfl
theorem ne_tup3 {a b c a' b' c' : UInt64} (h1 : fEq a a' = true) (h2 : fEq b b' = true) (h3 : fEq c c' = true) : dNe (.tup [.flt a, .flt b, .flt c]) (.tup [.flt a', .flt b', .flt c']) = some (.bool false) := by
  show (match lEq [.flt a, .flt b, .flt c] [.flt a', .flt b', .flt c'] with | some b => some (D.bool (!b)) | none => none) = _
  rw [lEq3 h1 h2 h3]; rfl
theorem ne_list3 {a b c a' b' c' : UInt64} (h1 : fEq a a' = true) (h2 : fEq b b' = true) (h3 : fEq c c' = true) : dNe (.list [.flt a, .flt b, .flt c]) (.list [.flt a', .flt b', .flt c']) = some (.bool false) := by
  show (match dEqL [.flt a, .flt b, .flt c] [.flt a', .flt b', .flt c'] with | some b => some (D.bool (!b)) | none => none) = _
  unfold dEqL
  rw [if_pos (show [D.flt a, D.flt b, D.flt c].length = [D.flt a', D.flt b', D.flt c'].length from rfl), lEq3 h1 h2 h3]; rfl
theorem div_flt (a b : Nat) (ha : a ≤ 40) (hb : b = 4 ∨ b = 8 ∨ b = 32) : dDiv (.int (a : Int)) (.int (b : Int)) = some (.flt (fI a b)) := by
  have H : (List.range 41).all (fun a => !Float64.isInf (fI a 4) && !Float64.isInf (fI a 8) && !Float64.isInf (fI a 32)) = true := by decide +kernel
  have h := List.all_eq_true.mp H a (List.mem_range.mpr (by omega))
  simp only [Bool.and_eq_true, Bool.not_eq_true'] at h
  have hi : Float64.isInf (fI a b) = false := by
    rcases hb with rfl | rfl | rfl
    · exact h.1.1
    · exact h.1.2
    · exact h.2
  show (if (b : Int) ≠ 0 ∧ Float64.isInf (fI a b) = false then some (D.flt (fI a b)) else none) = _
  rw [if_pos ⟨by omega, hi⟩]
noncomputable def chkG (off lv : Nat) : Bool := match f1 [.flt (fI off 32), .flt 0, .flt (fI lv 4)] with
  | some (.tup [.flt a, .flt b, .flt c]) => fEq a (fI lv 4) && fEq b (fI lv 4) && fEq c (fI lv 4) && (match f0 [.flt a, .flt b, .flt c] with
    | some (.tup [.flt x, .flt y, .flt z]) => fEq x 0 && fEq y (fI lv 4) && fEq z 0
    | _ => false)
  | _ => false
theorem grey_all : (List.range 4).all (fun off => (List.range 5).all fun lv => chkG off lv) = true := by decide +kernel
theorem grey_ok (off lv : Nat) (ho : off < 4) (hl : lv < 5) : ∃ a b c x y z, f1 [.flt (fI off 32), .flt 0, .flt (fI lv 4)] = some (.tup [.flt a, .flt b, .flt c]) ∧ fEq a (fI lv 4) = true ∧ fEq b (fI lv 4) = true ∧ fEq c (fI lv 4) = true ∧
    f0 [.flt a, .flt b, .flt c] = some (.tup [.flt x, .flt y, .flt z]) ∧ fEq x 0 = true ∧ fEq y (fI lv 4) = true ∧ fEq z 0 = true := by
  have h := List.all_eq_true.mp (List.all_eq_true.mp grey_all off (List.mem_range.mpr ho)) lv (List.mem_range.mpr hl)
  unfold chkG at h
  split at h
  · rename_i a b c e
    simp only [Bool.and_eq_true] at h
    obtain ⟨⟨⟨h1, h2⟩, h3⟩, h4⟩ := h
    split at h4
    · rename_i x y z e2
      simp only [Bool.and_eq_true] at h4
      exact ⟨a, b, c, x, y, z, e, h1, h2, h3, e2, h4.1.1, h4.1.2, h4.2⟩
    · cases h4
  · cases h
theorem okSpot_inv {m off kind : Int} (h : okSpot m off kind = true) : ∃ r f a b c a' b' c' x y z x' y' z', keyF (hueF m off 0) = some (r, f) ∧ G r f (fI (1 + kind.fdiv 4) 4) (fI (1 + kind.fmod 4) 4) = some (.tup [.flt a, .flt b, .flt c]) ∧
    f9 [.int (m * 4 + off), .int (1 + kind.fmod 4), .int (1 + kind.fdiv 4)] = some (.list [.flt a', .flt b', .flt c']) ∧ (fEq a a' = true ∧ fEq b b' = true ∧ fEq c c' = true) ∧
    f0 [.flt a, .flt b, .flt c] = some (.tup [.flt x, .flt y, .flt z]) ∧ f10 [.int (m * 4 + off), .int (1 + kind.fmod 4), .int (1 + kind.fdiv 4)] = some (.tup [.flt x', .flt y', .flt z']) ∧ (fEq x x' = true ∧ fEq y y' = true ∧ fEq z z' = true) ∧
    dInt [.flt (Float64.mul x (Float64.ofInt 8))] = some (.int m) := by
  unfold okSpot at h
  split at h
  · rename_i r f e1
    split at h
    · rename_i a b c e2
      obtain ⟨h1, h2⟩ := Bool.and_eq_true_iff.mp h
      split at h1
      · rename_i a' b' c' e3
        split at h2
        · rename_i x y z x' y' z' e4 e5
          obtain ⟨h3, h4⟩ := Bool.and_eq_true_iff.mp h2
          split at h4
          · rename_i k e6
            simp only [Bool.and_eq_true] at h1 h3
            exact ⟨r, f, a, b, c, a', b', c', x, y, z, x', y', z', e1, e2, e3, ⟨h1.1.1, h1.1.2, h1.2⟩, e4, e5, ⟨h3.1.1, h3.1.2, h3.2⟩, by rw [e6, eq_of_beq h4]⟩
          · cases h4
        · cases h2
      · cases h1
    · cases h
  · cases h
theorem etup_of {g : List D → Option (List D)} {ds xs : List D} (h : g ds = some xs) (hl : xs.length ≤ 65536) : eTup g ds = some (.tup xs) := by
  unfold eTup; rw [h]; dsimp only; rw [if_pos hl]
section
variable {a0 a1 a2 a3 a4 a5 a6 a7 a8 a9 a10 a11 a12 a13 a14 a15 a16 a17 a18 a19 a20 a21 a22 a23 a24 a25 a26 a27 a28 : D}
theorem bg_step (off lv : Nat) (ho : off < 4) (hl : lv < 5) : ∃ b16, BG ([a0, a1, a2, a3, a4, a5, a6, a7, a8, a9, a10, a11, a12, a13, .int (off : Int), .int (lv : Int), a16, a17, a18, a19, a20, a21, a22, a23, a24, a25, a26, a27, a28]) = some (.next, [a0, a1, a2, a3, a4, a5, a6, a7, a8, a9, a10, a11, a12, a13, .int (off : Int), .int (lv : Int), b16, a17, a18, a19, a20, a21, a22, a23, a24, a25, a26, a27, a28]) := by
  obtain ⟨a, b, c, x, y, z, e1, h1, h2, h3, e2, h4, h5, h6⟩ := grey_ok off lv ho hl
  refine ⟨.tup [.flt a, .flt b, .flt c], ?_⟩
  have hd4 := div_flt lv 4 (by omega) (.inl rfl)
  have hd32 := div_flt off 32 (by omega) (.inr (.inr rfl))
  have e16 : eCall f1 (lCons (eBin dDiv (eVar 14) (fun _ => some (.int 32))) (lCons (fun _ => some (.flt 0)) (lCons (eBin dDiv (eVar 15) (fun _ => some (.int 4))) lNil))) ([a0, a1, a2, a3, a4, a5, a6, a7, a8, a9, a10, a11, a12, a13, .int (off : Int), .int (lv : Int), a16, a17, a18, a19, a20, a21, a22, a23, a24, a25, a26, a27, a28]) = some (.tup [.flt a, .flt b, .flt c]) :=
    call_of (lcons_of (bin_of rfl rfl hd32) (lcons_of rfl (lcons_of (bin_of rfl rfl hd4) rfl))) e1
  refine (seq_of (asg_of e16)).trans ?_
  show sSeq _ _ ([a0, a1, a2, a3, a4, a5, a6, a7, a8, a9, a10, a11, a12, a13, .int (off : Int), .int (lv : Int), .tup [.flt a, .flt b, .flt c], a17, a18, a19, a20, a21, a22, a23, a24, a25, a26, a27, a28]) = _
  have hd : eBin dDiv (eVar 15) (fun _ => some (.int 4)) ([a0, a1, a2, a3, a4, a5, a6, a7, a8, a9, a10, a11, a12, a13, .int (off : Int), .int (lv : Int), .tup [.flt a, .flt b, .flt c], a17, a18, a19, a20, a21, a22, a23, a24, a25, a26, a27, a28]) = some (.flt (fI lv 4)) := bin_of rfl rfl hd4
  have et : eTup (lCons (eBin dDiv (eVar 15) (fun _ => some (.int 4))) (lCons (eBin dDiv (eVar 15) (fun _ => some (.int 4))) (lCons (eBin dDiv (eVar 15) (fun _ => some (.int 4))) lNil))) ([a0, a1, a2, a3, a4, a5, a6, a7, a8, a9, a10, a11, a12, a13, .int (off : Int), .int (lv : Int), .tup [.flt a, .flt b, .flt c], a17, a18, a19, a20, a21, a22, a23, a24, a25, a26, a27, a28]) = some (.tup [.flt (fI lv 4), .flt (fI lv 4), .flt (fI lv 4)]) :=
    etup_of (lcons_of hd (lcons_of hd (lcons_of hd rfl))) (show 3 ≤ 65536 by decide)
  refine (seq_of (if_skip (tof_of (bin_of rfl et (ne_tup3 h1 h2 h3)) rfl))).trans ?_
  have et2 : eTup (lCons (fun _ => some (.flt 0)) (lCons (eBin dDiv (eVar 15) (fun _ => some (.int 4))) (lCons (fun _ => some (.flt 0)) lNil))) ([a0, a1, a2, a3, a4, a5, a6, a7, a8, a9, a10, a11, a12, a13, .int (off : Int), .int (lv : Int), .tup [.flt a, .flt b, .flt c], a17, a18, a19, a20, a21, a22, a23, a24, a25, a26, a27, a28]) = some (.tup [.flt 0, .flt (fI lv 4), .flt 0]) :=
    etup_of (lcons_of rfl (lcons_of hd (lcons_of rfl rfl))) (show 3 ≤ 65536 by decide)
  have e0 : eCall f0 (lCons (eBin dIdx (eVar 16) (fun _ => some (.int 0))) (lCons (eBin dIdx (eVar 16) (fun _ => some (.int 1))) (lCons (eBin dIdx (eVar 16) (fun _ => some (.int 2))) lNil))) ([a0, a1, a2, a3, a4, a5, a6, a7, a8, a9, a10, a11, a12, a13, .int (off : Int), .int (lv : Int), .tup [.flt a, .flt b, .flt c], a17, a18, a19, a20, a21, a22, a23, a24, a25, a26, a27, a28]) = some (.tup [.flt x, .flt y, .flt z]) :=
    call_of (xs := [.flt a, .flt b, .flt c]) rfl e2
  exact (seq_of (if_skip (tof_of (bin_of e0 et2 (ne_tup3 h4 h5 h6)) rfl))).trans rfl
end
end Mine
namespace Mine
open PySem PySem.Calls PyProof.Rows PyProof.V

theorem pow16 (l : Nat) (h : l < 8) : ∃ b : Int, dPow (.int 16) (.int (l : Int)) = some (.int b) ∧ b ≠ 0 ∧ b.natAbs < 1073741824 := by
  match l, h with
  | 0, _ => exact ⟨1, by kernel_rfl, by decide, by decide⟩
  | 1, _ => exact ⟨16, by kernel_rfl, by decide, by decide⟩
  | 2, _ => exact ⟨256, by kernel_rfl, by decide, by decide⟩
  | 3, _ => exact ⟨4096, by kernel_rfl, by decide, by decide⟩
  | 4, _ => exact ⟨65536, by kernel_rfl, by decide, by decide⟩
  | 5, _ => exact ⟨1048576, by kernel_rfl, by decide, by decide⟩
  | 6, _ => exact ⟨16777216, by kernel_rfl, by decide, by decide⟩
  | 7, _ => exact ⟨268435456, by kernel_rfl, by decide, by decide⟩
theorem fits_small (n : Nat) (h : n ≤ 8) : fits (n : Int) = true := by
  have H : (List.range 9).all (fun n => fits (n : Int)) = true := by decide +kernel
  exact List.all_eq_true.mp H n (List.mem_range.mpr (by omega))
theorem dList_tup {xs : List D} (h : xs.length ≤ 65536) : dList [.tup xs] = some (.list xs) := by
  show (if xs.length ≤ 65536 then some (D.list xs) else none) = _
  rw [if_pos h]
section
variable {a0 a1 a2 a3 a4 a5 a6 a7 a8 a9 a10 a11 a12 a13 a14 a15 a16 a17 a18 a19 a20 a21 a22 a23 a24 a25 a26 a27 a28 : D}
theorem bl_step (h0 h1 h2 : Int) (off tn lamp : Nat) (TT : List D) (ho : off < 4) (ht : tn ≤ 9) (hl : lamp < 8) (hT : TT.length ≤ 100) : ∃ b23 b24 b25 b26 b27,
    BL ([a0, HP h0 h1 h2, a2, a3, a4, a5, a6, a7, a8, a9, a10, a11, a12, a13, .int (off : Int), a15, a16, .int (tn : Int), a18, a19, a20, .own TT, .int (lamp : Int), a23, a24, a25, a26, a27, a28]) = some (.next, [a0, HP h0 h1 h2, a2, a3, a4, a5, a6, a7, a8, a9, a10, a11, a12, a13, .int (off : Int), a15, a16, .int (tn : Int), a18, a19, a20, .own (TT ++ [.int (((lamp + tn) % 8 : Nat) : Int)]), .int (lamp : Int), b23, b24, b25, b26, b27, a28]) := by
  obtain ⟨pw, hp1, hp2, hp3⟩ := pow16 lamp hl
  have hkd := fmod_pos (h2.fdiv pw) 16 (by decide)
  have hwh := fmod_pos (h1.fdiv 324) 3 (by decide)
  have hm8 : (lamp + tn) % 8 < 8 := Nat.mod_lt _ (by decide)
  -- kind, spot
  have e23 : (eBin dMod (eBin dFloorDiv (eBin dIdx (eVar 1) (fun _ => some (.int 2))) (eBin dPow (fun _ => some (.int 16)) (eVar 22))) (fun _ => some (.int 16))) ([a0, HP h0 h1 h2, a2, a3, a4, a5, a6, a7, a8, a9, a10, a11, a12, a13, .int (off : Int), a15, a16, .int (tn : Int), a18, a19, a20, .own TT, .int (lamp : Int), a23, a24, a25, a26, a27, a28]) = some (.int (((h2.fdiv pw).fmod 16).toNat : Nat)) := by
    refine bin_of (bin_of (x := .int h2) (y := .int pw) rfl (bin_of rfl rfl hp1) ?_) rfl (dMod_int (h2.fdiv pw) 16 (by decide))
    show (if pw ≠ 0 ∧ pw.natAbs < 1073741824 then some (D.int (h2.fdiv pw)) else none) = _
    rw [if_pos ⟨hp2, hp3⟩]
  have hk := hkd.2
  have hw := hwh.2
  generalize hkk : ((h2.fdiv pw).fmod 16).toNat = kind at e23
  have hk : kind < 16 := by rw [← hkk]; exact hk
  have hok := okSpots ((lamp + tn) % 8) off kind hm8 ho hk
  obtain ⟨r, f, a, b, c, a', b', c', x, y, z, x', y', z', k1, k2, k3, ⟨k4, k5, k6⟩, k7, k8, ⟨k9, k10, k11⟩, k12⟩ := okSpot_inv hok
  have hkey := keys_ok (lamp + tn) off (((h1.fdiv 324).fmod 3).toNat) (by omega) ho hw
  rw [k1] at hkey
  have hf1 := f1_key hkey k2
  have q1 : (kind : Int).fdiv 4 = ((kind / 4 : Nat) : Int) := fdiv_nat kind 4
  have q2 : (kind : Int).fmod 4 = ((kind % 4 : Nat) : Int) := fmod_nat kind 4
  rw [q1, q2] at hf1 k3 k8
  refine ⟨.int (kind : Int), .int (((lamp + tn) % 8 : Nat) * 4 + (off : Int)), .flt (hueF (lamp + tn : Nat) off (((h1.fdiv 324).fmod 3).toNat : Nat)), .tup [.flt a, .flt b, .flt c], .tup [.flt x, .flt y, .flt z], ?_⟩
  refine (seq_of (asg_of e23)).trans ?_
  show sSeq _ _ ([a0, HP h0 h1 h2, a2, a3, a4, a5, a6, a7, a8, a9, a10, a11, a12, a13, .int (off : Int), a15, a16, .int (tn : Int), a18, a19, a20, .own TT, .int (lamp : Int), .int (kind : Int), a24, a25, a26, a27, a28]) = _
  have e24 : (eBin dAdd (eBin dMul (eBin dMod (eBin dAdd (eVar 22) (eVar 17)) (fun _ => some (.int 8))) (fun _ => some (.int 4))) (eVar 14)) ([a0, HP h0 h1 h2, a2, a3, a4, a5, a6, a7, a8, a9, a10, a11, a12, a13, .int (off : Int), a15, a16, .int (tn : Int), a18, a19, a20, .own TT, .int (lamp : Int), .int (kind : Int), a24, a25, a26, a27, a28]) = some (.int (((lamp + tn) % 8 : Nat) * 4 + (off : Int))) := by
    refine bin_of (x := .int (((lamp + tn) % 8 : Nat) * 4)) (y := .int (off : Int)) (bin_of (x := .int (((lamp + tn) % 8 : Nat) : Int)) (y := .int 4) (bin_of (x := .int ((lamp + tn : Nat) : Int)) (y := .int 8) (bin_of rfl rfl rfl) rfl (mod_nat (lamp + tn) 8 (by decide))) rfl ?_) rfl rfl
    show (if (((lamp + tn) % 8 : Nat) : Int).natAbs < 2 ^ 60 then some (D.int ((((lamp + tn) % 8 : Nat) : Int) * 4)) else none) = _
    rw [if_pos (by omega)]
  refine (seq_of (asg_of e24)).trans ?_
  show sSeq _ _ ([a0, HP h0 h1 h2, a2, a3, a4, a5, a6, a7, a8, a9, a10, a11, a12, a13, .int (off : Int), a15, a16, .int (tn : Int), a18, a19, a20, .own TT, .int (lamp : Int), .int (kind : Int), .int (((lamp + tn) % 8 : Nat) * 4 + (off : Int)), a25, a26, a27, a28]) = _
  have e25 : (eBin dAdd (eBin dAdd (eBin dDiv (eBin dAdd (eVar 22) (eVar 17)) (fun _ => some (.int 8))) (eBin dDiv (eVar 14) (fun _ => some (.int 32)))) (eBin dMod (eBin dFloorDiv (eBin dIdx (eVar 1) (fun _ => some (.int 1))) (fun _ => some (.int 324))) (fun _ => some (.int 3)))) ([a0, HP h0 h1 h2, a2, a3, a4, a5, a6, a7, a8, a9, a10, a11, a12, a13, .int (off : Int), a15, a16, .int (tn : Int), a18, a19, a20, .own TT, .int (lamp : Int), .int (kind : Int), .int (((lamp + tn) % 8 : Nat) * 4 + (off : Int)), a25, a26, a27, a28]) = some (.flt (hueF (lamp + tn : Nat) off (((h1.fdiv 324).fmod 3).toNat : Nat))) := by
    refine bin_of (x := .flt (Float64.add (fI (lamp + tn : Nat) 8) (fI off 32))) (y := .int (((h1.fdiv 324).fmod 3).toNat : Nat)) (bin_of (bin_of (x := .int ((lamp + tn : Nat) : Int)) (y := .int 8) (bin_of rfl rfl rfl) rfl (div_flt (lamp + tn) 8 (by omega) (.inr (.inl rfl)))) (bin_of rfl rfl (div_flt off 32 (by omega) (.inr (.inr rfl)))) rfl) (bin_of (bin_of (x := .int h1) (y := .int 324) rfl rfl ?_) rfl (dMod_int (h1.fdiv 324) 3 (by decide))) ?_
    · show (if (324 : Int) ≠ 0 ∧ (324 : Int).natAbs < 1073741824 then some (D.int (h1.fdiv 324)) else none) = _
      rw [if_pos (by decide)]
    · show (if fits ((((h1.fdiv 324).fmod 3).toNat : Nat) : Int) then some (D.flt (Float64.add (Float64.add (fI (lamp + tn : Nat) 8) (fI off 32)) (Float64.ofInt ((((h1.fdiv 324).fmod 3).toNat : Nat) : Int)))) else none) = _
      rw [if_pos (fits_small _ (Nat.le_trans (Nat.le_of_lt (show ((h1.fdiv 324).fmod 3).toNat < 3 from hw)) (by decide)))]; rfl
  refine (seq_of (asg_of e25)).trans ?_
  show sSeq _ _ ([a0, HP h0 h1 h2, a2, a3, a4, a5, a6, a7, a8, a9, a10, a11, a12, a13, .int (off : Int), a15, a16, .int (tn : Int), a18, a19, a20, .own TT, .int (lamp : Int), .int (kind : Int), .int (((lamp + tn) % 8 : Nat) * 4 + (off : Int)), .flt (hueF (lamp + tn : Nat) off (((h1.fdiv 324).fmod 3).toNat : Nat)), a26, a27, a28]) = _
  have hk4 : kind / 4 < 4 := by omega
  have hk4' : kind % 4 < 4 := Nat.mod_lt _ (by decide)
  have es : ∀ ds : List D, eVar 23 ds = some (.int (kind : Int)) → eBin dAdd (fun _ => some (.int 1)) (eBin dFloorDiv (eVar 23) (fun _ => some (.int 4))) ds = some (.int (1 + ((kind / 4 : Nat) : Int))) := fun ds h => bin_of rfl (bin_of h rfl (div_nat kind 4 (by decide) (by decide))) rfl
  have ev : ∀ ds : List D, eVar 23 ds = some (.int (kind : Int)) → eBin dAdd (fun _ => some (.int 1)) (eBin dMod (eVar 23) (fun _ => some (.int 4))) ds = some (.int (1 + ((kind % 4 : Nat) : Int))) := fun ds h => bin_of rfl (bin_of h rfl (mod_nat kind 4 (by decide))) rfl
  have c1 : (1 + ((kind / 4 : Nat) : Int)) = ((1 + kind / 4 : Nat) : Int) := by omega
  have c2 : (1 + ((kind % 4 : Nat) : Int)) = ((1 + kind % 4 : Nat) : Int) := by omega
  have ds1 : dDiv (.int (1 + ((kind / 4 : Nat) : Int))) (.int 4) = some (.flt (fI (1 + ((kind / 4 : Nat) : Int)) 4)) := by rw [c1]; exact div_flt (1 + kind / 4) 4 (by omega) (.inl rfl)
  have dv1 : dDiv (.int (1 + ((kind % 4 : Nat) : Int))) (.int 4) = some (.flt (fI (1 + ((kind % 4 : Nat) : Int)) 4)) := by rw [c2]; exact div_flt (1 + kind % 4) 4 (by omega) (.inl rfl)
  have e26 : (eCall f1 (lCons (eVar 25) (lCons (eBin dDiv (eBin dAdd (fun _ => some (.int 1)) (eBin dFloorDiv (eVar 23) (fun _ => some (.int 4)))) (fun _ => some (.int 4))) (lCons (eBin dDiv (eBin dAdd (fun _ => some (.int 1)) (eBin dMod (eVar 23) (fun _ => some (.int 4)))) (fun _ => some (.int 4))) lNil)))) ([a0, HP h0 h1 h2, a2, a3, a4, a5, a6, a7, a8, a9, a10, a11, a12, a13, .int (off : Int), a15, a16, .int (tn : Int), a18, a19, a20, .own TT, .int (lamp : Int), .int (kind : Int), .int (((lamp + tn) % 8 : Nat) * 4 + (off : Int)), .flt (hueF (lamp + tn : Nat) off (((h1.fdiv 324).fmod 3).toNat : Nat)), a26, a27, a28]) = some (.tup [.flt a, .flt b, .flt c]) :=
    call_of (lcons_of rfl (lcons_of (bin_of (es _ rfl) rfl ds1) (lcons_of (bin_of (ev _ rfl) rfl dv1) rfl))) hf1
  refine (seq_of (asg_of e26)).trans ?_
  show sSeq _ _ ([a0, HP h0 h1 h2, a2, a3, a4, a5, a6, a7, a8, a9, a10, a11, a12, a13, .int (off : Int), a15, a16, .int (tn : Int), a18, a19, a20, .own TT, .int (lamp : Int), .int (kind : Int), .int (((lamp + tn) % 8 : Nat) * 4 + (off : Int)), .flt (hueF (lamp + tn : Nat) off (((h1.fdiv 324).fmod 3).toNat : Nat)), .tup [.flt a, .flt b, .flt c], a27, a28]) = _
  have e9 : (eCall f9 (lCons (eVar 24) (lCons (eBin dAdd (fun _ => some (.int 1)) (eBin dMod (eVar 23) (fun _ => some (.int 4)))) (lCons (eBin dAdd (fun _ => some (.int 1)) (eBin dFloorDiv (eVar 23) (fun _ => some (.int 4)))) lNil)))) ([a0, HP h0 h1 h2, a2, a3, a4, a5, a6, a7, a8, a9, a10, a11, a12, a13, .int (off : Int), a15, a16, .int (tn : Int), a18, a19, a20, .own TT, .int (lamp : Int), .int (kind : Int), .int (((lamp + tn) % 8 : Nat) * 4 + (off : Int)), .flt (hueF (lamp + tn : Nat) off (((h1.fdiv 324).fmod 3).toNat : Nat)), .tup [.flt a, .flt b, .flt c], a27, a28]) = some (.list [.flt a', .flt b', .flt c']) :=
    call_of (lcons_of rfl (lcons_of (ev _ rfl) (lcons_of (es _ rfl) rfl))) k3
  have el : eCall dList (lCons (eVar 26) lNil) ([a0, HP h0 h1 h2, a2, a3, a4, a5, a6, a7, a8, a9, a10, a11, a12, a13, .int (off : Int), a15, a16, .int (tn : Int), a18, a19, a20, .own TT, .int (lamp : Int), .int (kind : Int), .int (((lamp + tn) % 8 : Nat) * 4 + (off : Int)), .flt (hueF (lamp + tn : Nat) off (((h1.fdiv 324).fmod 3).toNat : Nat)), .tup [.flt a, .flt b, .flt c], a27, a28]) = some (.list [.flt a, .flt b, .flt c]) := call_of (xs := [.tup [.flt a, .flt b, .flt c]]) rfl (dList_tup (show 3 ≤ 65536 by decide))
  refine (seq_of (if_skip (tof_of (bin_of el e9 (ne_list3 k4 k5 k6)) rfl))).trans ?_
  have e27 : (eCall f0 (lCons (eBin dIdx (eVar 26) (fun _ => some (.int 0))) (lCons (eBin dIdx (eVar 26) (fun _ => some (.int 1))) (lCons (eBin dIdx (eVar 26) (fun _ => some (.int 2))) lNil)))) ([a0, HP h0 h1 h2, a2, a3, a4, a5, a6, a7, a8, a9, a10, a11, a12, a13, .int (off : Int), a15, a16, .int (tn : Int), a18, a19, a20, .own TT, .int (lamp : Int), .int (kind : Int), .int (((lamp + tn) % 8 : Nat) * 4 + (off : Int)), .flt (hueF (lamp + tn : Nat) off (((h1.fdiv 324).fmod 3).toNat : Nat)), .tup [.flt a, .flt b, .flt c], a27, a28]) = some (.tup [.flt x, .flt y, .flt z]) :=
    call_of (xs := [.flt a, .flt b, .flt c]) rfl k7
  refine (seq_of (asg_of e27)).trans ?_
  show sSeq _ _ ([a0, HP h0 h1 h2, a2, a3, a4, a5, a6, a7, a8, a9, a10, a11, a12, a13, .int (off : Int), a15, a16, .int (tn : Int), a18, a19, a20, .own TT, .int (lamp : Int), .int (kind : Int), .int (((lamp + tn) % 8 : Nat) * 4 + (off : Int)), .flt (hueF (lamp + tn : Nat) off (((h1.fdiv 324).fmod 3).toNat : Nat)), .tup [.flt a, .flt b, .flt c], .tup [.flt x, .flt y, .flt z], a28]) = _
  have e10 : (eCall f10 (lCons (eVar 24) (lCons (eBin dAdd (fun _ => some (.int 1)) (eBin dMod (eVar 23) (fun _ => some (.int 4)))) (lCons (eBin dAdd (fun _ => some (.int 1)) (eBin dFloorDiv (eVar 23) (fun _ => some (.int 4)))) lNil)))) ([a0, HP h0 h1 h2, a2, a3, a4, a5, a6, a7, a8, a9, a10, a11, a12, a13, .int (off : Int), a15, a16, .int (tn : Int), a18, a19, a20, .own TT, .int (lamp : Int), .int (kind : Int), .int (((lamp + tn) % 8 : Nat) * 4 + (off : Int)), .flt (hueF (lamp + tn : Nat) off (((h1.fdiv 324).fmod 3).toNat : Nat)), .tup [.flt a, .flt b, .flt c], .tup [.flt x, .flt y, .flt z], a28]) = some (.tup [.flt x', .flt y', .flt z']) :=
    call_of (lcons_of rfl (lcons_of (ev _ rfl) (lcons_of (es _ rfl) rfl))) k8
  refine (seq_of (if_skip (tof_of (bin_of rfl e10 (ne_tup3 k9 k10 k11)) rfl))).trans ?_
  have ea : eCall dInt (lCons (eBin dMul (eBin dIdx (eVar 27) (fun _ => some (.int 0))) (fun _ => some (.int 8))) lNil) ([a0, HP h0 h1 h2, a2, a3, a4, a5, a6, a7, a8, a9, a10, a11, a12, a13, .int (off : Int), a15, a16, .int (tn : Int), a18, a19, a20, .own TT, .int (lamp : Int), .int (kind : Int), .int (((lamp + tn) % 8 : Nat) * 4 + (off : Int)), .flt (hueF (lamp + tn : Nat) off (((h1.fdiv 324).fmod 3).toNat : Nat)), .tup [.flt a, .flt b, .flt c], .tup [.flt x, .flt y, .flt z], a28]) = some (.int (((lamp + tn) % 8 : Nat) : Int)) := by
    refine call_of (xs := [.flt (Float64.mul x (Float64.ofInt 8))]) (lcons_of (bin_of (x := .flt x) (y := .int 8) rfl rfl ?_) rfl) k12
    show (if fits 8 then some (D.flt (Float64.mul x (Float64.ofInt 8))) else none) = _
    rw [if_pos (show fits 8 = true from fits_small 8 (by decide))]
  exact (seq_of (append_of ea rfl (by omega))).trans rfl
theorem loopL (h0 h1 h2 : Int) (off tn : Nat) (ho : off < 4) (ht : tn ≤ 9) : ∀ (lamps : List Nat) (TT : List D) (b22 b23 b24 b25 b26 b27 : D), (∀ l ∈ lamps, l < 8) → TT.length + lamps.length ≤ 50 → ∃ c22 c23 c24 c25 c26 c27,
    forD (setK 22) BL (lamps.map fun (l : Nat) => D.int (l : Int)) ([a0, HP h0 h1 h2, a2, a3, a4, a5, a6, a7, a8, a9, a10, a11, a12, a13, .int (off : Int), a15, a16, .int (tn : Int), a18, a19, a20, .own TT, b22, b23, b24, b25, b26, b27, a28]) = some (.next, [a0, HP h0 h1 h2, a2, a3, a4, a5, a6, a7, a8, a9, a10, a11, a12, a13, .int (off : Int), a15, a16, .int (tn : Int), a18, a19, a20, .own (TT ++ lamps.map fun (l : Nat) => D.int (((l + tn) % 8 : Nat) : Int)), c22, c23, c24, c25, c26, c27, a28])
  | [], TT, b22, b23, b24, b25, b26, b27, _, _ => ⟨b22, b23, b24, b25, b26, b27, by simp [forD]⟩
  | l :: lamps, TT, b22, b23, b24, b25, b26, b27, hl, hz => by
    rw [List.length_cons] at hz
    obtain ⟨d23, d24, d25, d26, d27, e⟩ := bl_step (a0 := a0) (a2 := a2) (a3 := a3) (a4 := a4) (a5 := a5) (a6 := a6) (a7 := a7) (a8 := a8) (a9 := a9) (a10 := a10) (a11 := a11) (a12 := a12) (a13 := a13) (a15 := a15) (a16 := a16) (a18 := a18) (a19 := a19) (a20 := a20) (a23 := b23) (a24 := b24) (a25 := b25) (a26 := b26) (a27 := b27) (a28 := a28) h0 h1 h2 off tn l TT ho ht (hl l List.mem_cons_self) (by omega)
    obtain ⟨c22, c23, c24, c25, c26, c27, ih⟩ := loopL h0 h1 h2 off tn ho ht lamps (TT ++ [.int (((l + tn) % 8 : Nat) : Int)]) (.int (l : Int)) d23 d24 d25 d26 d27 (fun m hm => hl m (List.mem_cons_of_mem _ hm)) (by simp; omega)
    refine ⟨c22, c23, c24, c25, c26, c27, ?_⟩
    rw [List.map_cons, for_loop]
    show (match BL ([a0, HP h0 h1 h2, a2, a3, a4, a5, a6, a7, a8, a9, a10, a11, a12, a13, .int (off : Int), a15, a16, .int (tn : Int), a18, a19, a20, .own TT, .int (l : Int), b23, b24, b25, b26, b27, a28]) with
      | some (.next, ds2) => forD (setK 22) BL (lamps.map fun (l : Nat) => D.int (l : Int)) ds2
      | r => r) = _
    rw [e]
    refine Eq.trans ih ?_
    rw [List.append_assoc, List.map_cons]; rfl
end
end Mine
namespace Mine
open PySem PySem.Calls PyProof.Rows PyProof.V

noncomputable abbrev R8 : List Nat := List.range' 0 8
/-! the sum of the bits -/
theorem bits_sum (q : Nat → Bool) : ((R8.filter q).map fun l => 2 ^ l).sum < 256 ∧ BITS ((R8.filter q).map fun l => 2 ^ l).sum = R8.filter q := by
  have H : ∀ b0 b1 b2 b3 b4 b5 b6 b7 : Bool, (let L := R8.filter fun l => [b0, b1, b2, b3, b4, b5, b6, b7].getD l false; decide ((L.map fun l => 2 ^ l).sum < 256) && (BITS ((L.map fun l => 2 ^ l).sum) == L)) = true := by decide +kernel
  have h := H (q 0) (q 1) (q 2) (q 3) (q 4) (q 5) (q 6) (q 7)
  have e : (R8.filter fun l => [q 0, q 1, q 2, q 3, q 4, q 5, q 6, q 7].getD l false) = R8.filter q := by
    apply List.filter_congr
    intro l hl
    have hl8 : l < 8 := by simp [List.mem_range'] at hl; omega
    match l, hl8 with
    | 0, _ => rfl
    | 1, _ => rfl
    | 2, _ => rfl
    | 3, _ => rfl
    | 4, _ => rfl
    | 5, _ => rfl
    | 6, _ => rfl
    | 7, _ => rfl
  simp only [e, Bool.and_eq_true, decide_eq_true_eq, beq_iff_eq] at h
  exact h
theorem in_ints (z : Int) (L : List Int) : dIn (.int z) (.list (L.map D.int)) = some (.bool (L.any (· == z))) := by
  have H : ∀ l : List Int, dInAll (.int z) (l.map D.int) = some (l.any (· == z)) := by
    intro l
    induction l with
    | nil => rfl
    | cons y l ih =>
      rw [List.map_cons, List.any_cons]
      show (match some (y == z) with | some b => (match dInAll (.int z) (l.map D.int) with | some c => some (b || c) | none => none) | none => none) = _
      rw [ih]
  show (if dKey (.int z) = true then (match dInAll (.int z) (L.map D.int) with | some b => some (D.bool b) | none => none) else none) = _
  rw [if_pos (show dKey (.int z) = true from rfl), H]
theorem notin_ints (z : Int) (L : List Int) : dNotIn (.int z) (.list (L.map D.int)) = some (.bool (!L.any (· == z))) := by
  have H := in_ints z L
  show (if dKey (.int z) = true then (match dInAll (.int z) (L.map D.int) with | some b => some (D.bool (!b)) | none => none) else none) = _
  have H' : (if dKey (.int z) = true then (match dInAll (.int z) (L.map D.int) with | some b => some (D.bool b) | none => none) else none) = some (D.bool (L.any (· == z))) := H
  rw [if_pos (show dKey (.int z) = true from rfl)] at H' ⊢
  cases e : dInAll (.int z) (L.map D.int) with
  | none => rw [e] at H'; cases H'
  | some b => rw [e] at H'; simp only [Option.some.injEq, D.bool.injEq] at H' ⊢; rw [H']
theorem pow_two (l : Nat) (h : l < 8) : dPow (.int 2) (.int (l : Int)) = some (.int ((2 ^ l : Nat) : Int)) := by
  match l, h with
  | 0, _ => kernel_rfl
  | 1, _ => kernel_rfl
  | 2, _ => kernel_rfl
  | 3, _ => kernel_rfl
  | 4, _ => kernel_rfl
  | 5, _ => kernel_rfl
  | 6, _ => kernel_rfl
  | 7, _ => kernel_rfl
theorem intsOf_map : ∀ L : List Int, intsOf (L.map D.int) = some L
  | [] => rfl
  | y :: L => by simp only [List.map_cons, intsOf, intsOf_map L]
theorem sum_cast : ∀ L : List Nat, (L.map fun n => ((n : Nat) : Int)).sum = ((L.sum : Nat) : Int)
  | [] => rfl
  | y :: L => by rw [List.map_cons, List.sum_cons, sum_cast L, List.sum_cons]; omega
theorem dSum_nat (L : List Nat) (h : ∀ n ∈ L, n < 65536) (hl : L.length ≤ 100) : dSum [.list (L.map fun (n : Nat) => D.int (n : Int))] = some (.int ((L.sum : Nat) : Int)) := by
  have e : (L.map fun n => D.int ((n : Nat) : Int)) = (L.map fun n => ((n : Nat) : Int)).map D.int := by rw [List.map_map]; rfl
  show (match intsOf (L.map fun n => D.int ((n : Nat) : Int)) with
    | some ns => if ns.all (fun n => decide (0 ≤ n ∧ n < 65536)) ∧ ns.length ≤ 65536 then some (D.int ns.sum) else none
    | none => none) = _
  rw [e, intsOf_map]
  dsimp only
  have hall : ((L.map fun n => ((n : Nat) : Int)).all fun n => decide (0 ≤ n ∧ n < 65536)) = true := by
    rw [List.all_eq_true]
    intro x hx
    obtain ⟨n, hn, rfl⟩ := List.mem_map.mp hx
    have := h n hn
    simp; omega
  rw [if_pos ⟨hall, by rw [List.length_map]; omega⟩, sum_cast]
theorem lshift_nat (s c : Nat) (hs : s < 26) (hc : c < 256) : dLShift (.int (c : Int)) (.int (s : Int)) = some (.int ((2 ^ s * c : Nat) : Int)) := by
  have hb : (Builtin.Int.intBits (c : Int) : Int) ≤ 64 := by
    have := bits_small (a := (c : Int)) (by omega)
    omega
  show (if 0 ≤ (s : Int) ∧ (Builtin.Int.intBits (c : Int) : Int) + s ≤ 2 ^ 27 then some (D.int ((c : Int) * 2 ^ (s : Int).toNat)) else none) = _
  rw [if_pos ⟨by omega, by omega⟩, Int.toNat_natCast]
  congr 2
  rw [Int.natCast_mul, Int.mul_comm]; congr 1
theorem words_zero (s c : Nat) (hs : s < 26) (hc : c < 256) : (S (Wof s c) == ("0x0" : Str)) = decide (c = 0) := by
  have hz : ("0x0" : Str) = S z0 := by decide +kernel
  rw [hz, Bool.eq_iff_iff, beq_iff_eq, decide_eq_true_eq]
  constructor
  · intro h
    have hW := S_inj h
    refine Classical.byContradiction fun h0 => ?_
    have h1 := W_split_count hs hc
    rw [hW] at h1
    have h2 : Txt.split (S z0) ", " = [S z0] := by decide +kernel
    rw [h2] at h1
    unfold nsOf at h1
    rw [if_neg h0, List.map_map] at h1
    have hne : bl 8 s c ≠ [] := fun e => h0 ((bl_nil s c hc).mp e)
    cases e : bl 8 s c with
    | nil => exact hne e
    | cons p ps =>
      rw [e, List.map_cons] at h1
      injection h1 with h3 _
      have hp := (bl_mem 8 s c p).mp (by rw [e]; exact List.mem_cons_self)
      have h4 : z0 = nm p := S_inj h3
      exact lwn_z0 (p := p) (by omega) (by unfold lwn; rw [← h4])
  · rintro rfl
    congr 1
theorem ns_count (s c : Nat) (hc : c < 256) (h0 : c ≠ 0) : (nsOf s c).length = (BITS c).length := by
  unfold nsOf
  rw [if_neg h0, List.length_map]
  have e : bl 8 s c = (bl 8 0 c).map (s + ·) := (bl_map s 8 0 c).symm
  have e2 := bl_filter 8 0 c
  rw [Nat.pow_zero, Nat.div_one] at e2
  rw [e, List.length_map, e2]; rfl
theorem bits_zero : BITS 0 = [] := by decide +kernel
/-- on which of A the turned of M fall -/
noncomputable def hit (tn : Nat) (M : List Nat) (l : Nat) : Bool := M.any fun m => (m + tn) % 8 == l
section
variable {a0 a1 a2 a3 a4 a5 a6 a7 a8 a9 a10 a11 a12 a13 a14 a15 a16 a17 a18 a19 a20 a21 a22 a23 a24 a25 a26 a27 a28 : D}
theorem bp_step (h0 h1 h2 : Int) (s off tn : Nat) (p : Nat → Bool) (M : List Nat) (CC : List D) (hs : s < 26) (ho : off < 4) (ht : tn ≤ 9) (hM : ∀ l ∈ M, l < 8) (hMl : M.length ≤ 8) (hC : CC.length ≤ 10) : ∃ b8 b21 b22 b23 b24 b25 b26 b27 b28,
    BP ([a0, HP h0 h1 h2, .int (s : Int), a3, a4, a5, a6, a7, a8, a9, a10, a11, a12, a13, .int (off : Int), a15, a16, .int (tn : Int), .own CC, .list ((R8.filter p).map fun (l : Nat) => D.int (l : Int)), .list (M.map fun (l : Nat) => D.int (l : Int)), a21, a22, a23, a24, a25, a26, a27, a28]) = some (.next, [a0, HP h0 h1 h2, .int (s : Int), a3, a4, a5, a6, a7, b8, a9, a10, a11, a12, a13, .int (off : Int), a15, a16, .int (tn : Int), .own (CC ++ [.int (((R8.filter fun l => p l && hit tn M l).length : Nat) : Int)]), .list ((R8.filter p).map fun (l : Nat) => D.int (l : Int)), .list (M.map fun (l : Nat) => D.int (l : Int)), b21, b22, b23, b24, b25, b26, b27, b28]) := by
  obtain ⟨c22, c23, c24, c25, c26, c27, hL⟩ := loopL (a0 := a0) (a2 := .int (s : Int)) (a3 := a3) (a4 := a4) (a5 := a5) (a6 := a6) (a7 := a7) (a8 := a8) (a9 := a9) (a10 := a10) (a11 := a11) (a12 := a12) (a13 := a13) (a15 := a15) (a16 := a16) (a18 := .own CC) (a19 := .list ((R8.filter p).map fun (l : Nat) => D.int (l : Int))) (a20 := .list (M.map fun (l : Nat) => D.int (l : Int))) (a28 := a28) h0 h1 h2 off tn ho ht M [] a22 a23 a24 a25 a26 a27 hM (by simp; omega)
  rw [List.nil_append] at hL
  obtain ⟨hc, hB⟩ := bits_sum fun l => p l && hit tn M l
  generalize hcc : ((R8.filter fun l => p l && hit tn M l).map fun l => 2 ^ l).sum = c at hc hB
  have hff : (R8.filter p).filter (hit tn M) = R8.filter fun l => p l && hit tn M l := by
    rw [List.filter_filter]
    congr 1
    funext l
    exact Bool.and_comm _ _
  refine ⟨.str (S (Wof s c)), .list (M.map fun (l : Nat) => D.int (((l + tn) % 8 : Nat) : Int)), c22, c23, c24, c25, c26, c27, .int (c : Int), ?_⟩
  refine (seq_of (ds1 := [a0, HP h0 h1 h2, .int (s : Int), a3, a4, a5, a6, a7, a8, a9, a10, a11, a12, a13, .int (off : Int), a15, a16, .int (tn : Int), .own CC, .list ((R8.filter p).map fun (l : Nat) => D.int (l : Int)), .list (M.map fun (l : Nat) => D.int (l : Int)), .own [], a22, a23, a24, a25, a26, a27, a28]) rfl).trans ?_
  have eF : (sFor (setK 22) (eVar 20) BL sNil) ([a0, HP h0 h1 h2, .int (s : Int), a3, a4, a5, a6, a7, a8, a9, a10, a11, a12, a13, .int (off : Int), a15, a16, .int (tn : Int), .own CC, .list ((R8.filter p).map fun (l : Nat) => D.int (l : Int)), .list (M.map fun (l : Nat) => D.int (l : Int)), .own [], a22, a23, a24, a25, a26, a27, a28]) = some (.next, [a0, HP h0 h1 h2, .int (s : Int), a3, a4, a5, a6, a7, a8, a9, a10, a11, a12, a13, .int (off : Int), a15, a16, .int (tn : Int), .own CC, .list ((R8.filter p).map fun (l : Nat) => D.int (l : Int)), .list (M.map fun (l : Nat) => D.int (l : Int)), .own (M.map fun (l : Nat) => D.int (((l + tn) % 8 : Nat) : Int)), c22, c23, c24, c25, c26, c27, a28]) := by
    rw [sFor_of (d := .list (M.map fun (l : Nat) => D.int (l : Int))) rfl rfl, hL]
  refine (seq_of eF).trans ?_
  refine (rel_own (xs := M.map fun (l : Nat) => D.int (((l + tn) % 8 : Nat) : Int)) rfl).trans ?_
  show sSeq _ _ ([a0, HP h0 h1 h2, .int (s : Int), a3, a4, a5, a6, a7, a8, a9, a10, a11, a12, a13, .int (off : Int), a15, a16, .int (tn : Int), .own CC, .list ((R8.filter p).map fun (l : Nat) => D.int (l : Int)), .list (M.map fun (l : Nat) => D.int (l : Int)), .list (M.map fun (l : Nat) => D.int (((l + tn) % 8 : Nat) : Int)), c22, c23, c24, c25, c26, c27, a28]) = _
  -- both
  have hcomp : compD [.list (M.map fun (l : Nat) => D.int (((l + tn) % 8 : Nat) : Int))] (tOf (eBin dIn (eVar 0) (eVar 1))) (eBin dPow (fun _ => some (.int 2)) (eVar 0)) ((R8.filter p).map fun (l : Nat) => D.int (l : Int)) = some (((R8.filter p).filter (hit tn M)).map fun l => D.int ((2 ^ l : Nat) : Int)) := by
    refine compD_eq (fun (l : Nat) => D.int (l : Int)) (hit tn M) (fun l => D.int ((2 ^ l : Nat) : Int)) _ fun l hl => ⟨?_, fun _ => ?_⟩
    · have e : (M.map fun (l : Nat) => D.int (((l + tn) % 8 : Nat) : Int)) = (M.map fun (l : Nat) => (((l + tn) % 8 : Nat) : Int)).map D.int := by rw [List.map_map]; rfl
      rw [e]
      refine tof_of (bin_of rfl rfl (in_ints _ _)) ?_
      show some _ = some _
      congr 1
      unfold hit
      rw [List.any_map]
      congr 1
      funext m
      rw [Bool.eq_iff_iff]
      simp only [Function.comp_apply, beq_iff_eq]
      omega
    · have hl8 : l < 8 := by
        have := (List.mem_filter.mp hl).1
        simp [List.mem_range'] at this; omega
      exact bin_of rfl rfl (pow_two l hl8)
  have hAl : (R8.filter p).length ≤ 8 := List.length_filter_le _ _
  have e28 : (eCall dSum (lCons (eComp [21] (eVar 19) (tOf (eBin dIn (eVar 0) (eVar 1))) (eBin dPow (fun _ => some (.int 2)) (eVar 0))) lNil)) ([a0, HP h0 h1 h2, .int (s : Int), a3, a4, a5, a6, a7, a8, a9, a10, a11, a12, a13, .int (off : Int), a15, a16, .int (tn : Int), .own CC, .list ((R8.filter p).map fun (l : Nat) => D.int (l : Int)), .list (M.map fun (l : Nat) => D.int (l : Int)), .list (M.map fun (l : Nat) => D.int (((l + tn) % 8 : Nat) : Int)), c22, c23, c24, c25, c26, c27, a28]) = some (.int (c : Int)) := by
    refine call_of (lcons_of (comp_of (d := .list ((R8.filter p).map fun (l : Nat) => D.int (l : Int))) (cap := [.list (M.map fun (l : Nat) => D.int (((l + tn) % 8 : Nat) : Int))]) rfl rfl (by rw [List.length_map]; omega) rfl hcomp) rfl) ?_
    rw [hff, ← hcc]
    have e : ((R8.filter fun l => p l && hit tn M l).map fun l => D.int ((2 ^ l : Nat) : Int)) = ((R8.filter fun l => p l && hit tn M l).map fun l => 2 ^ l).map fun n => D.int ((n : Nat) : Int) := by rw [List.map_map]; rfl
    rw [e]
    refine dSum_nat _ (fun n hn => ?_) (by rw [List.length_map]; exact Nat.le_trans (List.length_filter_le _ R8) (show R8.length ≤ 100 by decide))
    obtain ⟨l, hl, rfl⟩ := List.mem_map.mp hn
    have hl8 : l < 8 := by
      have := (List.mem_filter.mp hl).1
      simp [List.mem_range'] at this; omega
    calc 2 ^ l < 2 ^ 8 := Nat.pow_lt_pow_right (by decide) hl8
      _ < 65536 := by decide
  refine (seq_of (asg_of e28)).trans ?_
  show sSeq _ _ ([a0, HP h0 h1 h2, .int (s : Int), a3, a4, a5, a6, a7, a8, a9, a10, a11, a12, a13, .int (off : Int), a15, a16, .int (tn : Int), .own CC, .list ((R8.filter p).map fun (l : Nat) => D.int (l : Int)), .list (M.map fun (l : Nat) => D.int (l : Int)), .list (M.map fun (l : Nat) => D.int (((l + tn) % 8 : Nat) : Int)), c22, c23, c24, c25, c26, c27, .int (c : Int)]) = _
  have e8 : (eCall f2 (lCons (eBin dLShift (eVar 28) (eVar 2)) lNil)) ([a0, HP h0 h1 h2, .int (s : Int), a3, a4, a5, a6, a7, a8, a9, a10, a11, a12, a13, .int (off : Int), a15, a16, .int (tn : Int), .own CC, .list ((R8.filter p).map fun (l : Nat) => D.int (l : Int)), .list (M.map fun (l : Nat) => D.int (l : Int)), .list (M.map fun (l : Nat) => D.int (((l + tn) % 8 : Nat) : Int)), c22, c23, c24, c25, c26, c27, .int (c : Int)]) = some (.str (S (Wof s c))) := by
    refine call_of (lcons_of (bin_of rfl rfl (lshift_nat s c hs hc)) rfl) ?_
    rw [f2_ok s c hs hc, words_eq]
  refine (seq_of (asg_of e8)).trans ?_
  show sSeq _ _ ([a0, HP h0 h1 h2, .int (s : Int), a3, a4, a5, a6, a7, .str (S (Wof s c)), a9, a10, a11, a12, a13, .int (off : Int), a15, a16, .int (tn : Int), .own CC, .list ((R8.filter p).map fun (l : Nat) => D.int (l : Int)), .list (M.map fun (l : Nat) => D.int (l : Int)), .list (M.map fun (l : Nat) => D.int (((l + tn) % 8 : Nat) : Int)), c22, c23, c24, c25, c26, c27, .int (c : Int)]) = _
  have hlen : (R8.filter fun l => p l && hit tn M l).length = (BITS c).length := by rw [hB]
  have ec : (eIf (tOf (eBin dEq (eVar 8) (fun _ => some (.str "0x0")))) (fun _ => some (.int 0)) (eCall dLen (lCons (eCall dSplit (lCons (eVar 8) (lCons (fun _ => some (.str ", ")) lNil))) lNil))) ([a0, HP h0 h1 h2, .int (s : Int), a3, a4, a5, a6, a7, .str (S (Wof s c)), a9, a10, a11, a12, a13, .int (off : Int), a15, a16, .int (tn : Int), .own CC, .list ((R8.filter p).map fun (l : Nat) => D.int (l : Int)), .list (M.map fun (l : Nat) => D.int (l : Int)), .list (M.map fun (l : Nat) => D.int (((l + tn) % 8 : Nat) : Int)), c22, c23, c24, c25, c26, c27, .int (c : Int)]) = some (.int (((R8.filter fun l => p l && hit tn M l).length : Nat) : Int)) := by
    have et : tOf (eBin dEq (eVar 8) (fun _ => some (.str "0x0"))) ([a0, HP h0 h1 h2, .int (s : Int), a3, a4, a5, a6, a7, .str (S (Wof s c)), a9, a10, a11, a12, a13, .int (off : Int), a15, a16, .int (tn : Int), .own CC, .list ((R8.filter p).map fun (l : Nat) => D.int (l : Int)), .list (M.map fun (l : Nat) => D.int (l : Int)), .list (M.map fun (l : Nat) => D.int (((l + tn) % 8 : Nat) : Int)), c22, c23, c24, c25, c26, c27, .int (c : Int)]) = some (decide (c = 0)) := by
      refine tof_of (d := .bool (S (Wof s c) == ("0x0" : Str))) (bin_of rfl rfl rfl) ?_
      show some (S (Wof s c) == ("0x0" : Str)) = _
      rw [words_zero s c hs hc]
    unfold eIf
    rw [et, hlen]
    by_cases h0 : c = 0
    · rw [decide_eq_true h0, h0, bits_zero]; rfl
    · rw [decide_eq_false h0]
      have hsp := W_dsplit s c hs hc (W_len hs hc) (ns_len s c) (W_split_count hs hc)
      refine call_of (lcons_of (call_of (xs := [.str (S (Wof s c)), .str ", "]) rfl hsp) rfl) ?_
      show (if (((nsOf s c).map S).map D.str).length ≤ 65536 then some (D.int ((((nsOf s c).map S).map D.str).length : Nat)) else none) = _
      have hn := ns_len s c
      rw [List.length_map, List.length_map, if_pos (by omega), ns_count s c hc h0]
  exact (seq_of (append_of ec rfl (by omega))).trans rfl
end
end Mine
namespace Mine
open PySem PySem.Calls PyProof.Rows PyProof.V

theorem count_law (x y : Nat → Bool) : ∀ L : List Nat, (((L.filter fun l => x l && y l).length : Nat) : Int) - ((L.filter fun l => (!x l) && (!y l)).length : Nat) = ((L.filter x).length : Nat) + ((L.filter y).length : Nat) - (L.length : Nat)
  | [] => rfl
  | a :: L => by
    have ih := count_law x y L
    simp only [List.filter_cons, List.length_cons]
    cases x a <;> cases y a <;> simp <;> omega
theorem hit_eq (tn : Nat) (q : Nat → Bool) (l : Nat) (hl : l < 8) : hit tn (R8.filter q) l = q ((l + 8 - tn % 8) % 8) := by
  unfold hit
  rw [Bool.eq_iff_iff, List.any_eq_true]
  constructor
  · rintro ⟨m, hm, h⟩
    obtain ⟨h1, h2⟩ := List.mem_filter.mp hm
    have hm8 : m < 8 := by simp [List.mem_range'] at h1; omega
    have h3 : (m + tn) % 8 = l := by simpa using h
    have : (l + 8 - tn % 8) % 8 = m := by omega
    rw [this]; exact h2
  · intro h
    refine ⟨(l + 8 - tn % 8) % 8, List.mem_filter.mpr ⟨by simp [List.mem_range']; omega, h⟩, ?_⟩
    simp only [beq_iff_eq]; omega
theorem turn_perm (r : Nat) (hr : r < 8) : (R8.map fun l => (l + 8 - r) % 8).Perm R8 := by
  match r, hr with
  | 0, _ => decide +kernel
  | 1, _ => decide +kernel
  | 2, _ => decide +kernel
  | 3, _ => decide +kernel
  | 4, _ => decide +kernel
  | 5, _ => decide +kernel
  | 6, _ => decide +kernel
  | 7, _ => decide +kernel
theorem turn_count (tn : Nat) (q : Nat → Bool) : (R8.filter fun l => q ((l + 8 - tn % 8) % 8)).length = (R8.filter q).length := by
  have h := (turn_perm (tn % 8) (Nat.mod_lt _ (by decide))).countP_eq q
  rw [List.countP_map, List.countP_eq_length_filter, List.countP_eq_length_filter] at h
  exact h
/-- the count of the lit less that of the dark -/
theorem lamps_law (tn : Nat) (p q : Nat → Bool) : (((R8.filter fun l => p l && hit tn (R8.filter q) l).length : Nat) : Int) - ((R8.filter fun l => (!p l) && hit tn (R8.filter fun l => !q l) l).length : Nat) = ((R8.filter p).length : Nat) + ((R8.filter q).length : Nat) - 8 := by
  have hl8 : ∀ l ∈ R8, l < 8 := fun l hl => by simp [List.mem_range'] at hl; omega
  have e1 : (R8.filter fun l => p l && hit tn (R8.filter q) l) = R8.filter fun l => p l && q ((l + 8 - tn % 8) % 8) := List.filter_congr fun l hl => by rw [hit_eq tn q l (hl8 l hl)]
  have e2 : (R8.filter fun l => (!p l) && hit tn (R8.filter fun l => !q l) l) = R8.filter fun l => (!p l) && (!q ((l + 8 - tn % 8) % 8)) := List.filter_congr fun l hl => by rw [hit_eq tn (fun l => !q l) l (hl8 l hl)]
  have h := count_law p (fun l => q ((l + 8 - tn % 8) % 8)) R8
  rw [e1, e2, h, turn_count]
  rfl
noncomputable abbrev darkD (c : Nat) : D := .list ((R8.filter fun l => !bit c l).map fun (l : Nat) => D.int (l : Int))
theorem r8_lt {q : Nat → Bool} : ∀ l ∈ R8.filter q, l < 8 := fun l hl => by
  have := (List.mem_filter.mp hl).1
  simp [List.mem_range'] at this; omega
theorem dLen_bits (q : Nat → Bool) : dLen [.list ((R8.filter q).map fun (l : Nat) => D.int (l : Int))] = some (.int ((R8.filter q).length : Nat)) := by
  have h : (R8.filter q).length ≤ 8 := List.length_filter_le _ _
  show (if ((R8.filter q).map fun (l : Nat) => D.int (l : Int)).length ≤ 65536 then some (D.int (((R8.filter q).map fun (l : Nat) => D.int (l : Int)).length : Nat)) else none) = _
  rw [List.length_map, if_pos (by omega)]
section
variable {a0 a1 a2 a3 a4 a5 a6 a7 a8 a9 a10 a11 a12 a13 a14 a15 a16 a17 a18 a19 a20 a21 a22 a23 a24 a25 a26 a27 a28 : D}
theorem bt_step (h0 h1 h2 : Int) (s off tn c0 c1 : Nat) (hs : s < 26) (ho : off < 4) (ht : tn ≤ 9) : ∃ b8 b18 b19 b20 b21 b22 b23 b24 b25 b26 b27 b28,
    BT ([a0, HP h0 h1 h2, .int (s : Int), a3, a4, a5, .list [bitsD c0, bitsD c1], a7, a8, a9, a10, a11, a12, .list [darkD c0, darkD c1], .int (off : Int), a15, a16, .int (tn : Int), a18, a19, a20, a21, a22, a23, a24, a25, a26, a27, a28]) = some (.next, [a0, HP h0 h1 h2, .int (s : Int), a3, a4, a5, .list [bitsD c0, bitsD c1], a7, b8, a9, a10, a11, a12, .list [darkD c0, darkD c1], .int (off : Int), a15, a16, .int (tn : Int), b18, b19, b20, b21, b22, b23, b24, b25, b26, b27, b28]) := by
  obtain ⟨p8, p21, p22, p23, p24, p25, p26, p27, p28, e1⟩ := bp_step (a0 := a0) (a3 := a3) (a4 := a4) (a5 := a5) (a6 := .list [bitsD c0, bitsD c1]) (a7 := a7) (a8 := a8) (a9 := a9) (a10 := a10) (a11 := a11) (a12 := a12) (a13 := .list [darkD c0, darkD c1]) (a15 := a15) (a16 := a16) (a21 := a21) (a22 := a22) (a23 := a23) (a24 := a24) (a25 := a25) (a26 := a26) (a27 := a27) (a28 := a28) h0 h1 h2 s off tn (bit c0) (R8.filter (bit c1)) [] hs ho ht r8_lt (List.length_filter_le _ _) (by decide)
  obtain ⟨q8, q21, q22, q23, q24, q25, q26, q27, q28, e2⟩ := bp_step (a0 := a0) (a3 := a3) (a4 := a4) (a5 := a5) (a6 := .list [bitsD c0, bitsD c1]) (a7 := a7) (a8 := p8) (a9 := a9) (a10 := a10) (a11 := a11) (a12 := a12) (a13 := .list [darkD c0, darkD c1]) (a15 := a15) (a16 := a16) (a21 := p21) (a22 := p22) (a23 := p23) (a24 := p24) (a25 := p25) (a26 := p26) (a27 := p27) (a28 := p28) h0 h1 h2 s off tn (fun l => !bit c0 l) (R8.filter fun l => !bit c1 l) [.int (((R8.filter fun l => bit c0 l && hit tn (R8.filter (bit c1)) l).length : Nat) : Int)] hs ho ht r8_lt (List.length_filter_le _ _) (show 1 ≤ 10 by decide)
  refine ⟨q8, .list [.int (((R8.filter fun l => bit c0 l && hit tn (R8.filter (bit c1)) l).length : Nat) : Int), .int (((R8.filter fun l => (!bit c0 l) && hit tn (R8.filter fun l => !bit c1 l) l).length : Nat) : Int)], darkD c0, darkD c1, q21, q22, q23, q24, q25, q26, q27, q28, ?_⟩
  refine (seq_of (ds1 := [a0, HP h0 h1 h2, .int (s : Int), a3, a4, a5, .list [bitsD c0, bitsD c1], a7, a8, a9, a10, a11, a12, .list [darkD c0, darkD c1], .int (off : Int), a15, a16, .int (tn : Int), .own [], a19, a20, a21, a22, a23, a24, a25, a26, a27, a28]) rfl).trans ?_
  refine (rel_not (d := .list [bitsD c0, bitsD c1]) rfl (fun xs h => by cases h)).trans ?_
  have e1' : BP ([a0, HP h0 h1 h2, .int (s : Int), a3, a4, a5, .list [bitsD c0, bitsD c1], a7, a8, a9, a10, a11, a12, .list [darkD c0, darkD c1], .int (off : Int), a15, a16, .int (tn : Int), .own [], bitsD c0, bitsD c1, a21, a22, a23, a24, a25, a26, a27, a28]) = some (.next, [a0, HP h0 h1 h2, .int (s : Int), a3, a4, a5, .list [bitsD c0, bitsD c1], a7, p8, a9, a10, a11, a12, .list [darkD c0, darkD c1], .int (off : Int), a15, a16, .int (tn : Int), .own [.int (((R8.filter fun l => bit c0 l && hit tn (R8.filter (bit c1)) l).length : Nat) : Int)], bitsD c0, bitsD c1, p21, p22, p23, p24, p25, p26, p27, p28]) := e1
  have e2' : BP ([a0, HP h0 h1 h2, .int (s : Int), a3, a4, a5, .list [bitsD c0, bitsD c1], a7, p8, a9, a10, a11, a12, .list [darkD c0, darkD c1], .int (off : Int), a15, a16, .int (tn : Int), .own [.int (((R8.filter fun l => bit c0 l && hit tn (R8.filter (bit c1)) l).length : Nat) : Int)], darkD c0, darkD c1, p21, p22, p23, p24, p25, p26, p27, p28]) = some (.next, [a0, HP h0 h1 h2, .int (s : Int), a3, a4, a5, .list [bitsD c0, bitsD c1], a7, q8, a9, a10, a11, a12, .list [darkD c0, darkD c1], .int (off : Int), a15, a16, .int (tn : Int), .own [.int (((R8.filter fun l => bit c0 l && hit tn (R8.filter (bit c1)) l).length : Nat) : Int), .int (((R8.filter fun l => (!bit c0 l) && hit tn (R8.filter fun l => !bit c1 l) l).length : Nat) : Int)], darkD c0, darkD c1, q21, q22, q23, q24, q25, q26, q27, q28]) := e2
  have eF : (sFor (setPair 19 20) (eTup (lCons (eVar 6) (lCons (eVar 13) lNil))) BP sNil) ([a0, HP h0 h1 h2, .int (s : Int), a3, a4, a5, .list [bitsD c0, bitsD c1], a7, a8, a9, a10, a11, a12, .list [darkD c0, darkD c1], .int (off : Int), a15, a16, .int (tn : Int), .own [], a19, a20, a21, a22, a23, a24, a25, a26, a27, a28]) = some (.next, [a0, HP h0 h1 h2, .int (s : Int), a3, a4, a5, .list [bitsD c0, bitsD c1], a7, q8, a9, a10, a11, a12, .list [darkD c0, darkD c1], .int (off : Int), a15, a16, .int (tn : Int), .own [.int (((R8.filter fun l => bit c0 l && hit tn (R8.filter (bit c1)) l).length : Nat) : Int), .int (((R8.filter fun l => (!bit c0 l) && hit tn (R8.filter fun l => !bit c1 l) l).length : Nat) : Int)], darkD c0, darkD c1, q21, q22, q23, q24, q25, q26, q27, q28]) := by
    rw [sFor_of (d := .tup [.list [bitsD c0, bitsD c1], .list [darkD c0, darkD c1]]) (xs := [.list [bitsD c0, bitsD c1], .list [darkD c0, darkD c1]]) rfl rfl, forD_cons]
    show (match (match BP ([a0, HP h0 h1 h2, .int (s : Int), a3, a4, a5, .list [bitsD c0, bitsD c1], a7, a8, a9, a10, a11, a12, .list [darkD c0, darkD c1], .int (off : Int), a15, a16, .int (tn : Int), .own [], bitsD c0, bitsD c1, a21, a22, a23, a24, a25, a26, a27, a28]) with
      | some (.next, ds2) => forD (setPair 19 20) BP [.list [darkD c0, darkD c1]] ds2
      | r => r) with
      | some (.next, ds1) => sNil ds1
      | some (.brk, ds1) => some (.next, ds1)
      | r => r) = _
    rw [e1']
    show (match forD (setPair 19 20) BP [.list [darkD c0, darkD c1]] ([a0, HP h0 h1 h2, .int (s : Int), a3, a4, a5, .list [bitsD c0, bitsD c1], a7, p8, a9, a10, a11, a12, .list [darkD c0, darkD c1], .int (off : Int), a15, a16, .int (tn : Int), .own [.int (((R8.filter fun l => bit c0 l && hit tn (R8.filter (bit c1)) l).length : Nat) : Int)], bitsD c0, bitsD c1, p21, p22, p23, p24, p25, p26, p27, p28]) with
      | some (.next, ds1) => sNil ds1
      | some (.brk, ds1) => some (.next, ds1)
      | r => r) = _
    rw [forD_cons]
    show (match (match BP ([a0, HP h0 h1 h2, .int (s : Int), a3, a4, a5, .list [bitsD c0, bitsD c1], a7, p8, a9, a10, a11, a12, .list [darkD c0, darkD c1], .int (off : Int), a15, a16, .int (tn : Int), .own [.int (((R8.filter fun l => bit c0 l && hit tn (R8.filter (bit c1)) l).length : Nat) : Int)], darkD c0, darkD c1, p21, p22, p23, p24, p25, p26, p27, p28]) with
      | some (.next, ds2) => forD (setPair 19 20) BP [] ds2
      | r => r) with
      | some (.next, ds1) => sNil ds1
      | some (.brk, ds1) => some (.next, ds1)
      | r => r) = _
    rw [e2']
    rfl
  refine (seq_of eF).trans ?_
  refine (rel_own (xs := [.int (((R8.filter fun l => bit c0 l && hit tn (R8.filter (bit c1)) l).length : Nat) : Int), .int (((R8.filter fun l => (!bit c0 l) && hit tn (R8.filter fun l => !bit c1 l) l).length : Nat) : Int)]) rfl).trans ?_
  refine (rel_not (d := .list [bitsD c0, bitsD c1]) rfl (fun xs h => by cases h)).trans ?_
  show sSeq _ _ ([a0, HP h0 h1 h2, .int (s : Int), a3, a4, a5, .list [bitsD c0, bitsD c1], a7, q8, a9, a10, a11, a12, .list [darkD c0, darkD c1], .int (off : Int), a15, a16, .int (tn : Int), .list [.int (((R8.filter fun l => bit c0 l && hit tn (R8.filter (bit c1)) l).length : Nat) : Int), .int (((R8.filter fun l => (!bit c0 l) && hit tn (R8.filter fun l => !bit c1 l) l).length : Nat) : Int)], darkD c0, darkD c1, q21, q22, q23, q24, q25, q26, q27, q28]) = _
  have el : (eBin dSub (eBin dIdx (eVar 18) (fun _ => some (.int 0))) (eBin dIdx (eVar 18) (fun _ => some (.int 1)))) ([a0, HP h0 h1 h2, .int (s : Int), a3, a4, a5, .list [bitsD c0, bitsD c1], a7, q8, a9, a10, a11, a12, .list [darkD c0, darkD c1], .int (off : Int), a15, a16, .int (tn : Int), .list [.int (((R8.filter fun l => bit c0 l && hit tn (R8.filter (bit c1)) l).length : Nat) : Int), .int (((R8.filter fun l => (!bit c0 l) && hit tn (R8.filter fun l => !bit c1 l) l).length : Nat) : Int)], darkD c0, darkD c1, q21, q22, q23, q24, q25, q26, q27, q28]) = some (.int ((((R8.filter fun l => bit c0 l && hit tn (R8.filter (bit c1)) l).length : Nat) : Int) - (((R8.filter fun l => (!bit c0 l) && hit tn (R8.filter fun l => !bit c1 l) l).length : Nat) : Int))) := bin_of (x := .int (((R8.filter fun l => bit c0 l && hit tn (R8.filter (bit c1)) l).length : Nat) : Int)) (y := .int (((R8.filter fun l => (!bit c0 l) && hit tn (R8.filter fun l => !bit c1 l) l).length : Nat) : Int)) rfl rfl rfl
  have er : (eBin dSub (eBin dAdd (eCall dLen (lCons (eBin dIdx (eVar 6) (fun _ => some (.int 0))) lNil)) (eCall dLen (lCons (eBin dIdx (eVar 6) (fun _ => some (.int 1))) lNil))) (fun _ => some (.int 8))) ([a0, HP h0 h1 h2, .int (s : Int), a3, a4, a5, .list [bitsD c0, bitsD c1], a7, q8, a9, a10, a11, a12, .list [darkD c0, darkD c1], .int (off : Int), a15, a16, .int (tn : Int), .list [.int (((R8.filter fun l => bit c0 l && hit tn (R8.filter (bit c1)) l).length : Nat) : Int), .int (((R8.filter fun l => (!bit c0 l) && hit tn (R8.filter fun l => !bit c1 l) l).length : Nat) : Int)], darkD c0, darkD c1, q21, q22, q23, q24, q25, q26, q27, q28]) = some (.int (((R8.filter (bit c0)).length : Nat) + ((R8.filter (bit c1)).length : Nat) - 8)) :=
    bin_of (bin_of (call_of (xs := [bitsD c0]) rfl (dLen_bits (bit c0))) (call_of (xs := [bitsD c1]) rfl (dLen_bits (bit c1))) rfl) rfl rfl
  have hlaw := lamps_law tn (bit c0) (bit c1)
  have ht : tOf (eBin dNe (eBin dSub (eBin dIdx (eVar 18) (fun _ => some (.int 0))) (eBin dIdx (eVar 18) (fun _ => some (.int 1)))) (eBin dSub (eBin dAdd (eCall dLen (lCons (eBin dIdx (eVar 6) (fun _ => some (.int 0))) lNil)) (eCall dLen (lCons (eBin dIdx (eVar 6) (fun _ => some (.int 1))) lNil))) (fun _ => some (.int 8)))) ([a0, HP h0 h1 h2, .int (s : Int), a3, a4, a5, .list [bitsD c0, bitsD c1], a7, q8, a9, a10, a11, a12, .list [darkD c0, darkD c1], .int (off : Int), a15, a16, .int (tn : Int), .list [.int (((R8.filter fun l => bit c0 l && hit tn (R8.filter (bit c1)) l).length : Nat) : Int), .int (((R8.filter fun l => (!bit c0 l) && hit tn (R8.filter fun l => !bit c1 l) l).length : Nat) : Int)], darkD c0, darkD c1, q21, q22, q23, q24, q25, q26, q27, q28]) = some false := by
    refine tof_of (d := .bool (((((R8.filter fun l => bit c0 l && hit tn (R8.filter (bit c1)) l).length : Nat) : Int) - (((R8.filter fun l => (!bit c0 l) && hit tn (R8.filter fun l => !bit c1 l) l).length : Nat) : Int) : Int) != (((R8.filter (bit c0)).length : Nat) + ((R8.filter (bit c1)).length : Nat) - 8 : Int))) (bin_of el er rfl) ?_
    rw [hlaw]
    show some _ = _
    simp
  exact (seq_of (if_skip ht)).trans rfl
theorem loopT (h0 h1 h2 : Int) (s off c0 c1 : Nat) (hs : s < 26) (ho : off < 4) : ∀ (tns : List Nat) (b8 b17 b18 b19 b20 b21 b22 b23 b24 b25 b26 b27 b28 : D), (∀ t ∈ tns, t ≤ 9) → ∃ c8 c17 c18 c19 c20 c21 c22 c23 c24 c25 c26 c27 c28,
    forD (setK 17) BT (tns.map fun (t : Nat) => D.int (t : Int)) ([a0, HP h0 h1 h2, .int (s : Int), a3, a4, a5, .list [bitsD c0, bitsD c1], a7, b8, a9, a10, a11, a12, .list [darkD c0, darkD c1], .int (off : Int), a15, a16, b17, b18, b19, b20, b21, b22, b23, b24, b25, b26, b27, b28]) = some (.next, [a0, HP h0 h1 h2, .int (s : Int), a3, a4, a5, .list [bitsD c0, bitsD c1], a7, c8, a9, a10, a11, a12, .list [darkD c0, darkD c1], .int (off : Int), a15, a16, c17, c18, c19, c20, c21, c22, c23, c24, c25, c26, c27, c28])
  | [], b8, b17, b18, b19, b20, b21, b22, b23, b24, b25, b26, b27, b28, _ => ⟨b8, b17, b18, b19, b20, b21, b22, b23, b24, b25, b26, b27, b28, rfl⟩
  | t :: tns, b8, b17, b18, b19, b20, b21, b22, b23, b24, b25, b26, b27, b28, h => by
    obtain ⟨d8, d18, d19, d20, d21, d22, d23, d24, d25, d26, d27, d28, e⟩ := bt_step (a0 := a0) (a3 := a3) (a4 := a4) (a5 := a5) (a7 := a7) (a8 := b8) (a9 := a9) (a10 := a10) (a11 := a11) (a12 := a12) (a15 := a15) (a16 := a16) (a18 := b18) (a19 := b19) (a20 := b20) (a21 := b21) (a22 := b22) (a23 := b23) (a24 := b24) (a25 := b25) (a26 := b26) (a27 := b27) (a28 := b28) h0 h1 h2 s off t c0 c1 hs ho (h t List.mem_cons_self)
    obtain ⟨c8, c17, c18, c19, c20, c21, c22, c23, c24, c25, c26, c27, c28, ih⟩ := loopT h0 h1 h2 s off c0 c1 hs ho tns d8 (.int (t : Int)) d18 d19 d20 d21 d22 d23 d24 d25 d26 d27 d28 (fun u hu => h u (List.mem_cons_of_mem _ hu))
    refine ⟨c8, c17, c18, c19, c20, c21, c22, c23, c24, c25, c26, c27, c28, ?_⟩
    rw [List.map_cons, for_loop]
    show (match BT ([a0, HP h0 h1 h2, .int (s : Int), a3, a4, a5, .list [bitsD c0, bitsD c1], a7, b8, a9, a10, a11, a12, .list [darkD c0, darkD c1], .int (off : Int), a15, a16, .int (t : Int), b18, b19, b20, b21, b22, b23, b24, b25, b26, b27, b28]) with
      | some (.next, ds2) => forD (setK 17) BT (tns.map fun (t : Nat) => D.int (t : Int)) ds2
      | r => r) = _
    rw [e]
    exact ih
end
end Mine
namespace Mine
open PySem PySem.Calls PyProof.Rows PyProof.V

theorem asg_to {k : Nat} {f : List D → Option D} {ds ds' : List D} {d : D} (h : f ds = some d) (h2 : ds.set k d = ds') : sAssign k f ds = some (.next, ds') := by rw [asg_of h, h2]
theorem fdiv_int (x : Int) (m : Nat) (h : m ≠ 0) (h2 : m < 1073741824) : dFloorDiv (.int x) (.int (m : Int)) = some (.int (x.fdiv (m : Int))) := by
  show (if (m : Int) ≠ 0 ∧ (m : Int).natAbs < 1073741824 then some (D.int (x.fdiv (m : Int))) else none) = _
  rw [if_pos (by constructor <;> omega)]
noncomputable abbrev besD : D := .tup [.int 172, .int 174, .int 846, .int 848, .int 6149, .int 6151, .int 6154, .int 6158, .int 8202, .int 8206, .int 8287, .int 8289, .int 65023, .int 65040, .int 65278, .int 65280]
theorem beside_ok : compD [] (fun _ => some true) (eCall f3 (lCons (eCall dChr (lCons (eVar 0) lNil)) lNil)) [.int 172, .int 174, .int 846, .int 848, .int 6149, .int 6151, .int 6154, .int 6158, .int 8202, .int 8206, .int 8287, .int 8289, .int 65023, .int 65040, .int 65278, .int 65280] = some (List.replicate 16 (.bool false)) := by kernel_rfl
theorem unseen_eq : (b1List.map D.int) = [.int 173, .int 847, .int 6150, .int 6155, .int 6156, .int 6157, .int 8203, .int 8204, .int 8205, .int 8288, .int 65279] ++ rangeItems 65024 65040 := by kernel_rfl
section
variable {a0 a1 a2 a3 a4 a5 a6 a7 a8 a9 a10 a11 a12 a13 a14 a15 a16 a17 a18 a19 a20 a21 a22 a23 a24 a25 a26 a27 a28 : D}
theorem unseen_of (ds : List D) : (eBin dAdd (eList (lCons (fun _ => some (.int 173)) (lCons (fun _ => some (.int 847)) (lCons (fun _ => some (.int 6150)) (lCons (fun _ => some (.int 6155)) (lCons (fun _ => some (.int 6156)) (lCons (fun _ => some (.int 6157)) (lCons (fun _ => some (.int 8203)) (lCons (fun _ => some (.int 8204)) (lCons (fun _ => some (.int 8205)) (lCons (fun _ => some (.int 8288)) (lCons (fun _ => some (.int 65279)) lNil)))))))))))) (eCall dList (lCons (eCall dRange (lCons (fun _ => some (.int 65024)) (lCons (fun _ => some (.int 65040)) lNil))) lNil))) ds = some unseenD := by
  have e1 : eList (lCons (fun _ => some (.int 173)) (lCons (fun _ => some (.int 847)) (lCons (fun _ => some (.int 6150)) (lCons (fun _ => some (.int 6155)) (lCons (fun _ => some (.int 6156)) (lCons (fun _ => some (.int 6157)) (lCons (fun _ => some (.int 8203)) (lCons (fun _ => some (.int 8204)) (lCons (fun _ => some (.int 8205)) (lCons (fun _ => some (.int 8288)) (lCons (fun _ => some (.int 65279)) lNil))))))))))) ds = some (.list [.int 173, .int 847, .int 6150, .int 6155, .int 6156, .int 6157, .int 8203, .int 8204, .int 8205, .int 8288, .int 65279]) := elist_of rfl (show 11 ≤ 65536 by decide)
  have e2 : eCall dList (lCons (eCall dRange (lCons (fun _ => some (.int 65024)) (lCons (fun _ => some (.int 65040)) lNil))) lNil) ds = some (.list (rangeItems 65024 65040)) := by
    refine call_of (xs := [.rng 65024 65040]) (lcons_of (call_of (xs := [.int 65024, .int 65040]) rfl ?_) rfl) ?_
    · show (if -65536 ≤ (65024 : Int) ∧ (65024 : Int) ≤ 65536 ∧ -65536 ≤ (65040 : Int) ∧ (65040 : Int) ≤ 65536 then some (D.rng 65024 65040) else none) = _
      rw [if_pos (by decide)]
    · show (if -65536 ≤ (65024 : Int) ∧ (65024 : Int) ≤ 65536 ∧ -65536 ≤ (65040 : Int) ∧ (65040 : Int) ≤ 65536 then some (D.list (rangeItems 65024 65040)) else none) = _
      rw [if_pos (by decide)]
  refine bin_of e1 e2 ?_
  rw [show unseenD = .list ([.int 173, .int 847, .int 6150, .int 6155, .int 6156, .int 6157, .int 8203, .int 8204, .int 8205, .int 8288, .int 65279] ++ rangeItems 65024 65040) from congrArg D.list unseen_eq]
  show (if ([.int 173, .int 847, .int 6150, .int 6155, .int 6156, .int 6157, .int 8203, .int 8204, .int 8205, .int 8288, .int 65279] : List D).length + (rangeItems 65024 65040).length ≤ 65536 then some (D.list (([.int 173, .int 847, .int 6150, .int 6155, .int 6156, .int 6157, .int 8203, .int 8204, .int 8205, .int 8288, .int 65279] : List D) ++ rangeItems 65024 65040)) else none) = _
  rw [if_pos (by rw [rangeItems_length]; decide)]
theorem rep_false : (List.replicate (16 : Int).toNat [D.bool false]).flatten = List.replicate 16 (.bool false) := rfl
theorem beside_test (z0 z1 z2 z3 z4 z6 z7 z8 z9 z10 z11 z12 z13 z14 z15 z16 z17 z18 z19 z20 z21 z22 z23 z24 z25 z26 z27 z28 : D) : ((tOf (eBin dNe (eComp [] (eVar 5) (fun _ => some true) (eCall f3 (lCons (eCall dChr (lCons (eVar 0) lNil)) lNil))) (eBin dMul (eList (lCons (fun _ => some (.bool false)) lNil)) (fun _ => some (.int 16)))))) ([z0, z1, z2, z3, z4, besD, z6, z7, z8, z9, z10, z11, z12, z13, z14, z15, z16, z17, z18, z19, z20, z21, z22, z23, z24, z25, z26, z27, z28]) = some false := by
  have e1 : eComp [] (eVar 5) (fun _ => some true) (eCall f3 (lCons (eCall dChr (lCons (eVar 0) lNil)) lNil)) ([z0, z1, z2, z3, z4, besD, z6, z7, z8, z9, z10, z11, z12, z13, z14, z15, z16, z17, z18, z19, z20, z21, z22, z23, z24, z25, z26, z27, z28]) = some (.list (List.replicate 16 (.bool false))) :=
    comp_of (d := besD) (cap := []) rfl rfl (show 16 ≤ 65536 by decide) rfl beside_ok
  have e2 : eBin dMul (eList (lCons (fun _ => some (.bool false)) lNil)) (fun _ => some (.int 16)) ([z0, z1, z2, z3, z4, besD, z6, z7, z8, z9, z10, z11, z12, z13, z14, z15, z16, z17, z18, z19, z20, z21, z22, z23, z24, z25, z26, z27, z28]) = some (.list (List.replicate 16 (.bool false))) := by
    refine bin_of (x := .list [.bool false]) (y := .int 16) rfl rfl ?_
    show (if 0 ≤ (16 : Int) ∧ (16 : Int) ≤ 65536 ∧ ([D.bool false] : List D).length = 1 then some (D.list (List.replicate (16 : Int).toNat [D.bool false]).flatten) else none) = _
    rw [if_pos ⟨by decide, by decide, rfl⟩, rep_false]
  exact tof_of (d := .bool false) (bin_of e1 e2 (by kernel_rfl)) rfl
theorem dark_one (c : Nat) : eComp [0] (eCall dRange (lCons (fun _ => some (.int 8)) lNil)) (tOf (eBin dNotIn (eVar 0) (eVar 1))) (eVar 0) [bitsD c] = some (darkD c) := by
  refine comp_of (d := .rng 0 8) (cap := [bitsD c]) rfl (congrArg some (rngN 8)) (by simp) rfl ?_
  refine compD_eq (fun (l : Nat) => D.int (l : Int)) (fun l => !bit c l) (fun (l : Nat) => D.int (l : Int)) R8 fun l hl => ⟨?_, fun _ => rfl⟩
  have e : ((BITS c).map fun (j : Nat) => D.int (j : Int)) = ((BITS c).map fun (j : Nat) => ((j : Nat) : Int)).map D.int := by rw [List.map_map]; rfl
  refine tof_of (d := .bool (!(((BITS c).map fun (j : Nat) => ((j : Nat) : Int)).any (· == (l : Int))))) (bin_of (x := .int (l : Int)) (y := bitsD c) rfl rfl (by rw [show bitsD c = .list (((BITS c).map fun (j : Nat) => ((j : Nat) : Int)).map D.int) from congrArg D.list e]; exact notin_ints _ _)) ?_
  show some _ = some _
  congr 2
  rw [List.any_map, Bool.eq_iff_iff, List.any_eq_true]
  constructor
  · rintro ⟨m, hm, h⟩
    simp only [Function.comp_apply, beq_iff_eq] at h
    have : m = l := by omega
    subst this
    exact (List.mem_filter.mp hm).2
  · intro h
    exact ⟨l, List.mem_filter.mpr ⟨hl, h⟩, by simp⟩
theorem dark_of (c0 c1 : Nat) (ds : List D) (h : eVar 6 ds = some (.list [bitsD c0, bitsD c1])) : (eComp [] (eVar 6) (fun _ => some true) (eComp [0] (eCall dRange (lCons (fun _ => some (.int 8)) lNil)) (tOf (eBin dNotIn (eVar 0) (eVar 1))) (eVar 0))) ds = some (.list [darkD c0, darkD c1]) := by
  refine comp_of (d := .list [bitsD c0, bitsD c1]) (cap := []) h rfl (show 2 ≤ 65536 by decide) rfl ?_
  exact (compD_eq (cap := []) (fun c => bitsD c) (fun _ => true) (fun c => darkD c) [c0, c1] (fun c _ => ⟨rfl, fun _ => dark_one c⟩)).trans rfl

theorem law_pure (ns : List Int) (hn : ns.length ≤ 63) : f11 [.list (ns.map D.int)] = some (.bool true) := by
  obtain ⟨h0, h1, h2, e5⟩ := f5_ok ns hn
  have hs := (fmod_pos (h0.fdiv 65536) 26 (by decide)).2
  have hsd := dMod_int (h0.fdiv 65536) 26 (by decide)
  generalize ((h0.fdiv 65536).fmod ((26 : Nat) : Int)).toNat = s at hs hsd
  have hc0 := (fmod_pos h0 256 (by decide)).2
  have hc0d := dMod_int h0 256 (by decide)
  generalize (h0.fmod ((256 : Nat) : Int)).toNat = c0 at hc0 hc0d
  have hc1 := (fmod_pos (h0.fdiv 256) 256 (by decide)).2
  have hc1d := dMod_int (h0.fdiv 256) 256 (by decide)
  generalize ((h0.fdiv 256).fmod ((256 : Nat) : Int)).toNat = c1 at hc1 hc1d
  have ho := (fmod_pos (h1.fdiv 972) 4 (by decide)).2
  have hod := dMod_int (h1.fdiv 972) 4 (by decide)
  generalize ((h1.fdiv 972).fmod ((4 : Nat) : Int)).toNat = off at ho hod
  have hv := (fmod_pos h2 4 (by decide)).2
  have hvd := dMod_int h2 4 (by decide)
  generalize (h2.fmod ((4 : Nat) : Int)).toNat = lv at hv hvd
  have ht := (fmod_pos (h1.fdiv 3888) 8 (by decide)).2
  have htd := dMod_int (h1.fdiv 3888) 8 (by decide)
  generalize ((h1.fdiv 3888).fmod ((8 : Nat) : Int)).toNat = t0 at ht htd
  obtain ⟨p8, p9, p10, p11, p12, eC0⟩ := bc_step (a0 := .list (ns.map D.int)) (a5 := besD) (a8 := .undef) (a9 := .undef) (a10 := .undef) (a11 := .undef) (a12 := .undef) (a13 := .undef) (a14 := .undef) (a15 := .undef) (a16 := .undef) (a17 := .undef) (a18 := .undef) (a19 := .undef) (a20 := .undef) (a21 := .undef) (a22 := .undef) (a23 := .undef) (a24 := .undef) (a25 := .undef) (a26 := .undef) (a27 := .undef) (a28 := .undef) h0 h1 h2 s c0 [] hs hc0 (by decide)
  obtain ⟨q8, q9, q10, q11, q12, eC1⟩ := bc_step (a0 := .list (ns.map D.int)) (a5 := besD) (a8 := p8) (a9 := p9) (a10 := p10) (a11 := p11) (a12 := p12) (a13 := .undef) (a14 := .undef) (a15 := .undef) (a16 := .undef) (a17 := .undef) (a18 := .undef) (a19 := .undef) (a20 := .undef) (a21 := .undef) (a22 := .undef) (a23 := .undef) (a24 := .undef) (a25 := .undef) (a26 := .undef) (a27 := .undef) (a28 := .undef) h0 h1 h2 s c1 [bitsD c0] hs hc1 (show 1 ≤ 100 by decide)
  obtain ⟨g16, eG0⟩ := bg_step (a0 := .list (ns.map D.int)) (a1 := HP h0 h1 h2) (a2 := .int (s : Int)) (a3 := namesD s) (a4 := unseenD) (a5 := besD) (a6 := .list [bitsD c0, bitsD c1]) (a7 := .int (c1 : Int)) (a8 := q8) (a9 := q9) (a10 := q10) (a11 := q11) (a12 := q12) (a13 := .list [darkD c0, darkD c1]) (a16 := .undef) (a17 := .undef) (a18 := .undef) (a19 := .undef) (a20 := .undef) (a21 := .undef) (a22 := .undef) (a23 := .undef) (a24 := .undef) (a25 := .undef) (a26 := .undef) (a27 := .undef) (a28 := .undef) off 0 ho (by decide)
  obtain ⟨k16, eG1⟩ := bg_step (a0 := .list (ns.map D.int)) (a1 := HP h0 h1 h2) (a2 := .int (s : Int)) (a3 := namesD s) (a4 := unseenD) (a5 := besD) (a6 := .list [bitsD c0, bitsD c1]) (a7 := .int (c1 : Int)) (a8 := q8) (a9 := q9) (a10 := q10) (a11 := q11) (a12 := q12) (a13 := .list [darkD c0, darkD c1]) (a16 := g16) (a17 := .undef) (a18 := .undef) (a19 := .undef) (a20 := .undef) (a21 := .undef) (a22 := .undef) (a23 := .undef) (a24 := .undef) (a25 := .undef) (a26 := .undef) (a27 := .undef) (a28 := .undef) off (1 + lv) ho (by omega)
  obtain ⟨r8, r17, r18, r19, r20, r21, r22, r23, r24, r25, r26, r27, r28, eT⟩ := loopT (a0 := .list (ns.map D.int)) (a3 := namesD s) (a4 := unseenD) (a5 := besD) (a7 := .int (c1 : Int)) (a9 := q9) (a10 := q10) (a11 := q11) (a12 := q12) (a15 := .int ((1 + lv : Nat) : Int)) (a16 := k16) h0 h1 h2 s off c0 c1 hs ho [t0, t0 + 1, t0 + 2] q8 .undef .undef .undef .undef .undef .undef .undef .undef .undef .undef .undef .undef (by
    intro t ht'
    simp only [List.mem_cons, List.not_mem_nil, or_false] at ht'
    rcases ht' with rfl | rfl | rfl <;> omega)
  show fnD 1 29 b11 [.list (ns.map D.int)] = some (.bool true)
  refine fn_of_ret (n := 1) (m := 29) (body := b11) (xs := [.list (ns.map D.int)]) (ds1 := [.list (ns.map D.int), HP h0 h1 h2, .int (s : Int), namesD s, unseenD, besD, .list [bitsD c0, bitsD c1], .int (c1 : Int), r8, q9, q10, q11, q12, .list [darkD c0, darkD c1], .int (off : Int), .int ((1 + lv : Nat) : Int), k16, r17, r18, r19, r20, r21, r22, r23, r24, r25, r26, r27, r28]) rfl ?_
  rw [b11_eq]
  show sSeq _ _ ([.list (ns.map D.int), .undef, .undef, .undef, .undef, .undef, .undef, .undef, .undef, .undef, .undef, .undef, .undef, .undef, .undef, .undef, .undef, .undef, .undef, .undef, .undef, .undef, .undef, .undef, .undef, .undef, .undef, .undef, .undef]) = _
  have x1 : eCall f5 (lCons (eVar 0) lNil) ([.list (ns.map D.int), .undef, .undef, .undef, .undef, .undef, .undef, .undef, .undef, .undef, .undef, .undef, .undef, .undef, .undef, .undef, .undef, .undef, .undef, .undef, .undef, .undef, .undef, .undef, .undef, .undef, .undef, .undef, .undef]) = some (HP h0 h1 h2) := call_of (xs := [.list (ns.map D.int)]) rfl e5
  refine (seq_of (asg_to (ds' := [.list (ns.map D.int), HP h0 h1 h2, .undef, .undef, .undef, .undef, .undef, .undef, .undef, .undef, .undef, .undef, .undef, .undef, .undef, .undef, .undef, .undef, .undef, .undef, .undef, .undef, .undef, .undef, .undef, .undef, .undef, .undef, .undef]) x1 rfl)).trans ?_
  have x2 : (eBin dMod (eBin dFloorDiv (eBin dIdx (eVar 1) (fun _ => some (.int 0))) (fun _ => some (.int 65536))) (fun _ => some (.int 26))) ([.list (ns.map D.int), HP h0 h1 h2, .undef, .undef, .undef, .undef, .undef, .undef, .undef, .undef, .undef, .undef, .undef, .undef, .undef, .undef, .undef, .undef, .undef, .undef, .undef, .undef, .undef, .undef, .undef, .undef, .undef, .undef, .undef]) = some (.int (s : Int)) :=
    bin_of (bin_of (x := .int h0) (y := .int 65536) rfl rfl (fdiv_int h0 65536 (by decide) (by decide))) rfl hsd
  refine (seq_of (asg_to (ds' := [.list (ns.map D.int), HP h0 h1 h2, .int (s : Int), .undef, .undef, .undef, .undef, .undef, .undef, .undef, .undef, .undef, .undef, .undef, .undef, .undef, .undef, .undef, .undef, .undef, .undef, .undef, .undef, .undef, .undef, .undef, .undef, .undef, .undef]) x2 rfl)).trans ?_
  have x3 : eCall f6 (lCons (eVar 2) lNil) ([.list (ns.map D.int), HP h0 h1 h2, .int (s : Int), .undef, .undef, .undef, .undef, .undef, .undef, .undef, .undef, .undef, .undef, .undef, .undef, .undef, .undef, .undef, .undef, .undef, .undef, .undef, .undef, .undef, .undef, .undef, .undef, .undef, .undef]) = some (namesD s) := call_of (xs := [.int (s : Int)]) rfl (f6_ok s hs)
  refine (seq_of (asg_to (ds' := [.list (ns.map D.int), HP h0 h1 h2, .int (s : Int), namesD s, .undef, .undef, .undef, .undef, .undef, .undef, .undef, .undef, .undef, .undef, .undef, .undef, .undef, .undef, .undef, .undef, .undef, .undef, .undef, .undef, .undef, .undef, .undef, .undef, .undef]) x3 rfl)).trans ?_
  refine (seq_of (asg_to (ds' := [.list (ns.map D.int), HP h0 h1 h2, .int (s : Int), namesD s, unseenD, .undef, .undef, .undef, .undef, .undef, .undef, .undef, .undef, .undef, .undef, .undef, .undef, .undef, .undef, .undef, .undef, .undef, .undef, .undef, .undef, .undef, .undef, .undef, .undef]) (unseen_of _) rfl)).trans ?_
  have x5 : (eTup (lCons (fun _ => some (.int 172)) (lCons (fun _ => some (.int 174)) (lCons (fun _ => some (.int 846)) (lCons (fun _ => some (.int 848)) (lCons (fun _ => some (.int 6149)) (lCons (fun _ => some (.int 6151)) (lCons (fun _ => some (.int 6154)) (lCons (fun _ => some (.int 6158)) (lCons (fun _ => some (.int 8202)) (lCons (fun _ => some (.int 8206)) (lCons (fun _ => some (.int 8287)) (lCons (fun _ => some (.int 8289)) (lCons (fun _ => some (.int 65023)) (lCons (fun _ => some (.int 65040)) (lCons (fun _ => some (.int 65278)) (lCons (fun _ => some (.int 65280)) lNil))))))))))))))))) ([.list (ns.map D.int), HP h0 h1 h2, .int (s : Int), namesD s, unseenD, .undef, .undef, .undef, .undef, .undef, .undef, .undef, .undef, .undef, .undef, .undef, .undef, .undef, .undef, .undef, .undef, .undef, .undef, .undef, .undef, .undef, .undef, .undef, .undef]) = some besD := etup_of (xs := [.int 172, .int 174, .int 846, .int 848, .int 6149, .int 6151, .int 6154, .int 6158, .int 8202, .int 8206, .int 8287, .int 8289, .int 65023, .int 65040, .int 65278, .int 65280]) rfl (show 16 ≤ 65536 by decide)
  refine (seq_of (asg_to (ds' := [.list (ns.map D.int), HP h0 h1 h2, .int (s : Int), namesD s, unseenD, besD, .undef, .undef, .undef, .undef, .undef, .undef, .undef, .undef, .undef, .undef, .undef, .undef, .undef, .undef, .undef, .undef, .undef, .undef, .undef, .undef, .undef, .undef, .undef]) x5 rfl)).trans ?_
  refine (seq_of (if_skip (beside_test (.list (ns.map D.int)) (HP h0 h1 h2) (.int (s : Int)) (namesD s) (unseenD) (.undef) (.undef) (.undef) (.undef) (.undef) (.undef) (.undef) (.undef) (.undef) (.undef) (.undef) (.undef) (.undef) (.undef) (.undef) (.undef) (.undef) (.undef) (.undef) (.undef) (.undef) (.undef) (.undef)))).trans ?_
  refine (seq_of (ds1 := [.list (ns.map D.int), HP h0 h1 h2, .int (s : Int), namesD s, unseenD, besD, .own [], .undef, .undef, .undef, .undef, .undef, .undef, .undef, .undef, .undef, .undef, .undef, .undef, .undef, .undef, .undef, .undef, .undef, .undef, .undef, .undef, .undef, .undef]) rfl).trans ?_
  -- the crowds
  have xC : (eTup (lCons (eBin dMod (eBin dIdx (eVar 1) (fun _ => some (.int 0))) (fun _ => some (.int 256))) (lCons (eBin dMod (eBin dFloorDiv (eBin dIdx (eVar 1) (fun _ => some (.int 0))) (fun _ => some (.int 256))) (fun _ => some (.int 256))) lNil))) ([.list (ns.map D.int), HP h0 h1 h2, .int (s : Int), namesD s, unseenD, besD, .own [], .undef, .undef, .undef, .undef, .undef, .undef, .undef, .undef, .undef, .undef, .undef, .undef, .undef, .undef, .undef, .undef, .undef, .undef, .undef, .undef, .undef, .undef]) = some (.tup [.int (c0 : Int), .int (c1 : Int)]) := by
    refine etup_of (lcons_of (bin_of (x := .int h0) (y := .int 256) rfl rfl hc0d) (lcons_of (bin_of (bin_of (x := .int h0) (y := .int 256) rfl rfl (fdiv_int h0 256 (by decide) (by decide))) rfl hc1d) rfl)) (show 2 ≤ 65536 by decide)
  have eC0' : BC ([.list (ns.map D.int), HP h0 h1 h2, .int (s : Int), namesD s, unseenD, besD, .own [], .int (c0 : Int), .undef, .undef, .undef, .undef, .undef, .undef, .undef, .undef, .undef, .undef, .undef, .undef, .undef, .undef, .undef, .undef, .undef, .undef, .undef, .undef, .undef]) = some (.next, [.list (ns.map D.int), HP h0 h1 h2, .int (s : Int), namesD s, unseenD, besD, .own [bitsD c0], .int (c0 : Int), p8, p9, p10, p11, p12, .undef, .undef, .undef, .undef, .undef, .undef, .undef, .undef, .undef, .undef, .undef, .undef, .undef, .undef, .undef, .undef]) := eC0
  have eC1' : BC ([.list (ns.map D.int), HP h0 h1 h2, .int (s : Int), namesD s, unseenD, besD, .own [bitsD c0], .int (c1 : Int), p8, p9, p10, p11, p12, .undef, .undef, .undef, .undef, .undef, .undef, .undef, .undef, .undef, .undef, .undef, .undef, .undef, .undef, .undef, .undef]) = some (.next, [.list (ns.map D.int), HP h0 h1 h2, .int (s : Int), namesD s, unseenD, besD, .own [bitsD c0, bitsD c1], .int (c1 : Int), q8, q9, q10, q11, q12, .undef, .undef, .undef, .undef, .undef, .undef, .undef, .undef, .undef, .undef, .undef, .undef, .undef, .undef, .undef, .undef]) := eC1
  have eFC : (sFor (setK 7) (eTup (lCons (eBin dMod (eBin dIdx (eVar 1) (fun _ => some (.int 0))) (fun _ => some (.int 256))) (lCons (eBin dMod (eBin dFloorDiv (eBin dIdx (eVar 1) (fun _ => some (.int 0))) (fun _ => some (.int 256))) (fun _ => some (.int 256))) lNil))) BC sNil) ([.list (ns.map D.int), HP h0 h1 h2, .int (s : Int), namesD s, unseenD, besD, .own [], .undef, .undef, .undef, .undef, .undef, .undef, .undef, .undef, .undef, .undef, .undef, .undef, .undef, .undef, .undef, .undef, .undef, .undef, .undef, .undef, .undef, .undef]) = some (.next, [.list (ns.map D.int), HP h0 h1 h2, .int (s : Int), namesD s, unseenD, besD, .own [bitsD c0, bitsD c1], .int (c1 : Int), q8, q9, q10, q11, q12, .undef, .undef, .undef, .undef, .undef, .undef, .undef, .undef, .undef, .undef, .undef, .undef, .undef, .undef, .undef, .undef]) := by
    rw [sFor_of xC (xs := [.int (c0 : Int), .int (c1 : Int)]) rfl, for_loop]
    show (match (match BC ([.list (ns.map D.int), HP h0 h1 h2, .int (s : Int), namesD s, unseenD, besD, .own [], .int (c0 : Int), .undef, .undef, .undef, .undef, .undef, .undef, .undef, .undef, .undef, .undef, .undef, .undef, .undef, .undef, .undef, .undef, .undef, .undef, .undef, .undef, .undef]) with
      | some (.next, ds2) => forD (setK 7) BC [.int (c1 : Int)] ds2
      | r => r) with
      | some (.next, ds1) => sNil ds1
      | some (.brk, ds1) => some (.next, ds1)
      | r => r) = _
    rw [eC0']
    show (match forD (setK 7) BC [.int (c1 : Int)] ([.list (ns.map D.int), HP h0 h1 h2, .int (s : Int), namesD s, unseenD, besD, .own [bitsD c0], .int (c0 : Int), p8, p9, p10, p11, p12, .undef, .undef, .undef, .undef, .undef, .undef, .undef, .undef, .undef, .undef, .undef, .undef, .undef, .undef, .undef, .undef]) with
      | some (.next, ds1) => sNil ds1
      | some (.brk, ds1) => some (.next, ds1)
      | r => r) = _
    rw [for_loop]
    show (match (match BC ([.list (ns.map D.int), HP h0 h1 h2, .int (s : Int), namesD s, unseenD, besD, .own [bitsD c0], .int (c1 : Int), p8, p9, p10, p11, p12, .undef, .undef, .undef, .undef, .undef, .undef, .undef, .undef, .undef, .undef, .undef, .undef, .undef, .undef, .undef, .undef]) with
      | some (.next, ds2) => forD (setK 7) BC [] ds2
      | r => r) with
      | some (.next, ds1) => sNil ds1
      | some (.brk, ds1) => some (.next, ds1)
      | r => r) = _
    rw [eC1']
    rfl
  refine (seq_of eFC).trans ?_
  refine (rel_own (xs := [bitsD c0, bitsD c1]) rfl).trans ?_
  show sSeq _ _ ([.list (ns.map D.int), HP h0 h1 h2, .int (s : Int), namesD s, unseenD, besD, .list [bitsD c0, bitsD c1], .int (c1 : Int), q8, q9, q10, q11, q12, .undef, .undef, .undef, .undef, .undef, .undef, .undef, .undef, .undef, .undef, .undef, .undef, .undef, .undef, .undef, .undef]) = _
  refine (seq_of (asg_to (ds' := [.list (ns.map D.int), HP h0 h1 h2, .int (s : Int), namesD s, unseenD, besD, .list [bitsD c0, bitsD c1], .int (c1 : Int), q8, q9, q10, q11, q12, .list [darkD c0, darkD c1], .undef, .undef, .undef, .undef, .undef, .undef, .undef, .undef, .undef, .undef, .undef, .undef, .undef, .undef, .undef]) (dark_of c0 c1 _ rfl) rfl)).trans ?_
  have x14 : (eBin dMod (eBin dFloorDiv (eBin dIdx (eVar 1) (fun _ => some (.int 1))) (fun _ => some (.int 972))) (fun _ => some (.int 4))) ([.list (ns.map D.int), HP h0 h1 h2, .int (s : Int), namesD s, unseenD, besD, .list [bitsD c0, bitsD c1], .int (c1 : Int), q8, q9, q10, q11, q12, .list [darkD c0, darkD c1], .undef, .undef, .undef, .undef, .undef, .undef, .undef, .undef, .undef, .undef, .undef, .undef, .undef, .undef, .undef]) = some (.int (off : Int)) :=
    bin_of (bin_of (x := .int h1) (y := .int 972) rfl rfl (fdiv_int h1 972 (by decide) (by decide))) rfl hod
  refine (seq_of (asg_to (ds' := [.list (ns.map D.int), HP h0 h1 h2, .int (s : Int), namesD s, unseenD, besD, .list [bitsD c0, bitsD c1], .int (c1 : Int), q8, q9, q10, q11, q12, .list [darkD c0, darkD c1], .int (off : Int), .undef, .undef, .undef, .undef, .undef, .undef, .undef, .undef, .undef, .undef, .undef, .undef, .undef, .undef]) x14 rfl)).trans ?_
  -- the greys
  have xG : (eTup (lCons (fun _ => some (.int 0)) (lCons (eBin dAdd (fun _ => some (.int 1)) (eBin dMod (eBin dIdx (eVar 1) (fun _ => some (.int 2))) (fun _ => some (.int 4)))) lNil))) ([.list (ns.map D.int), HP h0 h1 h2, .int (s : Int), namesD s, unseenD, besD, .list [bitsD c0, bitsD c1], .int (c1 : Int), q8, q9, q10, q11, q12, .list [darkD c0, darkD c1], .int (off : Int), .undef, .undef, .undef, .undef, .undef, .undef, .undef, .undef, .undef, .undef, .undef, .undef, .undef, .undef]) = some (.tup [.int 0, .int ((1 + lv : Nat) : Int)]) := by
    refine etup_of (lcons_of rfl (lcons_of (bin_of rfl (bin_of (x := .int h2) (y := .int 4) rfl rfl hvd) rfl) rfl)) (show 2 ≤ 65536 by decide)
  have eG0' : BG ([.list (ns.map D.int), HP h0 h1 h2, .int (s : Int), namesD s, unseenD, besD, .list [bitsD c0, bitsD c1], .int (c1 : Int), q8, q9, q10, q11, q12, .list [darkD c0, darkD c1], .int (off : Int), .int 0, .undef, .undef, .undef, .undef, .undef, .undef, .undef, .undef, .undef, .undef, .undef, .undef, .undef]) = some (.next, [.list (ns.map D.int), HP h0 h1 h2, .int (s : Int), namesD s, unseenD, besD, .list [bitsD c0, bitsD c1], .int (c1 : Int), q8, q9, q10, q11, q12, .list [darkD c0, darkD c1], .int (off : Int), .int 0, g16, .undef, .undef, .undef, .undef, .undef, .undef, .undef, .undef, .undef, .undef, .undef, .undef]) := eG0
  have eG1' : BG ([.list (ns.map D.int), HP h0 h1 h2, .int (s : Int), namesD s, unseenD, besD, .list [bitsD c0, bitsD c1], .int (c1 : Int), q8, q9, q10, q11, q12, .list [darkD c0, darkD c1], .int (off : Int), .int ((1 + lv : Nat) : Int), g16, .undef, .undef, .undef, .undef, .undef, .undef, .undef, .undef, .undef, .undef, .undef, .undef]) = some (.next, [.list (ns.map D.int), HP h0 h1 h2, .int (s : Int), namesD s, unseenD, besD, .list [bitsD c0, bitsD c1], .int (c1 : Int), q8, q9, q10, q11, q12, .list [darkD c0, darkD c1], .int (off : Int), .int ((1 + lv : Nat) : Int), k16, .undef, .undef, .undef, .undef, .undef, .undef, .undef, .undef, .undef, .undef, .undef, .undef]) := eG1
  have eFG : (sFor (setK 15) (eTup (lCons (fun _ => some (.int 0)) (lCons (eBin dAdd (fun _ => some (.int 1)) (eBin dMod (eBin dIdx (eVar 1) (fun _ => some (.int 2))) (fun _ => some (.int 4)))) lNil))) BG sNil) ([.list (ns.map D.int), HP h0 h1 h2, .int (s : Int), namesD s, unseenD, besD, .list [bitsD c0, bitsD c1], .int (c1 : Int), q8, q9, q10, q11, q12, .list [darkD c0, darkD c1], .int (off : Int), .undef, .undef, .undef, .undef, .undef, .undef, .undef, .undef, .undef, .undef, .undef, .undef, .undef, .undef]) = some (.next, [.list (ns.map D.int), HP h0 h1 h2, .int (s : Int), namesD s, unseenD, besD, .list [bitsD c0, bitsD c1], .int (c1 : Int), q8, q9, q10, q11, q12, .list [darkD c0, darkD c1], .int (off : Int), .int ((1 + lv : Nat) : Int), k16, .undef, .undef, .undef, .undef, .undef, .undef, .undef, .undef, .undef, .undef, .undef, .undef]) := by
    rw [sFor_of xG (xs := [.int 0, .int ((1 + lv : Nat) : Int)]) rfl, for_loop]
    show (match (match BG ([.list (ns.map D.int), HP h0 h1 h2, .int (s : Int), namesD s, unseenD, besD, .list [bitsD c0, bitsD c1], .int (c1 : Int), q8, q9, q10, q11, q12, .list [darkD c0, darkD c1], .int (off : Int), .int 0, .undef, .undef, .undef, .undef, .undef, .undef, .undef, .undef, .undef, .undef, .undef, .undef, .undef]) with
      | some (.next, ds2) => forD (setK 15) BG [.int ((1 + lv : Nat) : Int)] ds2
      | r => r) with
      | some (.next, ds1) => sNil ds1
      | some (.brk, ds1) => some (.next, ds1)
      | r => r) = _
    rw [eG0']
    show (match forD (setK 15) BG [.int ((1 + lv : Nat) : Int)] ([.list (ns.map D.int), HP h0 h1 h2, .int (s : Int), namesD s, unseenD, besD, .list [bitsD c0, bitsD c1], .int (c1 : Int), q8, q9, q10, q11, q12, .list [darkD c0, darkD c1], .int (off : Int), .int 0, g16, .undef, .undef, .undef, .undef, .undef, .undef, .undef, .undef, .undef, .undef, .undef, .undef]) with
      | some (.next, ds1) => sNil ds1
      | some (.brk, ds1) => some (.next, ds1)
      | r => r) = _
    rw [for_loop]
    show (match (match BG ([.list (ns.map D.int), HP h0 h1 h2, .int (s : Int), namesD s, unseenD, besD, .list [bitsD c0, bitsD c1], .int (c1 : Int), q8, q9, q10, q11, q12, .list [darkD c0, darkD c1], .int (off : Int), .int ((1 + lv : Nat) : Int), g16, .undef, .undef, .undef, .undef, .undef, .undef, .undef, .undef, .undef, .undef, .undef, .undef]) with
      | some (.next, ds2) => forD (setK 15) BG [] ds2
      | r => r) with
      | some (.next, ds1) => sNil ds1
      | some (.brk, ds1) => some (.next, ds1)
      | r => r) = _
    rw [eG1']
    rfl
  refine (seq_of eFG).trans ?_
  -- the turns
  have xt : (eBin dMod (eBin dFloorDiv (eBin dIdx (eVar 1) (fun _ => some (.int 1))) (fun _ => some (.int 3888))) (fun _ => some (.int 8))) ([.list (ns.map D.int), HP h0 h1 h2, .int (s : Int), namesD s, unseenD, besD, .list [bitsD c0, bitsD c1], .int (c1 : Int), q8, q9, q10, q11, q12, .list [darkD c0, darkD c1], .int (off : Int), .int ((1 + lv : Nat) : Int), k16, .undef, .undef, .undef, .undef, .undef, .undef, .undef, .undef, .undef, .undef, .undef, .undef]) = some (.int (t0 : Int)) :=
    bin_of (bin_of (x := .int h1) (y := .int 3888) rfl rfl (fdiv_int h1 3888 (by decide) (by decide))) rfl htd
  have xT : (eCall dRange (lCons (eBin dMod (eBin dFloorDiv (eBin dIdx (eVar 1) (fun _ => some (.int 1))) (fun _ => some (.int 3888))) (fun _ => some (.int 8))) (lCons (eBin dAdd (eBin dMod (eBin dFloorDiv (eBin dIdx (eVar 1) (fun _ => some (.int 1))) (fun _ => some (.int 3888))) (fun _ => some (.int 8))) (fun _ => some (.int 3))) lNil))) ([.list (ns.map D.int), HP h0 h1 h2, .int (s : Int), namesD s, unseenD, besD, .list [bitsD c0, bitsD c1], .int (c1 : Int), q8, q9, q10, q11, q12, .list [darkD c0, darkD c1], .int (off : Int), .int ((1 + lv : Nat) : Int), k16, .undef, .undef, .undef, .undef, .undef, .undef, .undef, .undef, .undef, .undef, .undef, .undef]) = some (.rng (t0 : Int) ((t0 : Int) + 3)) := by
    refine call_of (lcons_of xt (lcons_of (bin_of xt rfl rfl) rfl)) ?_
    show (if -65536 ≤ (t0 : Int) ∧ (t0 : Int) ≤ 65536 ∧ -65536 ≤ (t0 : Int) + 3 ∧ (t0 : Int) + 3 ≤ 65536 then some (D.rng (t0 : Int) ((t0 : Int) + 3)) else none) = _
    rw [if_pos (by omega)]
  have hits : itemsD (.rng (t0 : Int) ((t0 : Int) + 3)) = some ([t0, t0 + 1, t0 + 2].map fun (t : Nat) => D.int (t : Int)) := by
    show (if -65536 ≤ (t0 : Int) ∧ (t0 : Int) ≤ 65536 ∧ -65536 ≤ (t0 : Int) + 3 ∧ (t0 : Int) + 3 ≤ 65536 then some (rangeItems (t0 : Int) ((t0 : Int) + 3)) else none) = _
    rw [if_pos (by omega)]
    unfold rangeItems
    rw [show ((t0 : Int) + 3 - (t0 : Int)).toNat = 3 by omega]
    rfl
  have eFT : (sFor (setK 17) (eCall dRange (lCons (eBin dMod (eBin dFloorDiv (eBin dIdx (eVar 1) (fun _ => some (.int 1))) (fun _ => some (.int 3888))) (fun _ => some (.int 8))) (lCons (eBin dAdd (eBin dMod (eBin dFloorDiv (eBin dIdx (eVar 1) (fun _ => some (.int 1))) (fun _ => some (.int 3888))) (fun _ => some (.int 8))) (fun _ => some (.int 3))) lNil))) BT sNil) ([.list (ns.map D.int), HP h0 h1 h2, .int (s : Int), namesD s, unseenD, besD, .list [bitsD c0, bitsD c1], .int (c1 : Int), q8, q9, q10, q11, q12, .list [darkD c0, darkD c1], .int (off : Int), .int ((1 + lv : Nat) : Int), k16, .undef, .undef, .undef, .undef, .undef, .undef, .undef, .undef, .undef, .undef, .undef, .undef]) = some (.next, [.list (ns.map D.int), HP h0 h1 h2, .int (s : Int), namesD s, unseenD, besD, .list [bitsD c0, bitsD c1], .int (c1 : Int), r8, q9, q10, q11, q12, .list [darkD c0, darkD c1], .int (off : Int), .int ((1 + lv : Nat) : Int), k16, r17, r18, r19, r20, r21, r22, r23, r24, r25, r26, r27, r28]) := by
    rw [sFor_of xT hits, eT]
  refine (seq_of eFT).trans ?_
  exact seq_ret rfl
end
end Mine
open PySem PySem.W PyProof.Rows
set_option maxHeartbeats 8000000 in
theorem PySem.Challenge.cw_rl0104_01_holds : PySem.Challenge.rw_rl0104_01.Holds := by
  refine holds_law (by decide +kernel) fun said => ?_
  exact Mine.row_holds Mine.law_pure said
