import PyProof.Rows.All
import Wide.All
import OpenK.AllK
import Wide.FinOn
import KE.BitLaws
import PySem.Builtin.Re_Pattern.W2All
import PySem.Challenge.RW_pe0164_01
set_option Elab.async false
set_option maxRecDepth 100000
section
open PySem PySem.W PyProof.Rows
set_option Elab.async false
set_option maxRecDepth 100000
set_option maxHeartbeats 0
namespace Mine
open_top hd for PySem.Challenge.rw_pe0164_01
end Mine
end

section
set_option maxRecDepth 100000
namespace Mine
open PySem PySem.W PySem.Calls PyProof.Rows

/-- abstract values: lists by value; oi/ol are lists that the frame alone holds -/
inductive AV where
  | none
  | bool (b : Bool)
  | int (i : Int)
  | str (s : Str)
  | li (xs : List Int)
  | ls (xs : List Str)
  | tu (xs : List Int)
  | rg (n : Nat)
  | oi (xs : List Int)
  | ol (xs : List Str)
  | raw (v : Value)
  | fn (a : Addr) (fd : FuncData)

def VRel (h : Heap) (O : Addr → Prop) (cv : Value) : AV → Prop
  | .none => cv = .none
  | .bool b => cv = .bool b
  | .int i => ∃ t, cv = .int i t
  | .str s => ∃ t, cv = .str s t
  | .li xs => ∃ a vs, cv = .ref a ∧ ¬ O a ∧ h.IsList a (List.toArray vs) ∧ IntsAre vs xs
  | .ls xs => ∃ a vs, cv = .ref a ∧ ¬ O a ∧ h.IsList a (List.toArray vs) ∧ StrsAre vs xs
  | .tu xs => ∃ a vs, cv = .ref a ∧ h.IsTuple a (List.toArray vs) ∧ IntsAre vs xs
  | .rg n => ∃ a t u v, cv = .ref a ∧ IsRange h a 0 n 1 t u v
  | .oi xs => ∃ a vs, cv = .ref a ∧ O a ∧ h.PlainList a (List.toArray vs) ∧ IntsAre vs xs
  | .ol xs => ∃ a vs, cv = .ref a ∧ O a ∧ h.PlainList a (List.toArray vs) ∧ StrsAre vs xs
  | .raw v => cv = v
  | .fn a fd => cv = .ref a ∧ (∃ o, h.get? a = some o ∧ o.data = .func fd) ∧ h.CodeRec fd.code fd.qualname

/-- the state of one code table: empty, or the one nested def's code -/
def TG (P : Addr) (l c : Nat) (q : Str) (h : Heap) : Prop :=
  ∃ ps, h.get? P = some (tabObj ps) ∧ (ps = #[] ∨ ∃ c', ps = #[rawInt l, rawInt c, .ref c'] ∧ h.CodeRec (.ref c') q)

def TabInv (h : Heap) : Prop :=
  TG 47 33 4 (Str.ofString "_int2digits.<locals>.inner") h ∧ TG 54 48 4 (Str.ofString "_digits2int.<locals>.inner") h

def KeepB (t : Bool) (h h' : Heap) : Prop := ∀ b o, (t = true → b ≠ 47 ∧ b ≠ 54) → h.get? b = some o → h'.get? b = some o

theorem KeepB.refl (t : Bool) (h : Heap) : KeepB t h h := fun _ _ _ e => e
theorem KeepB.trans {t : Bool} {h h' h'' : Heap} (x : KeepB t h h') (y : KeepB t h' h'') : KeepB t h h'' := fun b o n e => y b o n (x b o n e)
theorem KeepB.full {h h' : Heap} (x : KeepB false h h') : ∀ b o, h.get? b = some o → h'.get? b = some o := fun b o e => x b o (fun h => nomatch h) e
theorem KeepB.of {t : Bool} {h h' : Heap} (x : ∀ b o, h.get? b = some o → h'.get? b = some o) : KeepB t h h' := fun b o _ e => x b o e
theorem KeepB.up {t : Bool} {h h' : Heap} (x : KeepB false h h') : KeepB t h h' := .of x.full

theorem TG.keeps {P : Addr} {l c : Nat} {q : Str} {h h' : Heap} (x : TG P l c q h) (k : ∀ b o, h.get? b = some o → h'.get? b = some o) : TG P l c q h' := by
  obtain ⟨ps, e, r⟩ := x
  refine ⟨ps, k _ _ e, r.imp id fun ⟨c', e1, e2⟩ => ⟨c', e1, e2.keeps k⟩⟩
theorem TabInv.keeps {h h' : Heap} (x : TabInv h) (k : ∀ b o, h.get? b = some o → h'.get? b = some o) : TabInv h' := ⟨x.1.keeps k, x.2.keeps k⟩

/-- an object that is no table is kept -/
theorem KeepB.get {t : Bool} {h h' : Heap} (x : KeepB t h h') (T : TabInv h) {b : Addr} {o : Obj} (e : h.get? b = some o) (ne : ∀ ps, o ≠ tabObj ps) : h'.get? b = some o := by
  obtain ⟨⟨p1, e1, _⟩, ⟨p2, e2, _⟩⟩ := T
  refine x b o (fun _ => ⟨fun q => ?_, fun q => ?_⟩) e
  · subst q; rw [e1] at e; exact ne p1 (Option.some.inj e).symm
  · subst q; rw [e2] at e; exact ne p2 (Option.some.inj e).symm

section
variable {t : Bool} {h h' : Heap} {O : Addr → Prop}
theorem keep_ns (x : KeepB t h h') (T : TabInv h) {a : Addr} {m : Str → Option Value} (n : h.Ns a m) : h'.Ns a m := by
  obtain ⟨o, es, ep, e, hd, r⟩ := n
  exact ⟨o, es, ep, x.get T e (fun ps q => by subst q; cases hd), hd, r⟩
theorem keep_list (x : KeepB t h h') (T : TabInv h) {a : Addr} {its : Array Value} (n : h.IsList a its) : h'.IsList a its := by
  obtain ⟨o, e, hc, r⟩ := n
  exact ⟨o, x.get T e (fun ps q => by subst q; cases hc), hc, r⟩
theorem keep_tuple (x : KeepB t h h') (T : TabInv h) {a : Addr} {its : Array Value} (n : h.IsTuple a its) : h'.IsTuple a its := by
  obtain ⟨o, e, hc, r⟩ := n
  exact ⟨o, x.get T e (fun ps q => by subst q; cases hc), hc, r⟩
theorem keep_plain (x : KeepB t h h') (T : TabInv h) {a : Addr} {its : Array Value} (n : h.PlainList a its) : h'.PlainList a its := by
  obtain ⟨k, e⟩ := n
  exact ⟨k, x.get T e (fun ps q => by cases q)⟩
theorem keep_cell (x : KeepB t h h') (T : TabInv h) {c : Addr} {v : Option Value} (n : h.IsCell c v) : h'.IsCell c v := by
  obtain ⟨o, e, hd⟩ := n
  exact ⟨o, x.get T e (fun ps q => by subst q; cases hd), hd⟩
theorem keep_rec (x : KeepB t h h') (T : TabInv h) {c : Value} {q : Str} (n : h.CodeRec c q) : h'.CodeRec c q := by
  obtain ⟨a, o, vs, tk, rfl, e, hd, hv⟩ := n
  refine ⟨a, o, vs, tk, rfl, ?_, hd, hv⟩
  obtain ⟨⟨p1, e1, r1⟩, ⟨p2, e2, r2⟩⟩ := T
  refine x a o (fun _ => ⟨fun q => ?_, fun q => ?_⟩) e
  · subst q; rw [e1] at e; cases e; cases hd
    rcases r1 with rfl | ⟨c', rfl, _⟩
    · simp at hv
    · simp [rawInt] at hv
  · subst q; rw [e2] at e; cases e; cases hd
    rcases r2 with rfl | ⟨c', rfl, _⟩
    · simp at hv
    · simp [rawInt] at hv
theorem keep_v (x : KeepB t h h') (T : TabInv h) {cv : Value} {v : AV} (r : VRel h O cv v) : VRel h' O cv v := by
  cases v with
  | none => exact r
  | bool => exact r
  | int => exact r
  | str => exact r
  | raw => exact r
  | fn a fd => obtain ⟨e, ⟨o, e1, e2⟩, c⟩ := r; exact ⟨e, ⟨o, x.get T e1 (fun ps q => by subst q; cases e2), e2⟩, keep_rec x T c⟩
  | li xs => obtain ⟨a, vs, e, no, l, i⟩ := r; exact ⟨a, vs, e, no, keep_list x T l, i⟩
  | ls xs => obtain ⟨a, vs, e, no, l, i⟩ := r; exact ⟨a, vs, e, no, keep_list x T l, i⟩
  | tu xs => obtain ⟨a, vs, e, l, i⟩ := r; exact ⟨a, vs, e, keep_tuple x T l, i⟩
  | rg n => obtain ⟨a, t, u, v, e, l⟩ := r; exact ⟨a, t, u, v, e, x.get T l (fun ps q => by cases q)⟩
  | oi xs => obtain ⟨a, vs, e, no, l, i⟩ := r; exact ⟨a, vs, e, no, keep_plain x T l, i⟩
  | ol xs => obtain ⟨a, vs, e, no, l, i⟩ := r; exact ⟨a, vs, e, no, keep_plain x T l, i⟩
end

abbrev Al := List (Str × AV)

/-- a name's value in a frame: a local's or a cell's -/
def varOf (env : Env) (m cm : Str → Option Value) (x : Str) : Option Value :=
  match env.kindOf x with
  | some .local => m x
  | some .cell => if (env.cells.lookup x).isSome then cm x else none
  | some .free => if (env.cells.lookup x).isSome then cm x else none
  | _ => none

/-- what an expression may read -/
structure Rd (hb : Heap) (env : Env) (h : Heap) (m cm : Str → Option Value) (α : Al) (O : Addr → Prop) : Prop where
  fn : env.scope.kind = .function
  gl : env.globals = mainGlobals
  bi : env.builtins = builtinsNs
  ns : h.Ns env.locals m
  cells : ∀ x c, env.cells.lookup x = some c → h.IsCell c (cm x)
  vars : ∀ x v, α.lookup x = some v → ∃ cv, varOf env m cm x = some cv ∧ VRel h O cv v
  base : ∀ b o, hb.get? b = some o → h.get? b = some o
  tab : TabInv h
  own : ∀ a, O a → ∃ its, h.PlainList a its

theorem Rd.keep {hb : Heap} {env : Env} {h h' : Heap} {m cm : Str → Option Value} {α : Al} {O : Addr → Prop} {t : Bool} (R : Rd hb env h m cm α O) (x : KeepB t h h') (T : TabInv h') (hbt : hb.get? 47 = none ∧ hb.get? 54 = none) :
    Rd hb env h' m cm α O where
  fn := R.fn
  gl := R.gl
  bi := R.bi
  ns := keep_ns x R.tab R.ns
  cells := fun y c e => keep_cell x R.tab (R.cells y c e)
  vars := fun y v e => let ⟨cv, e1, e2⟩ := R.vars y v e; ⟨cv, e1, keep_v x R.tab e2⟩
  base := fun b o e => x b o (fun _ => ⟨fun q => (by subst q; rw [hbt.1] at e; cases e), fun q => (by subst q; rw [hbt.2] at e; cases e)⟩) (R.base b o e)
  tab := T
  own := fun a o => let ⟨its, p⟩ := R.own a o; ⟨its, keep_plain x R.tab p⟩

/-- the base: the written part, the namespaces of the module and of the builtins -/
structure Bs (K : Frag) (hb : Heap) (mg mb : Str → Option Value) : Prop where
  X : K.In hb
  g : hb.Ns mainGlobals mg
  b : hb.Ns builtinsNs mb
  nolimit : hb.NoLimit
  builtins : ∀ x : Str, x ≠ "__name__" → mb x = bootBuiltins x
  no : hb.get? 47 = none ∧ hb.get? 54 = none
  bmod : ∃ bm o, mg "__builtins__" = some (.ref bm) ∧ bm ≠ builtinsNs ∧ hb.get? bm = some o ∧ o.cls = .type "module" ∧ o.dict = some builtinsNs ∧ o.data = .plain
  c47 : CodeHd hb 51 47
  c54 : CodeHd hb 58 54

/-- room of the frames and of the C stack -/
structure Room (A : Around) (n : Nat) : Prop where
  hd : A.handled = none
  d : A.depth + n < recursionLimit
  u : A.units + 8 * n < cLine

/-- the expression e has the value v -/
structure Ev (prog : Program) (w : World) (hb : Heap) (A : Around) (env : Env) (t : Bool) (α : Al) (e : Expr) (v : AV) : Prop where
  go : ∀ (s : Shared) (m cm : Str → Option Value) (O : Addr → Prop) (Q E : Value → Shared → Prop), Rd hb env s.heap m cm α O →
    (∀ cv h' tk, KeepB t s.heap h' → TabInv h' → VRel h' O cv v → Q cv { s with heap := h', toks := tk }) → wpAny (model prog w) A (eval e env) Q E s

end Mine
end

section
set_option maxRecDepth 100000
set_option linter.unusedVariables false
namespace Mine
open PySem PySem.W PySem.Calls PyProof.Rows

section
variable {prog : Program} {w : World} {K : Frag} {hb : Heap} {mg mb : Str → Option Value} {A : Around} {env : Env} {t : Bool} {α : Al}

theorem Ev.up {e : Expr} {v : AV} (x : Ev prog w hb A env false α e v) : Ev prog w hb A env t α e v :=
  .mk fun s m cm O Q E R h => x.go s m cm O Q E R fun cv h' tk k T r => h cv h' tk k.up T r

theorem Ev.eqv {e : Expr} {v v' : AV} (x : Ev prog w hb A env t α e v) (h : v = v') : Ev prog w hb A env t α e v' := h ▸ x

/-- nothing but a token is made -/
theorem done_tok {s : Shared} {m cm : Str → Option Value} {O : Addr → Prop} {Q : Value → Shared → Prop} {v : AV} {cv : Value} {tk : Nat} (R : Rd hb env s.heap m cm α O)
    (h : ∀ cv h' tk, KeepB t s.heap h' → TabInv h' → VRel h' O cv v → Q cv { s with heap := h', toks := tk }) (r : VRel s.heap O cv v) : Q cv { s with toks := tk } :=
  h cv s.heap tk (.refl _ _) R.tab r

theorem Ev_int {i : Int} {k : Nat} {pos : Pos} : Ev prog w hb A env t α (.Constant (.int i) k pos) (.int i) :=
  .mk fun _ _ _ _ _ _ R h => wpAny_Constant_int (done_tok R h ⟨_, rfl⟩)
theorem Ev_str {x : Str} {k : Nat} {pos : Pos} : Ev prog w hb A env t α (.Constant (.str x) k pos) (.str x) :=
  .mk fun _ _ _ _ _ _ R h => wpAny_Constant_str (done_tok R h ⟨_, rfl⟩)
theorem Ev_bool {b : Bool} {k : Nat} {pos : Pos} : Ev prog w hb A env t α (.Constant (.bool b) k pos) (.bool b) :=
  .mk fun _ _ _ _ _ _ R h => wpAny_Constant_bool (done_tok (tk := _) R h rfl)

theorem rd_name {s : Shared} {m cm : Str → Option Value} {O : Addr → Prop} {Q E : Value → Shared → Prop} {x : Str} {pos : Pos} {cv : Value} (R : Rd hb env s.heap m cm α O) (e : varOf env m cm x = some cv)
    (hd : (x == ("__debug__" : Str)) = false) (hc : (x == ("__classdict__" : Str)) = false) (hq : Q cv s) : wpAny (model prog w) A (eval (.Name x pos) env) Q E s := by
  unfold varOf at e
  split at e
  · rename_i hk
    exact wpAny_Name (wpAny_loadName_local R.fn hk R.ns e hq) hd
  · rename_i hk
    split at e
    · rename_i hs
      obtain ⟨c, hc'⟩ := Option.isSome_iff_exists.mp hs
      have := R.cells x c hc'
      rw [e] at this
      exact wpAny_Name (wpAny_loadName_cell R.fn hk hc' this hq) hd
    · cases e
  · rename_i hk
    split at e
    · rename_i hs
      obtain ⟨c, hc'⟩ := Option.isSome_iff_exists.mp hs
      have := R.cells x c hc'
      rw [e] at this
      exact wpAny_Name (wpAny_loadName_free R.fn hk hc' this hq hc) hd
    · cases e
  · cases e
theorem rd_load {s : Shared} {m cm : Str → Option Value} {O : Addr → Prop} {Q E : Value → Shared → Prop} {x : Str} {cv : Value} (R : Rd hb env s.heap m cm α O) (e : varOf env m cm x = some cv)
    (hc : (x == ("__classdict__" : Str)) = false) (hq : Q cv s) : wpAny (model prog w) A (loadName env x) Q E s := by
  unfold varOf at e
  split at e
  · rename_i hk
    exact wpAny_loadName_local R.fn hk R.ns e hq
  · rename_i hk
    split at e
    · rename_i hs
      obtain ⟨c, hc'⟩ := Option.isSome_iff_exists.mp hs
      have := R.cells x c hc'
      rw [e] at this
      exact wpAny_loadName_cell R.fn hk hc' this hq
    · cases e
  · rename_i hk
    split at e
    · rename_i hs
      obtain ⟨c, hc'⟩ := Option.isSome_iff_exists.mp hs
      have := R.cells x c hc'
      rw [e] at this
      exact wpAny_loadName_free R.fn hk hc' this hq hc
    · cases e
  · cases e
theorem Ev_name {x : Str} {pos : Pos} {v : AV} (hv : α.lookup x = some v) (hd : (x == ("__debug__" : Str)) = false) (hc : (x == ("__classdict__" : Str)) = false) :
    Ev prog w hb A env t α (.Name x pos) v := .mk fun s m cm O Q E R h => by
  obtain ⟨cv, e, r⟩ := R.vars x v hv
  exact rd_name R e hd hc (done_tok (tk := s.toks) R h r)

theorem Ev_glob (B : Bs K hb mg mb) {x : Str} {pos : Pos} {cv : Value} {v : AV} (hk : env.kindOf x = some .globalImplicit) (e : nsIn K mainGlobals x = some (some cv)) (r : ∀ h O, VRel h O cv v)
    (hd : (x == ("__debug__" : Str)) = false) : Ev prog w hb A env t α (.Name x pos) v := .mk fun s m cm O Q E R h => by
  refine Name_function_global R.fn hk (loadGlobal_global ?_ (mg_of B.X B.g e) (done_tok (tk := s.toks) R h (r _ _))) hd
  rw [R.gl]; exact B.g.keeps R.base
theorem Ev_boot (B : Bs K hb mg mb) {x : Str} {pos : Pos} {cv : Value} (hk : env.kindOf x = some .globalImplicit) (e : nsIn K mainGlobals x = some none) (hv : bootBuiltins x = some cv) (hn : x ≠ "__name__")
    (hd : (x == ("__debug__" : Str)) = false) : Ev prog w hb A env t α (.Name x pos) (.raw cv) := .mk fun s m cm O Q E R h => by
  refine Name_function_global R.fn hk (loadGlobal_builtin ?_ (mg_none_of B.X B.g e) ?_ ((B.builtins x hn).trans hv) (done_tok (tk := s.toks) R h rfl)) hd
  · rw [R.gl]; exact B.g.keeps R.base
  · rw [R.bi]; exact B.b.keeps R.base

/-- one step of a built-in operation: it makes things, and turns nothing -/
structure Mk (prog : Program) (w : World) (A : Around) (tr : Sem Value) (s : Shared) (O : Addr → Prop) (v : AV) : Prop where
  go : ∀ (Q E : Value → Shared → Prop), (∀ cv h' tk, (∀ b o, s.heap.get? b = some o → h'.get? b = some o) → VRel h' O cv v → Q cv { s with heap := h', toks := tk }) → wpAny (model prog w) A tr Q E s

def Owned (O : Addr → Prop) (h : Heap) : Prop := ∀ a, O a → ∃ its, h.PlainList a its
theorem Owned.not_new {O : Addr → Prop} {h : Heap} (x : Owned O h) : ¬ O h.objs.size := fun o => by
  obtain ⟨_, _, e⟩ := x _ o
  exact absurd (Heap.lt_size e) (Nat.lt_irrefl _)

structure Bin (prog : Program) (w : World) (A : Around) (op : Operator) (a b v : AV) : Prop where
  go : ∀ (s : Shared) (O : Addr → Prop) (ca cb : Value), Owned O s.heap → VRel s.heap O ca a → VRel s.heap O cb b → Mk prog w A (binaryOp op ca cb) s O v

theorem Ev_bin (no : hb.get? 47 = none ∧ hb.get? 54 = none) {l r : Expr} {op : Operator} {pos : Pos} {a b v : AV} (hl : Ev prog w hb A env t α l a) (hr : Ev prog w hb A env t α r b) (ho : Bin prog w A op a b v) :
    Ev prog w hb A env t α (.BinOp l op r pos) v := .mk fun s m cm O Q E R h => by
  refine wpAny_BinOp (hl.go s m cm O _ E R fun ca h₁ tk₁ k₁ T₁ ra => ?_)
  have R₁ := R.keep k₁ T₁ no
  refine hr.go _ m cm O _ E R₁ fun cb h₂ tk₂ k₂ T₂ rb => ?_
  refine (ho.go { s with heap := h₂, toks := tk₂ } O ca cb (R₁.keep k₂ T₂ no).own (keep_v k₂ T₁ ra) rb).go Q E fun cv h₃ tk₃ k₃ rv => ?_
  exact h cv h₃ tk₃ (k₁.trans (k₂.trans (.of k₃))) (T₂.keeps k₃) rv

section
variable {a b : Int} {x y : Str}
theorem mk_tok {s : Shared} {O : Addr → Prop} {v : AV} {tr : Sem Value} {cv : Value} {tk : Nat} (r : VRel s.heap O cv v) (h : ∀ Q E, Q cv { s with toks := tk } → wpAny (model prog w) A tr Q E s) : Mk prog w A tr s O v :=
  .mk fun Q E hq => h Q E (hq cv s.heap tk (fun _ _ e => e) r)

theorem Bin_add : Bin prog w A .Add (.int a) (.int b) (.int (a + b)) := by
  refine .mk ?_
  rintro s O _ _ _ ⟨_, rfl⟩ ⟨_, rfl⟩; exact mk_tok ⟨_, rfl⟩ fun Q E h => PyProof.Rows.add_int h
theorem Bin_sub : Bin prog w A .Sub (.int a) (.int b) (.int (a - b)) := by
  refine .mk ?_
  rintro s O _ _ _ ⟨_, rfl⟩ ⟨_, rfl⟩; exact mk_tok ⟨_, rfl⟩ fun Q E h => PyProof.Rows.sub_int h
theorem Bin_mul (hm : IntMulOk a b) : Bin prog w A .Mult (.int a) (.int b) (.int (a * b)) := by
  refine .mk ?_
  rintro s O _ _ _ ⟨_, rfl⟩ ⟨_, rfl⟩; exact mk_tok ⟨_, rfl⟩ fun Q E h => PyProof.Rows.mul_int h hm
theorem Bin_mod (hb : b ≠ 0) : Bin prog w A .Mod (.int a) (.int b) (.int (a.fmod b)) := by
  refine .mk ?_
  rintro s O _ _ _ ⟨_, rfl⟩ ⟨_, rfl⟩; exact mk_tok ⟨_, rfl⟩ fun Q E h => PyProof.Rows.mod_int hb h
theorem Bin_div (hb : b ≠ 0) (hp : Builtin.divisionGoesByPylong a b = false) : Bin prog w A .FloorDiv (.int a) (.int b) (.int (a.fdiv b)) := by
  refine .mk ?_
  rintro s O _ _ _ ⟨_, rfl⟩ ⟨_, rfl⟩; exact mk_tok ⟨_, rfl⟩ fun Q E h => PyProof.Rows.floordiv_int hb h (.inl hp)
theorem Bin_pow (hn : 0 ≤ b) (hn2 : b ≤ 1000000) (ha : a.natAbs < 2 ^ 64) : Bin prog w A .Pow (.int a) (.int b) (.int (a ^ b.toNat)) := by
  refine .mk ?_
  rintro s O _ _ _ ⟨_, rfl⟩ ⟨_, rfl⟩; exact mk_tok ⟨_, rfl⟩ fun Q E h => PyProof.Rows.pow_int_small hn hn2 ha h
theorem Bin_shr (hn : 0 ≤ b) : Bin prog w A .RShift (.int a) (.int b) (.int (a.fdiv (2 ^ b.toNat))) := by
  refine .mk ?_
  rintro s O _ _ _ ⟨_, rfl⟩ ⟨_, rfl⟩; exact mk_tok ⟨_, rfl⟩ fun Q E h => PyProof.Rows.rshift_int hn h
theorem Bin_shl (hn : 0 ≤ b) (hn2 : b ≤ 1000000) (ha : a.natAbs < 2 ^ 64) : Bin prog w A .LShift (.int a) (.int b) (.int (a * 2 ^ b.toNat)) := by
  refine .mk ?_
  rintro s O _ _ _ ⟨_, rfl⟩ ⟨_, rfl⟩; exact mk_tok ⟨_, rfl⟩ fun Q E h => PyProof.Rows.lshift_int_small hn hn2 ha h
theorem Bin_xor : Bin prog w A .BitXor (.int a) (.int b) (.int (Builtin.bitXor a b)) := by
  refine .mk ?_
  rintro s O _ _ _ ⟨_, rfl⟩ ⟨_, rfl⟩; exact mk_tok ⟨_, rfl⟩ fun Q E h => PyProof.Rows.xor_int h
theorem Bin_and : Bin prog w A .BitAnd (.int a) (.int b) (.int (Builtin.bitAnd a b)) := by
  refine .mk ?_
  rintro s O _ _ _ ⟨_, rfl⟩ ⟨_, rfl⟩; exact mk_tok ⟨_, rfl⟩ fun Q E h => PyProof.Rows.and_int h
theorem Bin_addS (hz : x.length + y.length ≤ sizeLine) : Bin prog w A .Add (.str x) (.str y) (.str (x ++ y)) := by
  refine .mk ?_
  rintro s O _ _ _ ⟨t1, rfl⟩ ⟨t2, rfl⟩
  refine .mk fun Q E h => ?_
  exact SB.add (fun t' k => h _ s.heap k (fun _ _ e => e) ⟨_, rfl⟩) hz
theorem Bin_mulS (hok : MulOk x b) : Bin prog w A .Mult (.str x) (.int b) (.str (Txt.mul x b)) := by
  refine .mk ?_
  rintro s O _ _ _ ⟨t1, rfl⟩ ⟨t2, rfl⟩
  refine .mk fun Q E h => ?_
  exact SB.mul hok fun t' k => h _ s.heap k (fun _ _ e => e) ⟨_, rfl⟩
/-- a new list of the call's own -/
theorem mk_list {s : Shared} {O : Addr → Prop} {tr : Sem Value} {vs : List Value} {v : AV} {tk : Nat} (ow : Owned O s.heap)
    (r : ∀ h, h.IsList s.heap.objs.size (List.toArray vs) → ¬ O s.heap.objs.size → VRel h O (.ref s.heap.objs.size) v)
    (h : ∀ Q E, Q (.ref s.heap.objs.size) { s with heap := s.heap.push { cls := .type "list", data := .seq (List.toArray vs) }, toks := tk } → wpAny (model prog w) A tr Q E s) : Mk prog w A tr s O v :=
  .mk fun Q E hq => h Q E (hq _ _ tk (fun _ _ e => Heap.get?_push_of_some _ e) (r _ ⟨_, Heap.get?_push_size _ rfl, rfl, _, rfl⟩ ow.not_new))

theorem Bin_addL {xs ys : List Int} (hz : xs.length + ys.length ≤ sizeLine) : Bin prog w A .Add (.li xs) (.li ys) (.li (xs ++ ys)) := by
  refine .mk ?_
  rintro s O _ _ ow ⟨l, vs, rfl, _, ⟨⟨c, d1, dat, s1⟩, at1, ec, n1, ed⟩, hi⟩ ⟨b, ws, rfl, _, ⟨⟨c', d2, dat', s2⟩, at2, ec', n2, ed'⟩, hj⟩
  cases (show c = _ from ec); cases (show dat = _ from ed)
  cases (show c' = _ from ec'); cases (show dat' = _ from ed')
  have zz : vs.toArray.size + ws.toArray.size ≤ sizeLine := by rw [List.size_toArray, List.size_toArray, hi.length, hj.length]; exact hz
  have cat := list_addW l b vs.toArray ws.toArray n1 n2 d1 d2 s1 s2 zz
  rw [List.append_toArray] at cat
  refine mk_list (tk := s.toks) ow (fun _ li no => ⟨_, _, rfl, no, li, hi.append hj⟩) fun Q E h => ?_
  exact concat_meets ⟨_, at1, rfl⟩ ⟨_, at2, rfl⟩ noFill_list_add seq_list_add PySem.F.slot_list_add PySem.F.entry_list_add (PySem.F.args_list_add_2 _ _) cat ⟨at1, at2, h⟩

theorem IntsAre.rep {vs : List Value} {ns : List Int} (h : IntsAre vs ns) : ∀ k, IntsAre (List.replicate k vs).flatten (List.replicate k ns).flatten
  | 0 => .nil
  | k + 1 => by simp only [List.replicate_succ, List.flatten_cons]; exact h.append (IntsAre.rep h k)

/-- repetition of a list, with no frame in sight: in the walk of an expression, and at a list of a cell's own -/
theorem mul_raw {s : Shared} {l : Addr} {vs : List Value} {k : Int} {u : Tok} {Q E : Value → Shared → Prop} (hl : s.heap.IsList l (List.toArray vs)) (hlo : -(2 ^ 63 : Int) ≤ k) (hhi : k < 2 ^ 63) (hz : vs.length * k.toNat ≤ 2 ^ 24)
    (h : Q (.ref s.heap.objs.size) { s with heap := s.heap.push { cls := .type "list", data := .seq (List.replicate k.toNat vs).flatten.toArray } }) : wpAny (model prog w) A (binaryOp .Mult (.ref l) (.int k u)) Q E s := by
  obtain ⟨⟨c, dct, dat, slo⟩, at_, ec, n, ed⟩ := hl
  cases (show c = _ from ec); cases (show dat = _ from ed)
  have zz : vs.toArray.size * k.toNat ≤ 2 ^ 24 := by rw [List.size_toArray]; exact hz
  have fit := lm_list_mul_any l vs.toArray n dct slo k u (by simp [Builtin.List.listFitsIndex]; omega) (by omega) (by simp [Builtin.List.listTooLong, sizeLine]; omega)
  have num : ∀ s' : Shared, s'.TypeIs (.int k u) "int" := fun s' => typeIs_int s' k u
  have li : s.TypeIs (.ref l) "list" := ⟨_, at_, rfl⟩
  refine wpAny_binaryOp_repeat_ref (by decide) li num noFill_list_mul F.fills_int_mul F.slot_int_rmul repeat_list F.slot_int_index.lookup ?_
  refine call_meets F.slot_int_rmul (num s) F.entry_int_rmul (F.args_int_rmul_2 _ _) (lm_int_rmul_list_any k u l vs.toArray n dct slo) ⟨at_, rfl, li, ?_⟩
  refine call_meets F.slot_list_mul li F.entry_list_mul (F.args_list_mul_2 _ _) fit ⟨at_, ?_⟩
  rwa [listMul_foldl_if]
theorem Bin_mulL {xs : List Int} (hlo : -(2 ^ 63 : Int) ≤ b) (hhi : b < 2 ^ 63) (hz : xs.length * b.toNat ≤ 2 ^ 24) : Bin prog w A .Mult (.li xs) (.int b) (.li (List.replicate b.toNat xs).flatten) := by
  refine .mk ?_
  rintro s O _ _ ow ⟨l, vs, rfl, _, hl, hi⟩ ⟨u, rfl⟩
  exact mk_list (vs := (List.replicate b.toNat vs).flatten) (tk := s.toks) ow (fun h l n => ⟨_, _, rfl, n, l, IntsAre.rep hi _⟩) fun Q E h => mul_raw hl hlo hhi (by rw [hi.length]; exact hz) h
end

/-- the values of a row of expressions -/
def VAll (h : Heap) (O : Addr → Prop) : List Value → List AV → Prop
  | [], [] => True
  | c :: cs, v :: vs => VRel h O c v ∧ VAll h O cs vs
  | _, _ => False

theorem keep_all {h h' : Heap} {O : Addr → Prop} (x : KeepB t h h') (T : TabInv h) {cs : List Value} {vs : List AV} (r : VAll h O cs vs) : VAll h' O cs vs := by
  induction cs generalizing vs with
  | nil => cases vs with
    | nil => exact True.intro
    | cons n ns => exact False.elim r
  | cons v cs ih => cases vs with
    | nil => exact False.elim r
    | cons n ns => exact ⟨keep_v x T r.1, ih r.2⟩

structure EvL (prog : Program) (w : World) (hb : Heap) (A : Around) (env : Env) (t : Bool) (α : Al) (es : List Expr) (vs : List AV) : Prop where
  go : ∀ (pos : Pos) (s : Shared) (m cm : Str → Option Value) (O : Addr → Prop) (Q : List Value → Shared → Prop) (E : Value → Shared → Prop), Rd hb env s.heap m cm α O →
    (∀ cvs h' tk, KeepB t s.heap h' → TabInv h' → VAll h' O cvs vs → Q cvs { s with heap := h', toks := tk }) → wpAny (model prog w) A (spliced (backTo pos (starEach es env))) Q E s

theorem EvL_nil : EvL prog w hb A env t α [] [] := .mk fun pos s m cm O Q E R h => spliced_none (h [] s.heap s.toks (.refl _ _) R.tab trivial)
theorem EvL_cons (no : hb.get? 47 = none ∧ hb.get? 54 = none) {e : Expr} {es : List Expr} {v : AV} {vs : List AV} (he : Ev prog w hb A env t α e v) (hes : EvL prog w hb A env t α es vs)
    (hs : starEach (e :: es) env = (false, eval e env) :: starEach es env) : EvL prog w hb A env t α (e :: es) (v :: vs) := .mk fun pos s m cm O Q E R h => by
  refine spliced_more ?_ hs
  refine he.go s m cm O _ E R fun cv h₁ tk₁ k₁ T₁ r => ?_
  refine hes.go pos { s with heap := h₁, toks := tk₁ } m cm O _ E (R.keep k₁ T₁ no) fun cvs h₂ tk₂ k₂ T₂ rs => ?_
  exact h _ h₂ tk₂ (k₁.trans k₂) T₂ ⟨keep_v k₂ T₁ r, rs⟩

theorem ints_of {h : Heap} {O : Addr → Prop} {cs : List Value} {ns : List Int} (r : VAll h O cs (ns.map .int)) : IntsAre cs ns := by
  induction cs generalizing ns with
  | nil => cases ns with
    | nil => exact .nil
    | cons n ns => exact False.elim r
  | cons v cs ih => cases ns with
    | nil => exact False.elim r
    | cons n ns =>
      obtain ⟨⟨t, rfl⟩, r2⟩ := r
      exact .cons _ _ (ih r2)
theorem strs_of {h : Heap} {O : Addr → Prop} {cs : List Value} {ns : List Str} (r : VAll h O cs (ns.map .str)) : StrsAre cs ns := by
  induction cs generalizing ns with
  | nil => cases ns with
    | nil => exact .nil
    | cons n ns => exact False.elim r
  | cons v cs ih => cases ns with
    | nil => exact False.elim r
    | cons n ns =>
      obtain ⟨⟨t, rfl⟩, r2⟩ := r
      exact .cons _ _ (ih r2)

theorem Ev_listI (no : hb.get? 47 = none ∧ hb.get? 54 = none) {es : List Expr} {pos : Pos} {ns : List Int} (he : EvL prog w hb A env t α es (ns.map .int)) (hz : ns.length ≤ sizeLine) : Ev prog w hb A env t α (.List es pos) (.li ns) :=
  .mk fun s m cm O Q E R h => List_ (he.go pos s m cm O _ E R fun cvs h₁ tk₁ k₁ T₁ r => by
    have hi := ints_of r
    refine wpAny_newObj_type (h _ _ tk₁ (k₁.trans (.of fun _ _ e => Heap.get?_push_of_some _ e)) (T₁.keeps fun _ _ e => Heap.get?_push_of_some _ e) ⟨_, cvs, rfl, Owned.not_new (R.keep k₁ T₁ no).own, ⟨_, Heap.get?_push_size _ rfl, rfl, _, rfl⟩, hi⟩) ?_
    show cvs.toArray.size ≤ sizeLine
    rw [List.size_toArray, hi.length]; exact hz)
theorem Ev_listS (no : hb.get? 47 = none ∧ hb.get? 54 = none) {es : List Expr} {pos : Pos} {ns : List Str} (he : EvL prog w hb A env t α es (ns.map .str)) (hz : ns.length ≤ sizeLine) : Ev prog w hb A env t α (.List es pos) (.ls ns) :=
  .mk fun s m cm O Q E R h => List_ (he.go pos s m cm O _ E R fun cvs h₁ tk₁ k₁ T₁ r => by
    have hi := strs_of r
    refine wpAny_newObj_type (h _ _ tk₁ (k₁.trans (.of fun _ _ e => Heap.get?_push_of_some _ e)) (T₁.keeps fun _ _ e => Heap.get?_push_of_some _ e) ⟨_, cvs, rfl, Owned.not_new (R.keep k₁ T₁ no).own, ⟨_, Heap.get?_push_size _ rfl, rfl, _, rfl⟩, hi⟩) ?_
    show cvs.toArray.size ≤ sizeLine
    rw [List.size_toArray, hi.length]; exact hz)
theorem Ev_tuple {es : List Expr} {pos : Pos} {k : Nat} {ns : List Int} (he : EvL prog w hb A env t α es (ns.map .int)) (hz : ns.length ≤ sizeLine) : Ev prog w hb A env t α (.Tuple es k pos) (.tu ns) :=
  .mk fun s m cm O Q E R h => Tuple_ (he.go pos s m cm O _ E R fun cvs h₁ tk₁ k₁ T₁ r => by
    have hi := ints_of r
    refine wpAny_newObj_type (h _ _ tk₁ (k₁.trans (.of fun _ _ e => Heap.get?_push_of_some _ e)) (T₁.keeps fun _ _ e => Heap.get?_push_of_some _ e) ⟨_, cvs, rfl, ⟨_, Heap.get?_push_size _ rfl, rfl, _, rfl⟩, hi⟩) ?_
    show cvs.toArray.size ≤ sizeLine
    rw [List.size_toArray, hi.length]; exact hz)

/-- what a def of the text does: its contract -/
structure Fn (prog : Program) (w : World) (hb : Heap) (f : Addr) (t : Bool) (n : Nat) (args : List AV) (v : AV) : Prop where
  go : ∀ (A : Around) (s : Shared) (O : Addr → Prop) (cvs : List Value) (Q E : Value → Shared → Prop), Room A n → (∀ b o, hb.get? b = some o → s.heap.get? b = some o) → TabInv s.heap → Owned O s.heap → VAll s.heap O cvs args →
    (∀ cv h' tk, KeepB t s.heap h' → TabInv h' → VRel h' O cv v → Q cv { s with heap := h', toks := tk }) → wpAny (model prog w) A (call (.ref f) cvs) Q E s

theorem Ev_callf (B : Bs K hb mg mb) {x : Str} {p pos : Pos} {e : Expr} {es : List Expr} {vs : List AV} {v : AV} {f : Addr} {o : Obj} {fd : FuncData} {n : Nat} (rm : Room A n)
    (hf : Ev prog w hb A env t α (.Name x p) (.raw (.ref f))) (ho : K.lookup f = some o) (hdat : o.data = .func fd) (ha : EvL prog w hb A env t α (e :: es) vs) (hc : Fn prog w hb f t n vs v)
    (he : starEach (e :: es) env = (false, eval e env) :: starEach es env) (hst : (backTo pos (starEach es env)).any (·.1) = false) : Ev prog w hb A env t α (.Call (.Name x p) (e :: es) [] pos) v := .mk fun s m cm O Q E R h => by
  have ho' := B.X _ _ ho
  refine Call_Name rfl (hf.go s m cm O _ E R fun cv h₁ tk₁ k₁ T₁ r => ?_)
  obtain rfl : cv = .ref f := r
  have R₁ := R.keep k₁ T₁ B.no
  refine callWith_def hdat (ha.go pos { s with heap := h₁, toks := tk₁ } m cm O _ E R₁ fun cvs h₂ tk₂ k₂ T₂ rs => ?_) he
  have R₂ := R₁.keep k₂ T₂ B.no
  refine ⟨R₂.base _ _ ho', hc.go A { s with heap := h₂, toks := tk₂ } O cvs Q E rm R₂.base T₂ R₂.own rs fun cv h₃ tk₃ k₃ T₃ rv => ?_⟩
  exact h cv h₃ tk₃ (k₁.trans (k₂.trans k₃)) T₃ rv

/-- a built-in's answer -/
structure Bi (prog : Program) (w : World) (A : Around) (f : Value) (args : List AV) (v : AV) : Prop where
  go : ∀ (s : Shared) (O : Addr → Prop) (cvs : List Value), Owned O s.heap → VAll s.heap O cvs args → Mk prog w A (call f cvs) s O v

theorem Ev_callb (B : Bs K hb mg mb) {x : Str} {p pos : Pos} {e : Expr} {es : List Expr} {vs : List AV} {v : AV} {id : String}
    (hf : Ev prog w hb A env t α (.Name x p) (.raw (.builtin id))) (ha : EvL prog w hb A env t α (e :: es) vs) (hc : Bi prog w A (.builtin id) vs v)
    (he : starEach (e :: es) env = (false, eval e env) :: starEach es env) (hst : (backTo pos (starEach es env)).any (·.1) = false) : Ev prog w hb A env t α (.Call (.Name x p) (e :: es) [] pos) v := .mk fun s m cm O Q E R h => by
  refine Call_Name rfl (hf.go s m cm O _ E R fun cv h₁ tk₁ k₁ T₁ r => ?_)
  obtain rfl : cv = .builtin id := r
  have R₁ := R.keep k₁ T₁ B.no
  refine PyProof.Rows.callWith_builtin1 (ha.go pos { s with heap := h₁, toks := tk₁ } m cm O _ E R₁ fun cvs h₂ tk₂ k₂ T₂ rs => ?_) he hst
  have R₂ := R₁.keep k₂ T₂ B.no
  refine (hc.go { s with heap := h₂, toks := tk₂ } O cvs R₂.own rs).go Q E fun cv h₃ tk₃ k₃ rv => ?_
  exact h cv h₃ tk₃ (k₁.trans (k₂.trans (.of k₃))) (T₂.keeps k₃) rv
theorem Ev_callt (B : Bs K hb mg mb) {x : Str} {p pos : Pos} {e : Expr} {es : List Expr} {vs : List AV} {v : AV} {id : String}
    (hf : Ev prog w hb A env t α (.Name x p) (.raw (.type id))) (ha : EvL prog w hb A env t α (e :: es) vs) (hc : Bi prog w A (.type id) vs v)
    (he : starEach (e :: es) env = (false, eval e env) :: starEach es env) (hst : (backTo pos (starEach es env)).any (·.1) = false) : Ev prog w hb A env t α (.Call (.Name x p) (e :: es) [] pos) v := .mk fun s m cm O Q E R h => by
  refine Call_Name rfl (hf.go s m cm O _ E R fun cv h₁ tk₁ k₁ T₁ r => ?_)
  obtain rfl : cv = .type id := r
  have R₁ := R.keep k₁ T₁ B.no
  refine PyProof.Rows.callWith_type1 (ha.go pos { s with heap := h₁, toks := tk₁ } m cm O _ E R₁ fun cvs h₂ tk₂ k₂ T₂ rs => ?_) he hst
  have R₂ := R₁.keep k₂ T₂ B.no
  refine (hc.go { s with heap := h₂, toks := tk₂ } O cvs R₂.own rs).go Q E fun cv h₃ tk₃ k₃ rv => ?_
  exact h cv h₃ tk₃ (k₁.trans (k₂.trans (.of k₃))) (T₂.keeps k₃) rv
end
end Mine
end

section
set_option maxRecDepth 100000
set_option linter.unusedVariables false
namespace Mine
open PySem PySem.W PySem.Calls PyProof.Rows

section
variable {prog : Program} {w : World} {K : Frag} {hb : Heap} {mg mb : Str → Option Value} {A : Around} {env : Env} {t : Bool} {α : Al}

/-- an item: o[i] -/
structure Sub (prog : Program) (w : World) (A : Around) (value slice : Expr) (a i v : AV) : Prop where
  go : ∀ (s : Shared) (O : Addr → Prop) (ca ci : Value), Owned O s.heap → VRel s.heap O ca a → VRel s.heap O ci i → Mk prog w A (subscriptTail value slice ca ci) s O v

theorem Ev_sub (no : hb.get? 47 = none ∧ hb.get? 54 = none) {value slice : Expr} {pos : Pos} {a i v : AV} (ha : Ev prog w hb A env t α value a) (hi : Ev prog w hb A env t α slice i) (hs : Sub prog w A value slice a i v) :
    Ev prog w hb A env t α (.Subscript value slice pos) v := .mk fun s m cm O Q E R h => by
  refine Subscript_ (ha.go s m cm O _ E R fun ca h₁ tk₁ k₁ T₁ ra => ?_)
  have R₁ := R.keep k₁ T₁ no
  refine hi.go { s with heap := h₁, toks := tk₁ } m cm O _ E R₁ fun cb h₂ tk₂ k₂ T₂ rb => ?_
  refine (hs.go { s with heap := h₂, toks := tk₂ } O ca cb (R₁.keep k₂ T₂ no).own (keep_v k₂ T₁ ra) rb).go Q E fun cv h₃ tk₃ k₃ rv => ?_
  exact h cv h₃ tk₃ (k₁.trans (k₂.trans (.of k₃))) (T₂.keeps k₃) rv

theorem ints_at {vs : List Value} {ns : List Int} (h : IntsAre vs ns) : ∀ {k : Nat} {n : Int}, ns[k]? = some n → ∃ t, (List.toArray vs)[k]? = some (.int n t) := by
  induction h with
  | nil => intro k n e; simp at e
  | cons m tk r ih =>
    intro k n e
    cases k with
    | zero => simp at e; subst e; exact ⟨tk, by simp⟩
    | succ k => simp only [List.getElem?_cons_succ] at e; obtain ⟨u, hu⟩ := ih e; exact ⟨u, by simpa using hu⟩
theorem strs_at {vs : List Value} {ns : List Str} (h : StrsAre vs ns) : ∀ {k : Nat} {n : Str}, ns[k]? = some n → ∃ t, (List.toArray vs)[k]? = some (.str n t) := by
  induction h with
  | nil => intro k n e; simp at e
  | cons m tk r ih =>
    intro k n e
    cases k with
    | zero => simp at e; subst e; exact ⟨tk, by simp⟩
    | succ k => simp only [List.getElem?_cons_succ] at e; obtain ⟨u, hu⟩ := ih e; exact ⟨u, by simpa using hu⟩
theorem strs_len {vs : List Value} {ns : List Str} (h : StrsAre vs ns) : vs.length = ns.length := by
  induction h with
  | nil => rfl
  | cons _ _ _ ih => simp [ih]

section
variable {value slice : Expr} {ns : List Int} {ss : List Str} {k : Int}
/-- the subscript is no slice -/
def PlainIx (slice : Expr) : Prop := ∀ o i, subscripted slice false o i = operate [o, i] (getItem o i)
theorem nonneg_cast (h0 : 0 ≤ k) : k = (k.toNat : Int) := by omega
theorem Sub_li (hp : PlainIx slice) {n : Int} (h0 : 0 ≤ k) (hk : ns[k.toNat]? = some n) (hf : k < 2 ^ 63) : Sub prog w A value slice (.li ns) (.int k) (.int n) := by
  refine .mk ?_
  rintro s O _ _ ow ⟨a, vs, rfl, no, hl, hi⟩ ⟨u, rfl⟩
  obtain ⟨tk, e⟩ := ints_at hi hk
  exact mk_tok (tk := s.toks) (cv := .int n tk) ⟨_, rfl⟩ fun Q E h => tail_any hl.typeIs list_getitem_lookup (wpAny_getItem_list hl h0 hf e h) (hp _ _)
theorem Sub_ls (hp : PlainIx slice) {n : Str} (h0 : 0 ≤ k) (hk : ss[k.toNat]? = some n) (hf : k < 2 ^ 63) : Sub prog w A value slice (.ls ss) (.int k) (.str n) := by
  refine .mk ?_
  rintro s O _ _ ow ⟨a, vs, rfl, no, hl, hi⟩ ⟨u, rfl⟩
  obtain ⟨tk, e⟩ := strs_at hi hk
  exact mk_tok (tk := s.toks) (cv := .str n tk) ⟨_, rfl⟩ fun Q E h => tail_any hl.typeIs list_getitem_lookup (wpAny_getItem_list hl h0 hf e h) (hp _ _)
theorem Sub_ol (hp : PlainIx slice) {n : Str} (h0 : 0 ≤ k) (hk : ss[k.toNat]? = some n) (hf : k < 2 ^ 63) : Sub prog w A value slice (.ol ss) (.int k) (.str n) := by
  refine .mk ?_
  rintro s O _ _ ow ⟨a, vs, rfl, no, hl, hi⟩ ⟨u, rfl⟩
  obtain ⟨tk, e⟩ := strs_at hi hk
  exact mk_tok (tk := s.toks) (cv := .str n tk) ⟨_, rfl⟩ fun Q E h => tail_any hl.isList.typeIs list_getitem_lookup (wpAny_getItem_list hl.isList h0 hf e h) (hp _ _)
theorem Sub_ol_last (hp : PlainIx slice) {n : Str} (hk : ss[ss.length - 1]? = some n) : Sub prog w A value slice (.ol ss) (.int (-1)) (.str n) := by
  refine .mk ?_
  rintro s O _ _ ow ⟨a, vs, rfl, no, hl, hi⟩ ⟨u, rfl⟩
  obtain ⟨tk, e⟩ := strs_at hi hk
  have hlen := strs_len hi
  have hpos : 0 < ss.length := by cases ss with | nil => simp at hk | cons => simp
  refine mk_tok (tk := s.toks) (cv := .str n tk) ⟨_, rfl⟩ fun Q E h => tail_any hl.isList.typeIs list_getitem_lookup (wpAny_getItem_list_neg hl.isList (by omega) (by simp; omega) (by omega) ?_ h) (hp _ _)
  have : ((-1 : Int) + ((List.toArray vs).size : Int)).toNat = ss.length - 1 := by simp; omega
  rw [this]; exact e
theorem Sub_str (hp : PlainIx slice) {x : Str} (h1 : 0 ≤ k) (h2 : k < x.length) (hf : k < 2 ^ 63) : Sub prog w A value slice (.str x) (.int k) (.str (Txt.item x k)) := by
  refine .mk ?_
  rintro s O _ _ ow ⟨tk, rfl⟩ ⟨u, rfl⟩
  refine mk_tok ⟨_, rfl⟩ fun Q E h => item_str (by simp [fitsSsize]; omega) (by omega) h2 (fun _ => h) (hp _ _) (fun r => by unfold letTemporaryGo; split <;> first | rfl | (rename_i e; cases e))
end

/-- a bound of a slice -/
structure EvP (prog : Program) (w : World) (hb : Heap) (A : Around) (env : Env) (t : Bool) (α : Al) (e : Option Expr) (v : Option Int) : Prop where
  go : ∀ (s : Shared) (m cm : Str → Option Value) (O : Addr → Prop) (Q E : Value → Shared → Prop), Rd hb env s.heap m cm α O →
    (∀ cv h' tk, KeepB t s.heap h' → TabInv h' → IsPart cv v → Q cv { s with heap := h', toks := tk }) → wpAny (model prog w) A (evalPart e env) Q E s
theorem EvP_none : EvP prog w hb A env t α none none := .mk fun s m cm O Q E R h => evalPart_none_step (h .none s.heap s.toks (.refl _ _) R.tab .none)
theorem EvP_some {e : Expr} {i : Int} (he : Ev prog w hb A env t α e (.int i)) : EvP prog w hb A env t α (some e) (some i) := .mk fun s m cm O Q E R h =>
  evalPart_some_step (he.go s m cm O Q E R fun cv h' tk k T r => by obtain ⟨_, rfl⟩ := r; exact h _ h' tk k T (.int _ _))

theorem slice_core (no : hb.get? 47 = none ∧ hb.get? 54 = none) {value : Expr} {lo hi : Option Expr} {p pos : Pos} {a b : Option Int} {v v' : AV}
    (hv : Ev prog w hb A env t α value v) (hlo : EvP prog w hb A env t α lo a) (hhi : EvP prog w hb A env t α hi b)
    (hr : ∀ h O cv, VRel h O cv v → ∃ l vs, cv = .ref l ∧ h.IsList l (List.toArray vs) ∧ vs.length ≤ sizeLine ∧ ∀ h' l', ¬ O l' → h'.IsList l' (slicePick vs.toArray a b none) → VRel h' O (.ref l') v') :
    Ev prog w hb A env t α (.Subscript value (.Slice lo hi none p) pos) v' := .mk fun s m cm O Q E R h => by
  refine Subscript_ (hv.go s m cm O _ E R fun cv h₁ tk₁ k₁ T₁ r => ?_)
  have R₁ := R.keep k₁ T₁ no
  refine wpAny_Slice (hlo.go { s with heap := h₁, toks := tk₁ } m cm O _ E R₁ fun cl h₂ tk₂ k₂ T₂ pl => ?_)
  have R₂ := R₁.keep k₂ T₂ no
  refine hhi.go { s with heap := h₂, toks := tk₂ } m cm O _ E R₂ fun cu h₃ tk₃ k₃ T₃ pu => evalPart_none_step ?_
  have R₃ := R₂.keep k₃ T₃ no
  obtain ⟨l, vs, rfl, hl, hz, hr'⟩ := hr h₃ O cv (keep_v k₃ T₂ (keep_v k₂ T₁ r))
  dsimp only
  refine tail_any (Heap.IsList.typeIs (s := { s with heap := h₃.push { cls := .type "slice", data := .fields #[cl, cu, .none] }, toks := tk₃ }) (hl.push _)) list_getitem_lookup
    (wpAny_getItem_list_slice (hl.push _) (Heap.IsSliceOf.new ..) pl pu .none (by simp) ?_ (by simpa using hz)) (ops := [.ref h₃.objs.size, .ref l]) rfl
  have up : ∀ x o, h₃.get? x = some o → ((h₃.push { cls := .type "slice", data := .fields #[cl, cu, .none] }).push { cls := .type "list", data := .seq (slicePick vs.toArray a b none) }).get? x = some o :=
    fun x o e => Heap.get?_push_of_some _ (Heap.get?_push_of_some _ e)
  have no' : ¬ O (h₃.push { cls := .type "slice", data := .fields #[cl, cu, .none] }).objs.size := fun o => by
    obtain ⟨_, _, e⟩ := R₃.own _ o
    have := Heap.lt_size e
    rw [Heap.size_push] at this
    exact Nat.lt_irrefl _ (Nat.lt_of_succ_lt this)
  exact h _ _ tk₃ (k₁.trans (k₂.trans (k₃.trans (.of up)))) (T₃.keeps up) (hr' _ _ no' ⟨_, Heap.get?_push_size _ rfl, rfl, _, rfl⟩)

theorem Ev_sliceI (no : hb.get? 47 = none ∧ hb.get? 54 = none) {value : Expr} {lo hi : Option Expr} {p pos : Pos} {a b : Option Int} {ns rs : List Int}
    (hv : Ev prog w hb A env t α value (.li ns)) (hlo : EvP prog w hb A env t α lo a) (hhi : EvP prog w hb A env t α hi b) (hz : ns.length ≤ sizeLine)
    (hr : ∀ vs, IntsAre vs ns → IntsAre (slicePick (List.toArray vs) a b none).toList rs) : Ev prog w hb A env t α (.Subscript value (.Slice lo hi none p) pos) (.li rs) :=
  slice_core no hv hlo hhi fun h O cv r => by
    obtain ⟨l, vs, rfl, _, hl, hi⟩ := r
    exact ⟨l, vs, rfl, hl, by rw [hi.length]; exact hz, fun h' l' no' hl' => ⟨l', _, rfl, no', by simpa using hl', hr vs hi⟩⟩
theorem Ev_slice_to (no : hb.get? 47 = none ∧ hb.get? 54 = none) {value e : Expr} {p pos : Pos} {b : Int} {ns : List Int}
    (hv : Ev prog w hb A env t α value (.li ns)) (he : Ev prog w hb A env t α e (.int b)) (hz : ns.length ≤ sizeLine) (h0 : 0 ≤ b) : Ev prog w hb A env t α (.Subscript value (.Slice none (some e) none p) pos) (.li (ns.take b.toNat)) :=
  Ev_sliceI no hv EvP_none (EvP_some he) hz fun vs hi => slice_ints_uptoW hi h0
theorem Ev_slice_from (no : hb.get? 47 = none ∧ hb.get? 54 = none) {value e : Expr} {p pos : Pos} {b : Int} {ns : List Int}
    (hv : Ev prog w hb A env t α value (.li ns)) (he : Ev prog w hb A env t α e (.int b)) (hz : ns.length ≤ sizeLine) (h0 : 0 ≤ b) : Ev prog w hb A env t α (.Subscript value (.Slice (some e) none none p) pos) (.li (ns.drop b.toNat)) :=
  Ev_sliceI no hv (EvP_some he) EvP_none hz fun vs hi => slice_ints_fromW hi h0
theorem Ev_slice_both (no : hb.get? 47 = none ∧ hb.get? 54 = none) {value e e' : Expr} {p pos : Pos} {a b : Nat} {ns : List Int}
    (hv : Ev prog w hb A env t α value (.li ns)) (he : Ev prog w hb A env t α e (.int a)) (he' : Ev prog w hb A env t α e' (.int b)) (hz : ns.length ≤ sizeLine) :
    Ev prog w hb A env t α (.Subscript value (.Slice (some e) (some e') none p) pos) (.li ((ns.take b).drop a)) :=
  Ev_sliceI no hv (EvP_some he) (EvP_some he') hz fun vs hi => by
    have := slice_ints_plain hi (a : Int) (b : Int)
    have e1 : clipAt ns.length (a : Int) = min a ns.length := by unfold clipAt; split <;> omega
    have e2 : clipAt ns.length (b : Int) = min b ns.length := by unfold clipAt; split <;> omega
    rw [e1, e2] at this
    have e3 : (ns.drop (min a ns.length)).take (min b ns.length - min a ns.length) = (ns.take b).drop a := by
      rw [List.drop_take]
      by_cases ha : a ≤ ns.length
      · rw [Nat.min_eq_left ha]
        by_cases hb' : b ≤ ns.length
        · rw [Nat.min_eq_left hb']
        · rw [Nat.min_eq_right (by omega), List.take_of_length_le (by simp), List.take_of_length_le (by simp; omega)]
      · rw [List.drop_eq_nil_of_le (by omega), List.drop_eq_nil_of_le (by omega)]; simp
    rwa [e3] at this
theorem strs_drop : ∀ {vs : List Value} {ns : List Str}, StrsAre vs ns → ∀ k : Nat, StrsAre (vs.drop k) (ns.drop k)
  | _, _, h, 0 => h
  | _, _, .nil, _ + 1 => .nil
  | _, _, .cons _ _ h, k + 1 => strs_drop h k
theorem Ev_slice_fromS (no : hb.get? 47 = none ∧ hb.get? 54 = none) {value e : Expr} {p pos : Pos} {b : Nat} {ns : List Str}
    (hv : Ev prog w hb A env t α value (.ls ns)) (he : Ev prog w hb A env t α e (.int b)) (hz : ns.length ≤ sizeLine) : Ev prog w hb A env t α (.Subscript value (.Slice (some e) none none p) pos) (.ls (ns.drop b)) :=
  slice_core no hv (EvP_some he) EvP_none fun h O cv r => by
    obtain ⟨l, vs, rfl, _, hl, hi⟩ := r
    refine ⟨l, vs, rfl, hl, by rw [strs_len hi]; exact hz, fun h' l' no' hl' => ⟨l', vs.drop b, rfl, no', ?_, strs_drop hi b⟩⟩
    rw [slicePick_from' vs.toArray b] at hl'
    simpa using hl'

/-- a comparison -/
structure Cmp (prog : Program) (w : World) (A : Around) (op : CmpOp) (a b : AV) (r : Bool) : Prop where
  go : ∀ (s : Shared) (O : Addr → Prop) (ca cb : Value), Owned O s.heap → VRel s.heap O ca a → VRel s.heap O cb b → Mk prog w A (compareOp op ca cb) s O (.bool r)

theorem Ev_cmp (no : hb.get? 47 = none ∧ hb.get? 54 = none) {l r : Expr} {op : CmpOp} {pos : Pos} {a b : AV} {c : Bool} (hl : Ev prog w hb A env t α l a) (hr : Ev prog w hb A env t α r b) (hc : Cmp prog w A op a b c)
    (hm : behindInMarks op r = false) : Ev prog w hb A env t α (.Compare l [op] [r] pos) (.bool c) := .mk fun s m cm O Q E R h => by
  refine wpAny_Compare1 (hl.go s m cm O _ E R fun ca h₁ tk₁ k₁ T₁ ra => ?_) hm
  have R₁ := R.keep k₁ T₁ no
  refine hr.go { s with heap := h₁, toks := tk₁ } m cm O _ E R₁ fun cb h₂ tk₂ k₂ T₂ rb => ?_
  refine (hc.go { s with heap := h₂, toks := tk₂ } O ca cb (R₁.keep k₂ T₂ no).own (keep_v k₂ T₁ ra) rb).go Q E fun cv h₃ tk₃ k₃ rv => ?_
  exact h cv h₃ tk₃ (k₁.trans (k₂.trans (.of k₃))) (T₂.keeps k₃) rv

/-- a test -/
structure Tr (prog : Program) (w : World) (hb : Heap) (A : Around) (env : Env) (t : Bool) (α : Al) (e : Expr) (b : Bool) : Prop where
  go : ∀ (s : Shared) (m cm : Str → Option Value) (O : Addr → Prop) (Q : Bool → Shared → Prop) (E : Value → Shared → Prop), Rd hb env s.heap m cm α O →
    (∀ h' tk, KeepB t s.heap h' → TabInv h' → Q b { s with heap := h', toks := tk }) → wpAny (model prog w) A (isTrue e env (eval e env)) Q E s

theorem Tr_cmp (no : hb.get? 47 = none ∧ hb.get? 54 = none) {l r : Expr} {op : CmpOp} {pos : Pos} {a b : AV} {c : Bool} (hl : Ev prog w hb A env t α l a) (hr : Ev prog w hb A env t α r b) (hc : Cmp prog w A op a b c)
    (hm : behindInMarks op r = false) : Tr prog w hb A env t α (.Compare l [op] [r] pos) c := .mk fun s m cm O Q E R h => by
  refine wpAny_isTrue_Compare1 (hl.go s m cm O _ E R fun ca h₁ tk₁ k₁ T₁ ra => ?_) hm
  have R₁ := R.keep k₁ T₁ no
  refine hr.go { s with heap := h₁, toks := tk₁ } m cm O _ E R₁ fun cb h₂ tk₂ k₂ T₂ rb => ?_
  refine (hc.go { s with heap := h₂, toks := tk₂ } O ca cb (R₁.keep k₂ T₂ no).own (keep_v k₂ T₁ ra) rb).go _ E fun cv h₃ tk₃ k₃ rv => ?_
  obtain rfl : cv = .bool c := rv
  exact wpAny_truthy_bool (h h₃ tk₃ (k₁.trans (k₂.trans (.of k₃))) (T₂.keeps k₃))
theorem Tr_and_nil {pos : Pos} : Tr prog w hb A env t α (.BoolOp .And [] pos) true := .mk fun s m cm O Q E R h => isTrue_and_nil (h s.heap s.toks (.refl _ _) R.tab)
theorem Tr_and (no : hb.get? 47 = none ∧ hb.get? 54 = none) {x : Expr} {rest : List Expr} {pos : Pos} {b c : Bool} (hx : Tr prog w hb A env t α x b) (hr : b = true → Tr prog w hb A env t α (.BoolOp .And rest pos) c) :
    Tr prog w hb A env t α (.BoolOp .And (x :: rest) pos) (b && c) := .mk fun s m cm O Q E R h => by
  refine isTrue_and (hx.go s m cm O _ E R fun h₁ tk₁ k₁ T₁ => ?_)
  cases b with
  | false => exact h h₁ tk₁ k₁ T₁
  | true => exact (hr rfl).go { s with heap := h₁, toks := tk₁ } m cm O Q E (R.keep k₁ T₁ no) fun h₂ tk₂ k₂ T₂ => h h₂ tk₂ (k₁.trans k₂) T₂
theorem Tr_bool {e : Expr} {b : Bool} (he : Ev prog w hb A env t α e (.bool b)) (hp : isTrue e env (eval e env) = (do let v ← eval e env; standAt e.pos; holding [v] (truthy v))) : Tr prog w hb A env t α e b :=
  .mk fun s m cm O Q E R h => isTrue_plain (he.go s m cm O _ E R fun cv h' tk k T r => by obtain rfl : cv = .bool b := r; exact wpAny_truthy_bool (h h' tk k T)) hp
theorem Ev_ifexp (no : hb.get? 47 = none ∧ hb.get? 54 = none) {test body orelse : Expr} {pos : Pos} {b : Bool} {v : AV} (ht : Tr prog w hb A env t α test b) (h1 : b = true → Ev prog w hb A env t α body v) (h2 : b = false → Ev prog w hb A env t α orelse v) :
    Ev prog w hb A env t α (.IfExp test body orelse pos) v := .mk fun s m cm O Q E R h => by
  refine wpAny_IfExp (ht.go s m cm O _ E R fun h₁ tk₁ k₁ T₁ => ?_)
  cases b with
  | true => exact (h1 rfl).go { s with heap := h₁, toks := tk₁ } m cm O Q E (R.keep k₁ T₁ no) fun cv h₂ tk₂ k₂ T₂ r => h cv h₂ tk₂ (k₁.trans k₂) T₂ r
  | false => exact (h2 rfl).go { s with heap := h₁, toks := tk₁ } m cm O Q E (R.keep k₁ T₁ no) fun cv h₂ tk₂ k₂ T₂ r => h cv h₂ tk₂ (k₁.trans k₂) T₂ r

section
variable {a b : Int} {x y : Str} {p q : Bool}
theorem Cmp_eq : Cmp prog w A .Eq (.int a) (.int b) (a == b) := by
  refine .mk ?_
  rintro s O _ _ _ ⟨_, rfl⟩ ⟨_, rfl⟩; exact mk_tok (tk := s.toks) rfl fun Q E h => PyProof.Rows.eq_int h
theorem Cmp_ne : Cmp prog w A .NotEq (.int a) (.int b) (a != b) := by
  refine .mk ?_
  rintro s O _ _ _ ⟨_, rfl⟩ ⟨_, rfl⟩; exact mk_tok (tk := s.toks) rfl fun Q E h => PyProof.Rows.ne_int h
theorem Cmp_lt : Cmp prog w A .Lt (.int a) (.int b) (decide (a < b)) := by
  refine .mk ?_
  rintro s O _ _ _ ⟨_, rfl⟩ ⟨_, rfl⟩; exact mk_tok (tk := s.toks) rfl fun Q E h => PyProof.Rows.lt_int h
theorem Cmp_le : Cmp prog w A .LtE (.int a) (.int b) (decide (a ≤ b)) := by
  refine .mk ?_
  rintro s O _ _ _ ⟨_, rfl⟩ ⟨_, rfl⟩; exact mk_tok (tk := s.toks) rfl fun Q E h => PySem.P.le_int h
theorem Cmp_gt : Cmp prog w A .Gt (.int a) (.int b) (decide (a > b)) := by
  refine .mk ?_
  rintro s O _ _ _ ⟨_, rfl⟩ ⟨_, rfl⟩; exact mk_tok (tk := s.toks) rfl fun Q E h => PyProof.Rows.gt_int h
theorem Cmp_ge : Cmp prog w A .GtE (.int a) (.int b) (decide (a ≥ b)) := by
  refine .mk ?_
  rintro s O _ _ _ ⟨_, rfl⟩ ⟨_, rfl⟩; exact mk_tok (tk := s.toks) rfl fun Q E h => PySem.P.ge_int h
theorem Cmp_eqS : Cmp prog w A .Eq (.str x) (.str y) (x.cps.toList == y.cps.toList) := by
  refine .mk ?_
  rintro s O _ _ _ ⟨_, rfl⟩ ⟨_, rfl⟩; exact mk_tok (tk := s.toks) rfl fun Q E h => PySem.P.eq_str h
end
end
end Mine
end

section
set_option maxRecDepth 100000
set_option linter.unusedVariables false
namespace Mine
open PySem PySem.W PySem.Calls PyProof.Rows

/-- a plain item -/
def SRel (v : Value) : AV → Prop
  | .int n => ∃ t, v = .int n t
  | .str x => ∃ t, v = .str x t
  | _ => False
theorem SRel.v {v : Value} {a : AV} (h : SRel v a) (hp : Heap) (O : Addr → Prop) : VRel hp O v a := by
  cases a <;> first | exact h | exact h.elim

/-- what a loop takes from a value -/
def itemsOf : AV → Option (List AV)
  | .li ns => some (ns.map .int)
  | .ls ss => some (ss.map .str)
  | .rg n => some ((List.range n).map fun (i : Nat) => .int (i : Int))
  | _ => none

section
variable {prog : Program} {w : World} {K : Frag} {hb : Heap} {mg mb : Str → Option Value} {A : Around} {env : Env} {t : Bool} {α : Al}

/-- an object of an iterator's kind -/
def IterObj (o : Obj) : Prop := (∃ T, o.cls = .type T ∧ T ≠ "list" ∧ T ≠ "tuple" ∧ T ≠ "range") ∧ ∃ vs, o.data = .fields vs ∧ ∀ q t, vs[1]? ≠ some (.str q t)

/-- an iterator over the items -/
structure Itr (prog : Program) (w : World) (A : Around) (O : Addr → Prop) (h h₂ : Heap) (I : Addr) (items : List AV) (fp wr : List Addr) (P : Nat → Value → Prop) (St : Nat → Heap → Prop) : Prop where
  walks : Walks prog w A I fp wr items.length P St
  st : St 0 h₂
  low : ∀ b ∈ fp, b < h₂.objs.size
  new : ∀ b ∈ wr, h.get? b = none
  keep : ∀ b o, h.get? b = some o → h₂.get? b = some o
  odd : ∀ i h, St i h → ∀ b ∈ wr, ∃ o, h.get? b = some o ∧ IterObj o
  free : ∀ b ∈ fp, ¬ O b
  item : ∀ i v, P i v → ∃ a, items[i]? = some a ∧ SRel v a
  lst : ∀ b ∈ fp, b ∈ wr ∨ (∃ o its n, h.get? b = some o ∧ o.data = .seq its n)

theorem ints_item {vs : List Value} {ns : List Int} (h : IntsAre vs ns) : ∀ {k : Nat} {v : Value}, (List.toArray vs)[k]? = some v → ∃ a, (ns.map AV.int)[k]? = some a ∧ SRel v a := by
  induction h with
  | nil => intro k v e; simp at e
  | cons m tk r ih =>
    intro k v e
    cases k with
    | zero => simp at e; subst e; exact ⟨.int m, by simp, tk, rfl⟩
    | succ k => simp only [List.getElem?_toArray, List.getElem?_cons_succ] at e; obtain ⟨a, e1, e2⟩ := ih (k := k) (v := v) (by simpa using e); exact ⟨a, by simpa using e1, e2⟩
theorem strs_item {vs : List Value} {ns : List Str} (h : StrsAre vs ns) : ∀ {k : Nat} {v : Value}, (List.toArray vs)[k]? = some v → ∃ a, (ns.map AV.str)[k]? = some a ∧ SRel v a := by
  induction h with
  | nil => intro k v e; simp at e
  | cons m tk r ih =>
    intro k v e
    cases k with
    | zero => simp at e; subst e; exact ⟨.str m, by simp, tk, rfl⟩
    | succ k => simp only [List.getElem?_toArray, List.getElem?_cons_succ] at e; obtain ⟨a, e1, e2⟩ := ih (k := k) (v := v) (by simpa using e); exact ⟨a, by simpa using e1, e2⟩

theorem itr_list (hh : A.handled = none) {s : Shared} {O : Addr → Prop} {l : Addr} {vs : List Value} {items : List AV} {Q E : Value → Shared → Prop} (hl : s.heap.IsList l (List.toArray vs)) (hlen : vs.length = items.length)
    (hit : ∀ (i : Nat) (v : Value), (List.toArray vs)[i]? = some v → ∃ a, items[i]? = some a ∧ SRel v a)
    (ow : Owned O s.heap) (nl : ¬ O l) (h : ∀ I h₂ fp wr P St, Itr prog w A O s.heap h₂ I items fp wr P St → Q (.ref I) { s with heap := h₂ }) : wpAny (model prog w) A (pyIter (.ref l)) Q E s := by
  refine wpAny_pyIter_list hl ?_
  obtain ⟨o, e, hc, n, hd⟩ := id hl
  have lt := Heap.lt_size e
  refine h _ _ [s.heap.objs.size, l] [s.heap.objs.size] (fun i v => (List.toArray vs)[i]? = some v) (fun i h => h.IsListIter s.heap.objs.size l i ∧ h.IsList l (List.toArray vs))
    { walks := ?_, st := ⟨⟨_, Heap.get?_push_size _ rfl, rfl, rfl⟩, hl.push _⟩, low := ?_, new := ?_, keep := fun _ _ e => Heap.get?_push_of_some _ e, odd := ?_, free := ?_, item := hit, lst := ?_ }
  · have W := Walks.list (prog := prog) (w := w) (A := A) hh s.heap.objs.size l (Nat.ne_of_lt lt) (List.toArray vs)
    have e : (List.toArray vs).size = items.length := hlen ▸ List.size_toArray ..
    rw [e] at W
    exact W
  · intro b hb
    rw [Heap.size_push]
    simp only [List.mem_cons, List.not_mem_nil, or_false] at hb
    rcases hb with rfl | rfl
    · exact Nat.lt_succ_self _
    · exact Nat.lt_succ_of_lt lt
  · intro b hb
    simp only [List.mem_cons, List.not_mem_nil, or_false] at hb
    subst hb
    exact Heap.get?_none_of_le (Nat.le_refl _)
  · rintro i h' ⟨⟨oi, e1, e2, e3⟩, _⟩ b hb
    rw [List.mem_singleton.mp hb]
    exact ⟨oi, e1, ⟨_, e2, by decide, by decide, by decide⟩, _, e3, by simp⟩
  · intro b hb
    simp only [List.mem_cons, List.not_mem_nil, or_false] at hb
    rcases hb with rfl | rfl
    · exact ow.not_new
    · exact nl
  · intro b hb
    simp only [List.mem_cons, List.not_mem_nil, or_false] at hb
    rcases hb with rfl | rfl
    · exact .inl (.head _)
    · exact .inr ⟨o, _, n, e, hd⟩

theorem itr_of (hh : A.handled = none) {s : Shared} {O : Addr → Prop} {cv : Value} {a : AV} {items : List AV} {Q E : Value → Shared → Prop} (r : VRel s.heap O cv a) (e : itemsOf a = some items)
    (hz : items.length < 2 ^ 62) (ow : Owned O s.heap) (h : ∀ I h₂ fp wr P St, Itr prog w A O s.heap h₂ I items fp wr P St → Q (.ref I) { s with heap := h₂ }) : wpAny (model prog w) A (pyIter cv) Q E s := by
  cases a with
  | li ns =>
    obtain ⟨l, vs, rfl, nl, hl, hi⟩ := r
    cases e
    exact itr_list hh hl (by rw [hi.length, List.length_map]) (fun i v q => ints_item hi q) ow nl h
  | ls ss =>
    obtain ⟨l, vs, rfl, nl, hl, hi⟩ := r
    cases e
    exact itr_list hh hl (by rw [strs_len hi, List.length_map]) (fun i v q => strs_item hi q) ow nl h
  | rg n =>
    obtain ⟨l, t, u, v, rfl, hr⟩ := r
    cases e
    have hs : Builtin.Range.rangeSize 0 (n : Int) 1 = (n : Int) := by rw [rangeSize_one]; split <;> omega
    rw [List.length_map, List.length_range] at hz
    have hz' : (n : Int) < 2 ^ 62 := by omega
    refine wpAny_pyIter_range hr (small_one (by omega) (by omega) (by omega) hz') ?_
    rw [hs]
    have W := Walks.range (prog := prog) (w := w) (A := A) hh s.heap.objs.size 0 1 n
    refine h _ _ [s.heap.objs.size] [s.heap.objs.size] _ _
      { walks := by simpa using W.bound, st := ?_, low := ?_, new := ?_, keep := fun _ _ e => Heap.get?_push_of_some _ e, odd := ?_, free := ?_, item := ?_, lst := ?_ }
    · show IsRangeIter _ _ (0 + ((0 : Nat) : Int) * 1) ((n : Int) - ((0 : Nat) : Int)) 1
      have e1 : (0 + ((0 : Nat) : Int) * 1) = 0 := by omega
      have e2 : ((n : Int) - ((0 : Nat) : Int)) = n := by omega
      rw [e1, e2]
      exact Heap.get?_push_size _ rfl
    · intro b hm; rw [Heap.size_push]; rw [List.mem_singleton.mp hm]; exact Nat.lt_succ_self _
    · intro b hm; rw [List.mem_singleton.mp hm]; exact Heap.get?_none_of_le (Nat.le_refl _)
    · intro i h' st b hm
      rw [List.mem_singleton.mp hm]
      exact ⟨_, st, ⟨_, rfl, by decide, by decide, by decide⟩, _, rfl, by simp [rawInt]⟩
    · intro b hm; rw [List.mem_singleton.mp hm]; exact ow.not_new
    · rintro i v ⟨hi, tk, rfl⟩
      exact ⟨.int (i : Int), by simp [hi], tk, by simp⟩
    · intro b hb; exact .inl hb
  | _ => cases e


section
variable {ns : List Int} {ss : List Str} {x : Str}
theorem Bi_lenI (hz : ns.length ≤ 2 ^ 24) : Bi prog w A (.builtin "len") [.li ns] (.int ns.length) := by
  refine .mk ?_
  rintro s O (_ | ⟨_, _ | ⟨_, _⟩⟩) ow r <;> simp only [VAll, and_true, and_false] at r
  obtain ⟨l, vs, rfl, _, hl, hi⟩ := r
  have e : (List.toArray vs).size = ns.length := by rw [List.size_toArray, hi.length]
  refine mk_tok (tk := s.toks + 1 + 1) (cv := .int _ (s.toks + 1)) ⟨_, rfl⟩ fun Q E h => call_len_list hl (by rw [e]; omega) ?_
  rw [e]; exact h
theorem Bi_lenS (hz : ss.length ≤ 2 ^ 24) : Bi prog w A (.builtin "len") [.ls ss] (.int ss.length) := by
  refine .mk ?_
  rintro s O (_ | ⟨_, _ | ⟨_, _⟩⟩) ow r <;> simp only [VAll, and_true, and_false] at r
  obtain ⟨l, vs, rfl, _, hl, hi⟩ := r
  have e : (List.toArray vs).size = ss.length := by rw [List.size_toArray, strs_len hi]
  refine mk_tok (tk := s.toks + 1 + 1) (cv := .int _ (s.toks + 1)) ⟨_, rfl⟩ fun Q E h => call_len_list hl (by rw [e]; omega) ?_
  rw [e]; exact h
theorem Bi_lenO (hz : ss.length ≤ 2 ^ 24) : Bi prog w A (.builtin "len") [.ol ss] (.int ss.length) := by
  refine .mk ?_
  rintro s O (_ | ⟨_, _ | ⟨_, _⟩⟩) ow r <;> simp only [VAll, and_true, and_false] at r
  obtain ⟨l, vs, rfl, _, hl, hi⟩ := r
  have e : (List.toArray vs).size = ss.length := by rw [List.size_toArray, strs_len hi]
  refine mk_tok (tk := s.toks + 1 + 1) (cv := .int _ (s.toks + 1)) ⟨_, rfl⟩ fun Q E h => call_len_list hl.isList (by rw [e]; omega) ?_
  rw [e]; exact h
theorem Bi_lenT (hz : x.length ≤ 2 ^ 24) : Bi prog w A (.builtin "len") [.str x] (.int x.length) := by
  refine .mk ?_
  rintro s O (_ | ⟨_, _ | ⟨_, _⟩⟩) ow r <;> simp only [VAll, and_true, and_false] at r
  obtain ⟨l, rfl⟩ := r
  exact mk_tok ⟨_, rfl⟩ fun Q E h => PySem.P.len_str (by omega) h
theorem Bi_range {n : Nat} : Bi prog w A (.type "range") [.int n] (.rg n) := by
  refine .mk ?_
  rintro s O (_ | ⟨_, _ | ⟨_, _⟩⟩) ow r <;> simp only [VAll, and_true, and_false] at r
  obtain ⟨l, rfl⟩ := r
  refine .mk fun Q E h => ?_
  exact call_range_1 (h _ _ _ (fun _ _ e => Heap.get?_push_of_some _ e) ⟨_, _, _, _, rfl, IsRange.new ..⟩)

theorem preSum_list : ∀ (ns : List Int), preSum (fun i => ns.getD i 0) ns.length = ns.sum := by
  intro ns
  have key : ∀ k, k ≤ ns.length → preSum (fun i => ns.getD i 0) k = (ns.take k).sum := by
    intro k
    induction k with
    | zero => intro _; simp [preSum]
    | succ k ih =>
      intro hk
      rw [preSum, ih (by omega), List.take_add_one, List.sum_append]
      have : ns[k]? = some (ns[k]'(by omega)) := List.getElem?_eq_getElem (by omega)
      simp [this, List.getD]
  rw [key _ (Nat.le_refl _), List.take_length]

theorem Bi_sum (hh : A.handled = none) (hz : ns.length < 2 ^ 62) : Bi prog w A (.builtin "sum") [.li ns] (.int ns.sum) := by
  refine .mk ?_
  rintro s O (_ | ⟨_, _ | ⟨_, _⟩⟩) ow r <;> simp only [VAll, and_true, and_false] at r
  refine .mk fun Q E h => ?_
  refine call_sum_walkG (itr_of (A := A.in1) hh (O := O) (a := .li ns) (items := ns.map .int) r rfl (by simpa using hz) ow fun I h₂ fp wr P St it => ?_)
  refine ⟨I, fp, wr, ns.length, P, St, fun i => ns.getD i 0, rfl, by simpa using it.walks, it.st, it.low, ?_, ?_⟩
  · intro i v hp
    obtain ⟨a, e, sr⟩ := it.item i v hp
    rw [List.getElem?_map] at e
    obtain ⟨n, e1, rfl⟩ := Option.map_eq_some_iff.mp e
    obtain ⟨tk, rfl⟩ := sr
    exact ⟨tk, by simp [List.getD, e1]⟩
  · intro h' tk t' hk
    rw [preSum_list]
    refine h _ h' tk (fun b o e => hk b o (fun hm => by have := it.new b hm; rw [e] at this; cases this) (it.keep b o e)) ⟨_, rfl⟩
end

/-- the names that a comprehension sees -/
def capt (cl : List (Str × Addr)) (α : Al) : Al := α.filter fun p => (cl.lookup p.1).isSome

theorem capt_lookup {cl : List (Str × Addr)} {α : Al} {y : Str} {v : AV} (e : (capt cl α).lookup y = some v) : (cl.lookup y).isSome = true ∧ α.lookup y = some v := by
  induction α with
  | nil => simp [capt] at e
  | cons zu r ih =>
    obtain ⟨z, u⟩ := zu
    unfold capt at e ih
    rw [List.filter_cons] at e
    by_cases hz : (cl.lookup z).isSome = true
    · rw [if_pos hz, List.lookup_cons] at e
      rw [List.lookup_cons]
      cases hy : y == z with
      | true => rw [hy] at e; exact ⟨by rw [eq_of_beq hy]; exact hz, e⟩
      | false => rw [hy] at e; exact ih e
    · rw [if_neg hz] at e
      have := ih e
      rw [List.lookup_cons]
      cases hy : y == z with
      | true => exact absurd (by rw [← eq_of_beq hy]; exact this.1) hz
      | false => exact this

/-- the block of a comprehension: its scope, its cells -/
structure CompOk (scope : Scope) (cl : List (Str × Addr)) (env : Env) (x : Str) : Prop where
  clos : closureFor scope env = pure cl
  cell : ∀ y ∈ scope.names, y.2 ≠ .cell
  kind : scope.kind = .function
  names : ∀ y ∈ scope.names, y.2 = .local → scope.names.lookup y.1 = some .local
  loc : scope.names.lookup x = some .local
  sub : ∀ y c, cl.lookup y = some c → env.cells.lookup y = some c
  out : ∀ y c, cl.lookup y = some c → env.kindOf y = some .cell ∨ env.kindOf y = some .free
  inn : ∀ y c, cl.lookup y = some c → (relabel scope env).names.lookup y = some .cell ∨ (relabel scope env).names.lookup y = some .free

theorem Rd.comp {scope : Scope} {cl : List (Str × Addr)} {x : Str} (C : CompOk scope cl env x) {h h' : Heap} {m cm m' : Str → Option Value} {O : Addr → Prop} {cell : Addr} {v : Value} {a : AV}
    (R : Rd hb env h m cm α O) (hk : ∀ b o, h.get? b = some o → h'.get? b = some o) (hn : h'.Ns cell m') (hx : m' x = some v) (hv : SRel v a) : Rd hb (compEnvC scope cl cell env) h' m' cm ((x, a) :: capt cl α) O where
  fn := C.kind
  gl := R.gl
  bi := R.bi
  ns := hn
  cells := fun y c e => (R.cells y c (C.sub y c e)).keeps hk
  vars := fun y u e => by
    have kx : (compEnvC scope cl cell env).kindOf x = some .local := lookup_relabel_local C.loc
    rw [List.lookup_cons] at e
    cases hy : y == x with
    | true =>
      rw [hy] at e
      cases e
      rw [eq_of_beq hy]
      exact ⟨v, by unfold varOf; rw [kx]; exact hx, hv.v _ _⟩
    | false =>
      rw [hy] at e
      obtain ⟨hs, e⟩ := capt_lookup e
      obtain ⟨c, hc⟩ := Option.isSome_iff_exists.mp hs
      obtain ⟨cv, e1, r⟩ := R.vars y u e
      have e2 : cm y = some cv := by
        unfold varOf at e1
        have : (env.cells.lookup y).isSome = true := by rw [C.sub y c hc]; rfl
        rcases C.out y c hc with q | q <;> rw [q] at e1 <;> simpa [this] using e1
      refine ⟨cv, ?_, keep_v (t := false) (.of hk) R.tab r⟩
      have k : (compEnvC scope cl cell env).kindOf y = (relabel scope env).names.lookup y := rfl
      have hs' : ((compEnvC scope cl cell env).cells.lookup y).isSome = true := hs
      unfold varOf
      rw [k]
      rcases C.inn y c hc with q | q <;> rw [q] <;> simp only [hs', if_true] <;> exact e2
  base := fun b o e => hk b o (R.base b o e)
  tab := R.tab.keeps hk
  own := fun b o => let ⟨its, p⟩ := R.own b o; ⟨its, p.at (hk b)⟩

/-- a plain item's test -/
def pvOf (p : AV → Bool) : Value → Bool
  | .int n _ => p (.int n)
  | .str x _ => p (.str x)
  | _ => false
theorem pvOf_eq {p : AV → Bool} {v : Value} {a : AV} (h : SRel v a) : pvOf p v = p a := by
  cases a with
  | int n => obtain ⟨_, rfl⟩ := h; rfl
  | str n => obtain ⟨_, rfl⟩ := h; rfl
  | _ => exact h.elim

inductive SAll : List Value → List AV → Prop
  | nil : SAll [] []
  | cons {v a vs as} : SRel v a → SAll vs as → SAll (v :: vs) (a :: as)

theorem sall_of {vs : List Value} {items : List AV} (hl : vs.length = items.length) (h : ∀ (j : Nat) (v : Value), vs[j]? = some v → ∃ a, items[j]? = some a ∧ SRel v a) : SAll vs items := by
  induction vs generalizing items with
  | nil => cases items with
    | nil => exact .nil
    | cons a as => simp at hl
  | cons v vs ih => cases items with
    | nil => simp at hl
    | cons a as =>
      obtain ⟨a', e, r⟩ := h 0 v rfl
      cases e
      exact .cons r (ih (by simpa using hl) fun j u e => by simpa using h (j + 1) u (by simpa using e))
theorem sall_pick {p : AV → Bool} {f : AV → AV} {F : Value → Value → Prop} (hF : ∀ v y a, SRel v a → F v y → SRel y (f a)) {vs : List Value} {items : List AV} {ys : List Value} (sa : SAll vs items) (h : Paired F (vs.filter (pvOf p)) ys) : SAll ys ((items.filter p).map f) := by
  induction sa generalizing ys with
  | nil => simp only [List.filter_nil] at h; cases h; exact .nil
  | @cons v a vs as r rs ih =>
    rw [List.filter_cons, pvOf_eq r] at h
    rw [List.filter_cons]
    cases hp : p a with
    | true =>
      rw [hp] at h
      simp only [if_true] at h ⊢
      cases h with
      | cons h1 h2 => exact .cons (hF _ _ _ r h1) (ih h2)
    | false =>
      rw [hp] at h
      simp only [Bool.false_eq_true, if_false] at h ⊢
      exact ih h
theorem sall_ints {ys : List Value} {rs : List Int} (h : SAll ys (rs.map .int)) : IntsAre ys rs := by
  induction rs generalizing ys with
  | nil => cases h; exact .nil
  | cons r rs ih => cases h with
    | cons h t => obtain ⟨_, rfl⟩ := h; exact .cons _ _ (ih t)
theorem sall_strs {ys : List Value} {rs : List Str} (h : SAll ys (rs.map .str)) : StrsAre ys rs := by
  induction rs generalizing ys with
  | nil => cases h; exact .nil
  | cons r rs ih => cases h with
    | cons h t => obtain ⟨_, rfl⟩ := h; exact .cons _ _ (ih t)

/-- the tests of a comprehension -/
structure Ts (prog : Program) (w : World) (hb : Heap) (A : Around) (env : Env) (α : Al) (ifs : List Expr) (b : Bool) : Prop where
  go : ∀ (s : Shared) (m cm : Str → Option Value) (O : Addr → Prop) (Q : Bool → Shared → Prop) (E : Value → Shared → Prop), Rd hb env s.heap m cm α O →
    (∀ h' tk, (∀ b o, s.heap.get? b = some o → h'.get? b = some o) → Q b { s with heap := h', toks := tk }) →
    wpAny (model prog w) A (forIn ifs true fun c r => if r = true then do let ok ← isTrue c env (eval c env); pure (ForInStep.yield ok) else pure (ForInStep.yield r)) Q E s
theorem Ts_nil : Ts prog w hb A env α [] true := .mk fun s m cm O Q E R h => wpAny_tests_nil (h s.heap s.toks fun _ _ e => e)
theorem Ts_one {c : Expr} {b : Bool} (hc : Tr prog w hb A env false α c b) : Ts prog w hb A env α [c] b := .mk fun s m cm O Q E R h =>
  wpAny_tests_one (hc.go s m cm O Q E R fun h' tk k _ => h h' tk k.full)

theorem comp_quiet {scope : Scope} {cl : List (Str × Addr)} {x : Str} (C : CompOk scope cl env x) {ifs : List Expr} {elt : Expr} {items : List AV} {p : AV → Bool} {f : AV → AV} {s₁ : Shared} {h₂ : Heap} {I : Addr} {fp wr : List Addr}
    {P : Nat → Value → Prop} {St : Nat → Heap → Prop} {m cm : Str → Option Value} {O : Addr → Prop} (R : Rd hb env s₁.heap m cm α O) (it : Itr prog w A O s₁.heap h₂ I items fp wr P St)
    (ht : ∀ a ∈ items, ∀ cell, Ts prog w hb A (compEnvC scope cl cell env) ((x, a) :: capt cl α) ifs (p a))
    (he : ∀ a ∈ items, p a = true → ∀ cell, Ev prog w hb A (compEnvC scope cl cell env) false ((x, a) :: capt cl α) elt (f a)) (hs : ∀ a ∈ items, ∀ h O y, VRel h O y (f a) → SRel y (f a)) :
    QuietOnC prog w A env scope cl x ifs elt wr P (pvOf p) (fun v y => ∃ a ∈ items, SRel v a ∧ SRel y (f a)) { s₁ with heap := h₂ } where
  tests := fun cell i v s₃ m₃ E' _ hP hn hx hk _ => by
    obtain ⟨a, e, r⟩ := it.item i v hP
    have hk' : ∀ b o, s₁.heap.get? b = some o → s₃.heap.get? b = some o := fun b o e => hk b o (fun hm => by have := it.new b hm; rw [e] at this; cases this) (it.keep b o e)
    refine (ht a (List.mem_of_getElem? e) cell).go s₃ m₃ cm O _ E' (R.comp C hk' hn hx r) fun h' tk k => ?_
    exact ⟨(pvOf_eq r).symm, h', tk, rfl, k⟩
  elt := fun cell i v s₃ m₃ E' _ hP hp hn hx hk _ => by
    obtain ⟨a, e, r⟩ := it.item i v hP
    have hk' : ∀ b o, s₁.heap.get? b = some o → s₃.heap.get? b = some o := fun b o e => hk b o (fun hm => by have := it.new b hm; rw [e] at this; cases this) (it.keep b o e)
    rw [pvOf_eq r] at hp
    have hm := List.mem_of_getElem? e
    refine (he a hm hp cell).go s₃ m₃ cm O _ E' (R.comp C hk' hn hx r) fun cv h' tk k T rv => ?_
    exact ⟨⟨a, hm, r, hs a hm _ _ _ rv⟩, h', tk, rfl, k.full⟩

theorem Ev_comp (no : hb.get? 47 = none ∧ hb.get? 54 = none) (hh : A.handled = none) {scope : Scope} {cl : List (Str × Addr)} {x : Str} (C : CompOk scope cl env x) {iter elt : Expr} {px pos : Pos} {ifs : List Expr} {a : AV} {items : List AV} {p : AV → Bool} {f : AV → AV} {v : AV}
    (hi : Ev prog w hb A env t α iter a) (hit : itemsOf a = some items) (hz : items.length ≤ sizeLine)
    (ht : ∀ a ∈ items, ∀ cell, Ts prog w hb A (compEnvC scope cl cell env) ((x, a) :: capt cl α) ifs (p a))
    (he : ∀ a ∈ items, p a = true → ∀ cell, Ev prog w hb A (compEnvC scope cl cell env) false ((x, a) :: capt cl α) elt (f a)) (hs : ∀ a ∈ items, ∀ h O y, VRel h O y (f a) → SRel y (f a))
    (hv : ∀ h (O : Addr → Prop) D ys, ¬ O D → h.IsList D (List.toArray ys) → SAll ys ((items.filter p).map f) → VRel h O (.ref D) v)
    (hfs : ∀ y, foldedSetIterable iter env y = pure y) : Ev prog w hb A env t α (.ListComp elt [⟨.Name x px, iter, ifs, 0⟩] scope pos) v := .mk fun s m cm O Q E R h => by
  refine wpAny_ListComp_free (pvOf p) (fun v y => ∃ a ∈ items, SRel v a ∧ SRel y (f a)) C.clos C.cell C.kind C.names C.loc ?_ hfs
  refine hi.go s m cm O _ E R fun cv h₁ tk₁ k₁ T₁ r => ?_
  have R₁ := R.keep k₁ T₁ no
  refine itr_of (s := { s with heap := h₁, toks := tk₁ }) hh r hit (by unfold sizeLine at hz; omega) R₁.own fun I h₂ fp wr P St it => ?_
  refine ⟨I, fp, wr, items.length, P, St, rfl, it.walks, hz, it.st, it.low, comp_quiet (s₁ := { s with heap := h₁, toks := tk₁ }) C R₁ it ht he hs, ?_⟩
  intro D h' tk ys vs hD hl hpl hlen hP hF hk
  have hk' : ∀ b o, h₁.get? b = some o → h'.get? b = some o := fun b o e => hk b o (fun hm => by have := it.new b hm; rw [e] at this; cases this) (it.keep b o e)
  have sa := sall_of hlen fun j u e => it.item j u (hP j u e)
  have nD : ¬ O D := fun o => by
    obtain ⟨its, n, q⟩ := R₁.own D o
    have hD' : h₂.get? D = none := hD
    rw [it.keep _ _ q] at hD'; cases hD'
  refine h _ h' tk (k₁.trans (.of hk')) (T₁.keeps hk') (hv h' O D ys.toList nD (by simpa using hl) (sall_pick ?_ sa hF))
  rintro u y b rb ⟨b', _, rb', ry⟩
  have : b = b' := by
    cases b with
    | int n => obtain ⟨_, rfl⟩ := rb; cases b' with | int n' => obtain ⟨_, e⟩ := rb'; cases e; rfl | str _ => obtain ⟨_, e⟩ := rb'; cases e | _ => exact rb'.elim
    | str n => obtain ⟨_, rfl⟩ := rb; cases b' with | str n' => obtain ⟨_, e⟩ := rb'; cases e; rfl | int _ => obtain ⟨_, e⟩ := rb'; cases e | _ => exact rb'.elim
    | _ => exact rb.elim
  subst this; exact ry
end
end Mine
end

section
set_option maxRecDepth 100000
set_option linter.unusedVariables false
namespace Mine
open PySem PySem.W PySem.Calls PyProof.Rows

def isOwn : AV → Bool
  | .oi _ => true
  | .ol _ => true
  | _ => false

/-- the lists that may not be met elsewhere: the callers' and one of the frame's own -/
def OO (O : Addr → Prop) (a : Option Addr) : Addr → Prop := fun b => O b ∨ a = some b

theorem VRel.less {h : Heap} {O O' : Addr → Prop} (hs : ∀ b, O b → O' b) {cv : Value} {v : AV} (r : VRel h O' cv v) (hv : isOwn v = false) : VRel h O cv v := by
  cases v with
  | li xs => obtain ⟨a, vs, e, no, l, i⟩ := r; exact ⟨a, vs, e, fun o => no (hs _ o), l, i⟩
  | ls xs => obtain ⟨a, vs, e, no, l, i⟩ := r; exact ⟨a, vs, e, fun o => no (hs _ o), l, i⟩
  | oi xs => cases hv
  | ol xs => cases hv
  | _ => exact r

/-- kept but for the frame's own things -/
def KeepX (env : Env) (a : Option Addr) (h h' : Heap) : Prop :=
  ∀ b o, b ≠ 47 → b ≠ 54 → b ≠ env.locals → (∀ x c, env.kindOf x = some .cell → env.cells.lookup x = some c → b ≠ c) → a ≠ some b → h.get? b = some o → h'.get? b = some o
theorem KeepX.refl {env : Env} {a : Option Addr} {h : Heap} : KeepX env a h h := fun _ _ _ _ _ _ _ e => e
theorem KeepX.trans {env : Env} {a : Option Addr} {h h' h'' : Heap} (x : KeepX env a h h') (y : KeepX env a h' h'') : KeepX env a h h'' :=
  fun b o n1 n2 n3 n4 n5 e => y b o n1 n2 n3 n4 n5 (x b o n1 n2 n3 n4 n5 e)
theorem KeepX.of {env : Env} {a : Option Addr} {t : Bool} {h h' : Heap} (x : KeepB t h h') : KeepX env a h h' := fun b o n1 n2 _ _ _ e => x b o (fun _ => ⟨n1, n2⟩) e

/-- the frame, for statements -/
structure Fm (tt : Bool) (hb h₀ hM : Heap) (env : Env) (h : Heap) (m cm : Str → Option Value) (α : Al) (O : Addr → Prop) (a : Option Addr) : Prop where
  rd : Rd hb env h m cm α (OO O a)
  no : hb.get? 47 = none ∧ hb.get? 54 = none
  hbL : hb.get? env.locals = none
  hbc : ∀ x c, env.kindOf x = some .cell → env.cells.lookup x = some c → hb.get? c = none
  hba : ∀ b, a = some b → hb.get? b = none
  inj : ∀ x y c, env.cells.lookup x = some c → env.cells.lookup y = some c → x = y
  nl : ∀ x c, env.cells.lookup x = some c → c ≠ env.locals
  f0L : h₀.get? env.locals = none
  f0c : ∀ x c, env.kindOf x = some .cell → env.cells.lookup x = some c → h₀.get? c = none
  f0a : ∀ b, a = some b → h₀.get? b = none
  noO : ∀ b, O b → a ≠ some b
  keep0 : KeepB tt h₀ h
  keepM : KeepX env a hM h
  one : ∀ x y u v, α.lookup x = some u → α.lookup y = some v → isOwn u = true → isOwn v = true → x = y
  oat : ∀ x v cv, α.lookup x = some v → isOwn v = true → varOf env m cm x = some cv → ∃ b, a = some b ∧ cv = .ref b

section
variable {prog : Program} {w : World} {K : Frag} {hb h₀ hM : Heap} {mg mb : Str → Option Value} {A : Around} {env : Env} {t tt : Bool} {α : Al} {O : Addr → Prop} {a : Option Addr} {h h' : Heap} {m cm : Str → Option Value}

theorem Fm.keep (F : Fm tt hb h₀ hM env h m cm α O a) (k : KeepB tt h h') (T : TabInv h') : Fm tt hb h₀ hM env h' m cm α O a :=
  { F with
    rd := F.rd.keep k T F.no
    keep0 := F.keep0.trans k
    keepM := F.keepM.trans (.of k) }

def put (x : Str) (v : AV) (α : Al) : Al := (x, v) :: α.filter fun p => !(p.1 == x)
theorem put_lookup {x y : Str} {v : AV} : (put x v α).lookup y = if y == x then some v else α.lookup y := by
  unfold put
  rw [List.lookup_cons]
  cases hy : y == x with
  | true => rfl
  | false =>
    simp only [Bool.false_eq_true, if_false]
    induction α with
    | nil => rfl
    | cons p r ih =>
      obtain ⟨z, u⟩ := p
      rw [List.filter_cons]
      cases hz : z == x with
      | true =>
        simp only [Bool.not_true, Bool.false_eq_true, if_false]
        rw [ih, List.lookup_cons]
        have : (y == z) = false := by
          rw [eq_of_beq hz]; exact hy
        rw [this]
      | false =>
        simp only [Bool.not_false, if_true]
        rw [List.lookup_cons, List.lookup_cons, ih]

/-- no list, no tuple, no code, no table -/
structure Odd (o : Obj) : Prop where
  s : ∀ its n, o.data ≠ .seq its n
  f : ∀ vs, o.data ≠ .fields vs
  u : ∀ fd, o.data ≠ .func fd

theorem tab_but {c : Addr} {o : Obj} (hs : Heap.ExtBut c h h') (ho : h.get? c = some o) (hd : ∀ vs, o.data ≠ .fields vs) (T : TabInv h) : TabInv h' := by
  have k : ∀ b ob vs, h.get? b = some ob → ob.data = .fields vs → h'.get? b = some ob := fun b ob vs e q => by
    refine hs b ob (fun z => ?_) e
    subst z; rw [ho] at e; cases e; exact hd vs q
  have tg : ∀ {P : Addr} {l cc : Nat} {q : Str}, TG P l cc q h → TG P l cc q h' := by
    rintro P l cc q ⟨ps, e, r⟩
    refine ⟨ps, k _ _ _ e rfl, r.imp id ?_⟩
    rintro ⟨c', e1, c'', oc, vs, t, e2, e3, e4, e5⟩
    exact ⟨c', e1, c'', oc, vs, t, e2, k _ _ _ e3 e4, e4, e5⟩
  exact ⟨tg T.1, tg T.2⟩

theorem v_odd {c : Addr} {o : Obj} {O' : Addr → Prop} (hs : Heap.ExtBut c h h') (ho : h.get? c = some o) (hd : Odd o) {cv : Value} {v : AV} (r : VRel h O' cv v) : VRel h' O' cv v := by
  have k : ∀ b ob, h.get? b = some ob → ((∃ its n, ob.data = .seq its n) ∨ ∃ vs, ob.data = .fields vs) → h'.get? b = some ob := fun b ob e q => by
    refine hs b ob (fun z => ?_) e
    subst z; rw [ho] at e; cases e
    rcases q with ⟨its, n, q⟩ | ⟨vs, q⟩
    · exact hd.s _ _ q
    · exact hd.f _ q
  cases v with
  | li xs => obtain ⟨b, vs, e, no, ⟨ob, e1, e2, n, e3⟩, i⟩ := r; exact ⟨b, vs, e, no, ⟨ob, k _ _ e1 (.inl ⟨_, _, e3⟩), e2, n, e3⟩, i⟩
  | ls xs => obtain ⟨b, vs, e, no, ⟨ob, e1, e2, n, e3⟩, i⟩ := r; exact ⟨b, vs, e, no, ⟨ob, k _ _ e1 (.inl ⟨_, _, e3⟩), e2, n, e3⟩, i⟩
  | tu xs => obtain ⟨b, vs, e, ⟨ob, e1, e2, n, e3⟩, i⟩ := r; exact ⟨b, vs, e, ⟨ob, k _ _ e1 (.inl ⟨_, _, e3⟩), e2, n, e3⟩, i⟩
  | rg n => obtain ⟨b, t, u, v, e, l⟩ := r; exact ⟨b, t, u, v, e, k _ _ l (.inr ⟨_, rfl⟩)⟩
  | oi xs => obtain ⟨b, vs, e, no, ⟨n, e1⟩, i⟩ := r; exact ⟨b, vs, e, no, ⟨n, k _ _ e1 (.inl ⟨_, _, rfl⟩)⟩, i⟩
  | ol xs => obtain ⟨b, vs, e, no, ⟨n, e1⟩, i⟩ := r; exact ⟨b, vs, e, no, ⟨n, k _ _ e1 (.inl ⟨_, _, rfl⟩)⟩, i⟩
  | fn b fd =>
    obtain ⟨e, ⟨ob, e1, e2⟩, c', oc, vs, tk, q1, q2, q3, q4⟩ := r
    exact ⟨e, ⟨ob, hs b ob (fun z => by subst z; rw [ho] at e1; cases e1; exact hd.u _ e2) e1, e2⟩, c', oc, vs, tk, q1, k _ _ q2 (.inr ⟨_, q3⟩), q3, q4⟩
  | _ => exact r

theorem plain_odd {c b : Addr} {o : Obj} {its : Array Value} (hs : Heap.ExtBut c h h') (ho : h.get? c = some o) (hd : Odd o) (p : h.PlainList b its) : h'.PlainList b its := by
  obtain ⟨n, e⟩ := p
  refine ⟨n, hs b _ (fun z => ?_) e⟩
  subst z; rw [ho] at e; cases e; exact hd.s _ _ rfl

theorem own_one (F : Fm tt hb h₀ hM env h m cm α O a) {x : Str} {v : AV} (hv : isOwn v = false) : ∀ y z u u', (put x v α).lookup y = some u → (put x v α).lookup z = some u' → isOwn u = true → isOwn u' = true → y = z := by
  intro y z u u' e e' o o'
  rw [put_lookup] at e e'
  split at e
  · cases e; rw [hv] at o; cases o
  · split at e'
    · cases e'; rw [hv] at o'; cases o'
    · exact F.one y z u u' e e' o o'

theorem ns_obj {L : Addr} {mm : Str → Option Value} (n : h.Ns L mm) : ∃ o, h.get? L = some o ∧ Odd o := by
  obtain ⟨o, es, ep, e, hd, _⟩ := n
  exact ⟨o, e, ⟨fun _ _ q => (by rw [hd] at q; cases q), fun _ q => (by rw [hd] at q; cases q), fun _ q => (by rw [hd] at q; cases q)⟩⟩
theorem cell_obj {c : Addr} {v : Option Value} (n : h.IsCell c v) : ∃ o, h.get? c = some o ∧ Odd o := by
  obtain ⟨o, e, hd⟩ := n
  exact ⟨o, e, ⟨fun _ _ q => (by rw [hd] at q; cases q), fun _ q => (by rw [hd] at q; cases q), fun _ q => (by rw [hd] at q; cases q)⟩⟩

theorem Fm.storeL (F : Fm tt hb h₀ hM env h m cm α O a) {x : Str} {cv : Value} {v : AV} (hk : env.kindOf x = some .local) (hn : h'.Ns env.locals (fun y => if y = x then some cv else m y)) (hs : Heap.ExtBut env.locals h h')
    (r : VRel h' (OO O a) cv v) (hv : isOwn v = false) : Fm tt hb h₀ hM env h' (fun y => if y = x then some cv else m y) cm (put x v α) O a := by
  obtain ⟨o, ho, hd⟩ := ns_obj F.rd.ns
  exact { F with
    rd :=
      { F.rd with
        ns := hn
        cells := fun y c e => let ⟨o, e1, e2⟩ := F.rd.cells y c e; ⟨o, hs c o (F.nl y c e) e1, e2⟩
        vars := fun y u e => by
          rw [put_lookup] at e
          split at e
          · rename_i hy
            cases e
            refine ⟨cv, ?_, r⟩
            unfold varOf
            rw [eq_of_beq hy, hk]
            simp
          · rename_i hy
            obtain ⟨cu, e1, r1⟩ := F.rd.vars y u e
            refine ⟨cu, ?_, v_odd hs ho hd r1⟩
            have hy' : y ≠ x := fun q => hy (by rw [q]; exact beq_self_eq_true x)
            rw [← e1]
            unfold varOf
            simp only [hy', if_false]
        base := fun b ob e => hs b ob (fun z => by rw [z, F.hbL] at e; cases e) (F.rd.base b ob e)
        tab := tab_but hs ho hd.f F.rd.tab
        own := fun b ob => let ⟨its, p⟩ := F.rd.own b ob; ⟨its, plain_odd hs ho hd p⟩ }
    keep0 := fun b ob n e => hs b ob (fun z => by rw [z, F.f0L] at e; cases e) (F.keep0 b ob n e)
    keepM := F.keepM.trans fun b ob _ _ n3 _ _ e => hs b ob n3 e
    one := own_one F hv
    oat := fun y u cu e ou ev => by
      rw [put_lookup] at e
      split at e
      · cases e; rw [hv] at ou; cases ou
      · rename_i hy
        have hy' : y ≠ x := fun q => hy (by rw [q]; exact beq_self_eq_true x)
        refine F.oat y u cu e ou ?_
        rw [← ev]
        unfold varOf
        simp only [hy', if_false] }

theorem Fm.storeC (F : Fm tt hb h₀ hM env h m cm α O a) {x : Str} {c : Addr} {cv : Value} {v : AV} (hk : env.kindOf x = some .cell) (hc : env.cells.lookup x = some c) (hn : h'.IsCell c (some cv)) (hs : Heap.SameBut c h h')
    (r : VRel h (OO O a) cv v) (hv : isOwn v = false) : Fm tt hb h₀ hM env h' m (fun y => if y = x then some cv else cm y) (put x v α) O a := by
  obtain ⟨o, ho, hd⟩ := cell_obj (F.rd.cells x c hc)
  exact { F with
    rd :=
      { F.rd with
        ns := F.rd.ns.sameBut hs (Ne.symm (F.nl x c hc))
        cells := fun y c' e => by
          by_cases hy : y = x
          · subst hy
            rw [hc] at e; cases e
            simpa using hn
          · have : c' ≠ c := fun q => hy (F.inj y x c (q ▸ e) hc)
            simpa [hy] using (F.rd.cells y c' e).sameBut hs this
        vars := fun y u e => by
          rw [put_lookup] at e
          split at e
          · rename_i hy
            cases e
            refine ⟨cv, ?_, v_odd hs.extBut ho hd r⟩
            unfold varOf
            rw [eq_of_beq hy, hk]
            simp [hc]
          · rename_i hy
            obtain ⟨cu, e1, r1⟩ := F.rd.vars y u e
            refine ⟨cu, ?_, v_odd hs.extBut ho hd r1⟩
            have hy' : y ≠ x := fun q => hy (by rw [q]; exact beq_self_eq_true x)
            rw [← e1]
            unfold varOf
            simp only [hy', if_false]
        base := fun b ob e => (hs.2 b fun z => by rw [z, F.hbc x c hk hc] at e; cases e).trans (F.rd.base b ob e)
        tab := tab_but hs.extBut ho hd.f F.rd.tab
        own := fun b ob => let ⟨its, p⟩ := F.rd.own b ob; ⟨its, plain_odd hs.extBut ho hd p⟩ }
    keep0 := fun b ob n e => (hs.2 b fun z => by rw [z, F.f0c x c hk hc] at e; cases e).trans (F.keep0 b ob n e)
    keepM := F.keepM.trans fun b ob _ _ _ n4 _ e => (hs.2 b (n4 x c hk hc)).trans e
    one := own_one F hv
    oat := fun y u cu e ou ev => by
      rw [put_lookup] at e
      split at e
      · cases e; rw [hv] at ou; cases ou
      · rename_i hy
        have hy' : y ≠ x := fun q => hy (by rw [q]; exact beq_self_eq_true x)
        refine F.oat y u cu e ou ?_
        rw [← ev]
        unfold varOf
        simp only [hy', if_false] }

/-- how a block ends -/
inductive Oc where
  | nx (α : Al)
  | rt (v : AV)
  | rm (v : AV) (α : Al)

def Out (tt : Bool) (hb h₀ hM : Heap) (env : Env) (O : Addr → Prop) (a : Option Addr) (fl : Flow) (h' : Heap) : Oc → Prop
  | .nx α => fl = .next ∧ ∃ m cm, Fm tt hb h₀ hM env h' m cm α O a
  | .rt v => ∃ cv, fl = .ret cv ∧ VRel h' O cv v ∧ TabInv h' ∧ KeepB tt h₀ h'
  | .rm v α => ∃ cv, fl = .ret cv ∧ VRel h' O cv v ∧ ∃ m cm, Fm tt hb h₀ hM env h' m cm α O a

/-- the statements' contract -/
structure Sx (tt : Bool) (prog : Program) (w : World) (hb h₀ : Heap) (A : Around) (env : Env) (O : Addr → Prop) (a : Option Addr) (α : Al) (ss : List Stmt) (r : Oc) : Prop where
  go : ∀ (s : Shared) (hM : Heap) (m cm : Str → Option Value) (Q : Flow → Shared → Prop) (E : Value → Shared → Prop), Fm tt hb h₀ hM env s.heap m cm α O a →
    (∀ fl h' tk, Out tt hb h₀ hM env O a fl h' r → Q fl { s with heap := h', toks := tk }) → wpAny (model prog w) A (execs ss env) Q E s

theorem Sx_nil : Sx tt prog w hb h₀ A env O a α [] (.nx α) := .mk fun s hM m cm Q E F h => wpAny_execs_nil (h .next s.heap s.toks ⟨rfl, m, cm, F⟩)

/-- one statement, then the rest -/
structure S1 (tt : Bool) (prog : Program) (w : World) (hb h₀ : Heap) (A : Around) (env : Env) (O : Addr → Prop) (a : Option Addr) (α : Al) (st : Stmt) (r : Oc) : Prop where
  go : ∀ (s : Shared) (hM : Heap) (m cm : Str → Option Value) (Q : Flow → Shared → Prop) (E : Value → Shared → Prop), Fm tt hb h₀ hM env s.heap m cm α O a →
    (∀ fl h' tk, Out tt hb h₀ hM env O a fl h' r → Q fl { s with heap := h', toks := tk }) → wpAny (model prog w) A (exec st env) Q E s

theorem Sx_cons {st : Stmt} {rest : List Stmt} {α' : Al} {r : Oc} (h1 : S1 tt prog w hb h₀ A env O a α st (.nx α')) (h2 : Sx tt prog w hb h₀ A env O a α' rest r) : Sx tt prog w hb h₀ A env O a α (st :: rest) r :=
  .mk fun s hM m cm Q E F h => wpAny_execs_cons (h1.go s hM m cm _ E F fun fl h' tk o => by
    obtain ⟨rfl, m', cm', F'⟩ := o
    exact h2.go { s with heap := h', toks := tk } hM m' cm' Q E F' h)
theorem Sx_ret {st : Stmt} {rest : List Stmt} {v : AV} (h1 : S1 tt prog w hb h₀ A env O a α st (.rt v)) : Sx tt prog w hb h₀ A env O a α (st :: rest) (.rt v) :=
  .mk fun s hM m cm Q E F h => wpAny_execs_cons (h1.go s hM m cm _ E F fun fl h' tk o => by
    obtain ⟨cv, rfl, r⟩ := id o
    exact h _ h' tk o)

theorem S_store {x : Str} {cv : Value} {v : AV} {s : Shared} {Q : Unit → Shared → Prop} {E : Value → Shared → Prop} (F : Fm tt hb h₀ hM env s.heap m cm α O a) (hk : env.kindOf x = some .local ∨ (env.kindOf x = some .cell ∧ (env.cells.lookup x).isSome = true))
    (r : VRel s.heap (OO O a) cv v) (hv : isOwn v = false) (h : ∀ h' tk m' cm', Fm tt hb h₀ hM env h' m' cm' (put x v α) O a → Q () { s with heap := h', toks := tk }) : wpAny (model prog w) A (storeName env x cv) Q E s := by
  rcases hk with hk | ⟨hk, hs⟩
  · obtain ⟨o, ho, hd⟩ := ns_obj F.rd.ns
    exact wpAny_storeName_local hk F.rd.ns (fun h' hn hs => h h' _ _ _ (F.storeL hk hn hs.extBut (v_odd hs.extBut ho hd r) hv)) (by rw [F.rd.fn]; rfl)
  · obtain ⟨c, hc⟩ := Option.isSome_iff_exists.mp hs
    exact wpAny_storeName_cell F.rd.fn hk hc (F.rd.cells x c hc) fun h' hn hs => h h' s.toks _ _ (F.storeC hk hc hn hs r hv)

theorem S_assign {x : Str} {px pos : Pos} {e : Expr} {v : AV} (he : Ev prog w hb A env tt α e v) (hk : env.kindOf x = some .local ∨ (env.kindOf x = some .cell ∧ (env.cells.lookup x).isSome = true)) (hv : isOwn v = false)
    (hs : swapsWith e (some (.Name x px)) pos.line env = pure false) : S1 tt prog w hb h₀ A env O a α (.Assign [.Name x px] e pos) (.nx (put x v α)) := .mk fun s hM m cm Q E F h =>
  wpAny_Assign_Name (he.go s m cm (OO O a) _ E F.rd fun cv h₁ tk₁ k₁ T₁ r => S_store (s := { s with heap := h₁, toks := tk₁ }) (F.keep k₁ T₁) hk r hv fun h' tk m' cm' F' => h .next h' tk ⟨rfl, m', cm', F'⟩) hs

theorem S_return {e : Expr} {pos : Pos} {v : AV} (he : Ev prog w hb A env tt α e v) (hv : isOwn v = false) : S1 tt prog w hb h₀ A env O a α (.Return (some e) pos) (.rt v) := .mk fun s hM m cm Q E F h =>
  wpAny_Return_some (he.go s m cm (OO O a) _ E F.rd fun cv h₁ tk₁ k₁ T₁ r => h _ h₁ tk₁ ⟨cv, rfl, r.less (fun b o => .inl o) hv, T₁, (F.keep k₁ T₁).keep0⟩)

theorem S_if {test : Expr} {body orelse : List Stmt} {pos : Pos} {b : Bool} {r : Oc} (ht : Tr prog w hb A env tt α test b) (h1 : b = true → Sx tt prog w hb h₀ A env O a α body r) (h2 : b = false → Sx tt prog w hb h₀ A env O a α orelse r) :
    S1 tt prog w hb h₀ A env O a α (.If test body orelse pos) r := .mk fun s hM m cm Q E F h => by
  refine wpAny_If (ht.go s m cm (OO O a) _ E F.rd fun h₁ tk₁ k₁ T₁ => ?_)
  have F₁ := F.keep k₁ T₁
  cases b with
  | true => exact (h1 rfl).go { s with heap := h₁, toks := tk₁ } hM m cm Q E F₁ h
  | false => exact (h2 rfl).go { s with heap := h₁, toks := tk₁ } hM m cm Q E F₁ h

theorem S_assert {test : Expr} {msg : Option Expr} {pos : Pos} (ht : Tr prog w hb A env tt α test true) : S1 tt prog w hb h₀ A env O a α (.Assert test msg pos) (.nx α) := .mk fun s hM m cm Q E F h =>
  wpAny_Assert_holds (ht.go s m cm (OO O a) _ E F.rd fun h₁ tk₁ k₁ T₁ => ⟨rfl, h .next h₁ tk₁ ⟨rfl, m, cm, F.keep k₁ T₁⟩⟩)
end
end Mine
end

section
set_option maxRecDepth 100000
set_option linter.unusedVariables false
namespace Mine
open PySem PySem.W PySem.Calls PyProof.Rows

section
variable {prog : Program} {w : World} {K : Frag} {hb h₀ hM : Heap} {mg mb : Str → Option Value} {A : Around} {env : Env} {t tt : Bool} {α : Al} {O : Addr → Prop} {a : Option Addr} {h h' : Heap} {m cm : Str → Option Value}

/-- a turn of an iterator's own object -/
theorem v_iter {wr : List Addr} {O' : Addr → Prop} (hk : ∀ b o, b ∉ wr → h.get? b = some o → h'.get? b = some o) (hw : ∀ b ∈ wr, ∃ o, h.get? b = some o ∧ IterObj o) {cv : Value} {v : AV} (r : VRel h O' cv v) : VRel h' O' cv v := by
  have k : ∀ b ob, h.get? b = some ob → (ob.cls = .type "list" ∨ ob.cls = .type "tuple" ∨ ob.cls = .type "range") → h'.get? b = some ob := fun b ob e q => by
    refine hk b ob (fun hm => ?_) e
    obtain ⟨o, e', ⟨T, hT, n1, n2, n3⟩, _⟩ := hw b hm
    rw [e'] at e; cases e
    rw [hT] at q
    rcases q with q | q | q <;> cases q
    · exact n1 rfl
    · exact n2 rfl
    · exact n3 rfl
  cases v with
  | li xs => obtain ⟨b, vs, e, no, ⟨ob, e1, e2, n, e3⟩, i⟩ := r; exact ⟨b, vs, e, no, ⟨ob, k _ _ e1 (.inl e2), e2, n, e3⟩, i⟩
  | ls xs => obtain ⟨b, vs, e, no, ⟨ob, e1, e2, n, e3⟩, i⟩ := r; exact ⟨b, vs, e, no, ⟨ob, k _ _ e1 (.inl e2), e2, n, e3⟩, i⟩
  | tu xs => obtain ⟨b, vs, e, ⟨ob, e1, e2, n, e3⟩, i⟩ := r; exact ⟨b, vs, e, ⟨ob, k _ _ e1 (.inr (.inl e2)), e2, n, e3⟩, i⟩
  | rg n => obtain ⟨b, t, u, v, e, l⟩ := r; exact ⟨b, t, u, v, e, k _ _ l (.inr (.inr rfl))⟩
  | oi xs => obtain ⟨b, vs, e, no, ⟨n, e1⟩, i⟩ := r; exact ⟨b, vs, e, no, ⟨n, k _ _ e1 (.inl rfl)⟩, i⟩
  | ol xs => obtain ⟨b, vs, e, no, ⟨n, e1⟩, i⟩ := r; exact ⟨b, vs, e, no, ⟨n, k _ _ e1 (.inl rfl)⟩, i⟩
  | fn b fd =>
    obtain ⟨e, ⟨ob, e1, e2⟩, c', oc, vs, tk, q1, q2, q3, q4⟩ := r
    refine ⟨e, ⟨ob, hk _ _ (fun hm => ?_) e1, e2⟩, c', oc, vs, tk, q1, hk _ _ (fun hm => ?_) q2, q3, q4⟩
    · obtain ⟨o, e', _, vs', hv, _⟩ := hw _ hm
      rw [e'] at e1; cases e1; rw [hv] at e2; cases e2
    · obtain ⟨o, e', _, vs', hv, hn⟩ := hw _ hm
      rw [e'] at q2; cases q2; rw [hv] at q3; cases q3; exact hn _ _ q4
  | _ => exact r

theorem tab_iter {wr : List Addr} (hk : ∀ b o, b ∉ wr → h.get? b = some o → h'.get? b = some o) (hw : ∀ b ∈ wr, ∃ o, h.get? b = some o ∧ IterObj o) (T : TabInv h) : TabInv h' := by
  have tg : ∀ {P : Addr} {l cc : Nat} {q : Str}, TG P l cc q h → TG P l cc q h' := by
    rintro P l cc q ⟨ps, e, r⟩
    refine ⟨ps, hk _ _ (fun hm => ?_) e, r.imp id ?_⟩
    · obtain ⟨o, e', ⟨T, hT, _⟩, _⟩ := hw _ hm
      rw [e'] at e; cases e; cases hT
    · rintro ⟨c', e1, c'', oc, vs, t, e2, e3, e4, e5⟩
      refine ⟨c', e1, c'', oc, vs, t, e2, hk _ _ (fun hm => ?_) e3, e4, e5⟩
      obtain ⟨o, e', _, vs', hv, hn⟩ := hw _ hm
      rw [e'] at e3; cases e3
      rw [hv] at e4; cases e4
      exact hn _ _ e5
  exact ⟨tg T.1, tg T.2⟩

theorem Fm.iter (F : Fm tt hb h₀ hM env h m cm α O a) {wr : List Addr} (hk : ∀ b o, b ∉ wr → h.get? b = some o → h'.get? b = some o) (hw : ∀ b ∈ wr, ∃ o, h.get? b = some o ∧ IterObj o)
    (nb : ∀ b ∈ wr, hb.get? b = none) (n0 : ∀ b ∈ wr, h₀.get? b = none) (nM : ∀ b ∈ wr, hM.get? b = none) : Fm tt hb h₀ hM env h' m cm α O a := by
  have hL : env.locals ∉ wr := fun hm => by
    obtain ⟨o, es, ep, e, hd, _⟩ := F.rd.ns
    obtain ⟨o', e', _, vs, hv, _⟩ := hw _ hm
    rw [e] at e'; cases e'; rw [hd] at hv; cases hv
  have hc : ∀ x c, env.cells.lookup x = some c → c ∉ wr := fun x c q hm => by
    obtain ⟨o, e, hd⟩ := F.rd.cells x c q
    obtain ⟨o', e', _, vs, hv, _⟩ := hw _ hm
    rw [e] at e'; cases e'; rw [hd] at hv; cases hv
  exact { F with
    rd :=
      { F.rd with
        ns := F.rd.ns.at' fun o e => hk _ o hL e
        cells := fun y c e => let ⟨o, e1, e2⟩ := F.rd.cells y c e; ⟨o, hk _ _ (hc y c e) e1, e2⟩
        vars := fun y u e => let ⟨cv, e1, e2⟩ := F.rd.vars y u e; ⟨cv, e1, v_iter hk hw e2⟩
        base := fun b o e => hk b o (fun hm => by rw [nb b hm] at e; cases e) (F.rd.base b o e)
        tab := tab_iter hk hw F.rd.tab
        own := fun b o => let ⟨its, n, e⟩ := F.rd.own b o; ⟨its, n, hk _ _ (fun hm => by
          obtain ⟨o', e', ⟨T, hT, n1, _⟩, _⟩ := hw _ hm
          rw [e'] at e; cases e; cases hT; exact n1 rfl) e⟩ }
    keep0 := fun b o n e => hk b o (fun hm => by rw [n0 b hm] at e; cases e) (F.keep0 b o n e)
    keepM := fun b o n1 n2 n3 n4 n5 e => hk b o (fun hm => by rw [nM b hm] at e; cases e) (F.keepM b o n1 n2 n3 n4 n5 e) }

/-- a fresh address is none of the frame's, nor of what stood before -/
theorem Fm.fresh (F : Fm tt hb h₀ hM env h m cm α O a) {b : Addr} (hn : h.get? b = none) : b ≠ 47 ∧ b ≠ 54 ∧ b ≠ env.locals ∧ (∀ x c, env.cells.lookup x = some c → b ≠ c) ∧ a ≠ some b ∧ hb.get? b = none ∧ h₀.get? b = none ∧ hM.get? b = none := by
  have ne : ∀ c o, h.get? c = some o → b ≠ c := fun c o e q => by rw [q, e] at hn; cases hn
  obtain ⟨⟨_, e47, _⟩, ⟨_, e54, _⟩⟩ := F.rd.tab
  have n47 := ne _ _ e47
  have n54 := ne _ _ e54
  have nL : b ≠ env.locals := by obtain ⟨o, _, _, e, _⟩ := F.rd.ns; exact ne _ _ e
  have nc : ∀ x c, env.cells.lookup x = some c → b ≠ c := fun x c q => by obtain ⟨o, e, _⟩ := F.rd.cells x c q; exact ne _ _ e
  have na : a ≠ some b := fun q => by obtain ⟨_, _, e⟩ := F.rd.own b (.inr q); exact ne _ _ e rfl
  refine ⟨n47, n54, nL, nc, na, ?_, ?_, ?_⟩
  · cases q : hb.get? b with
    | none => rfl
    | some o => rw [F.rd.base b o q] at hn; cases hn
  · cases q : h₀.get? b with
    | none => rfl
    | some o => rw [F.keep0 b o (fun _ => ⟨n47, n54⟩) q] at hn; cases hn
  · cases q : hM.get? b with
    | none => rfl
    | some o => rw [F.keepM b o n47 n54 nL (fun x c _ => nc x c) na q] at hn; cases hn

/-- a frame's mark laid anew -/
theorem Fm.mark (F : Fm tt hb h₀ hM env h m cm α O a) : Fm tt hb h₀ h env h m cm α O a := { F with keepM := .refl }

/-- less is known -/
theorem Fm.weak' {α' : Al} (F : Fm tt hb h₀ hM env h m cm α' O a) (k : ∀ x v, α.lookup x = some v → α'.lookup x = some v) : Fm tt hb h₀ hM env h m cm α O a :=
  { F with
    rd := { F.rd with vars := fun x v e => F.rd.vars x v (k x v e) }
    one := fun x y u v e e' => F.one x y u v (k x u e) (k y v e')
    oat := fun x v cv e => F.oat x v cv (k x v e) }

/-- an iterator is made of an expression -/
structure It (prog : Program) (w : World) (hb : Heap) (A : Around) (env : Env) (t : Bool) (α : Al) (iter : Expr) (items : List AV) : Prop where
  go : ∀ (s : Shared) (m cm : Str → Option Value) (O : Addr → Prop) (Q E : Value → Shared → Prop), Rd hb env s.heap m cm α O →
    (∀ h₁ tk₁ I h₂ fp wr P St, KeepB t s.heap h₁ → TabInv h₁ → Itr prog w A O h₁ h₂ I items fp wr P St → Q (.ref I) { s with heap := h₂, toks := tk₁ }) →
    wpAny (model prog w) A (eval iter env) (fun cv s₁ => wpAny (model prog w) A (pyIter cv) Q E s₁) E s

theorem It_of (no : hb.get? 47 = none ∧ hb.get? 54 = none) (hh : A.handled = none) {iter : Expr} {av : AV} {items : List AV} (hi : Ev prog w hb A env t α iter av) (hit : itemsOf av = some items) (hz : items.length < 2 ^ 62) : It prog w hb A env t α iter items :=
  .mk fun s m cm O Q E R h => hi.go s m cm O _ E R fun cv h₁ tk₁ k₁ T₁ rv =>
    itr_of (s := { s with heap := h₁, toks := tk₁ }) hh rv hit hz (R.keep k₁ T₁ no).own fun I h₂ fp wr P St it => h h₁ tk₁ I h₂ fp wr P St k₁ T₁ it

theorem S_for {x : Str} {px pos : Pos} {iter : Expr} {body : List Stmt} {items : List AV} (hi : It prog w hb A env tt α iter items)
    (hk : env.kindOf x = some .local ∨ (env.kindOf x = some .cell ∧ (env.cells.lookup x).isSome = true)) (αs : Nat → Al) (h0 : ∀ x v, (αs 0).lookup x = some v → α.lookup x = some v) (j : Nat) (hj : j ≤ items.length) (r : Oc)
    (turn : ∀ i it, i < j → items[i]? = some it → Sx tt prog w hb h₀ A env O a (put x it (αs i)) body (.nx (αs (i + 1))))
    (last : (j = items.length ∧ r = .nx (αs j)) ∨ ∃ it v, items[j]? = some it ∧ r = .rt v ∧ Sx tt prog w hb h₀ A env O a (put x it (αs j)) body (.rt v))
    (hs : ∀ y, foldedSetIterable iter env y = pure y) : S1 tt prog w hb h₀ A env O a α (.For (.Name x px) iter body [] pos) r := .mk fun s hM m cm Q E F h => by
  refine wpAny_For (hi.go s m cm (OO O a) _ E F.rd fun h₁ tk₁ I h₂ fp wr P St k₁ T₁ it => ?_) hs
  have F₁ := F.keep k₁ T₁
  have F₂ : Fm tt hb h₀ hM env h₂ m cm α O a := F₁.keep (.of it.keep) (T₁.keeps it.keep)
  have fr : ∀ b ∈ wr, b ≠ 47 ∧ b ≠ 54 ∧ b ≠ env.locals ∧ (∀ x c, env.cells.lookup x = some c → b ≠ c) ∧ a ≠ some b ∧ hb.get? b = none ∧ h₀.get? b = none ∧ hM.get? b = none := fun b hm => F₁.fresh (it.new b hm)
  have fpn : ∀ b ∈ fp, b ≠ 47 ∧ b ≠ 54 ∧ b ≠ env.locals ∧ (∀ x c, env.cells.lookup x = some c → b ≠ c) ∧ a ≠ some b := fun b hm => by
    rcases it.lst b hm with hw | ⟨o, its, n, e, hd⟩
    · obtain ⟨q1, q2, q3, q4, q5, _⟩ := fr b hw; exact ⟨q1, q2, q3, q4, q5⟩
    · obtain ⟨⟨_, e47, _⟩, ⟨_, e54, _⟩⟩ := F₁.rd.tab
      refine ⟨fun q => ?_, fun q => ?_, fun q => ?_, fun x c hc q => ?_, fun q => it.free b hm (.inr q)⟩
      · subst q; rw [e47] at e; cases e; cases hd
      · subst q; rw [e54] at e; cases e; cases hd
      · subst q; obtain ⟨o', _, _, e', hd', _⟩ := F₁.rd.ns; rw [e'] at e; cases e; rw [hd'] at hd; cases hd
      · subst q; obtain ⟨o', e', hd'⟩ := F₁.rd.cells x b hc; rw [e'] at e; cases e; rw [hd'] at hd; cases hd
  let n := items.length
  refine codeAny_forLoop (fun k s' => ∃ i h' tk m' cm', k = n + 1 - i ∧ i ≤ j ∧ s' = { s with heap := h', toks := tk } ∧ St i h' ∧ Fm tt hb h₀ hM env h' m' cm' (αs i) O a) ?_ (n + 1)
    ⟨0, h₂, tk₁, m, cm, rfl, Nat.zero_le _, rfl, it.st, F₂.weak' h0⟩
  rintro k s' ⟨i, h', tk, m', cm', rfl, hij, rfl, hst, F'⟩
  have step : ∀ u h₃, St (i + 1) h₃ → P i u → (∀ b o, b ∉ wr → h'.get? b = some o → h₃.get? b = some o) → Fm tt hb h₀ hM env h₃ m' cm' (αs i) O a := fun u h₃ _ _ hk₃ =>
    F'.iter hk₃ (fun b hm => it.odd i h' hst b hm) (fun b hm => (fr b hm).2.2.2.2.2.1) (fun b hm => (fr b hm).2.2.2.2.2.2.1) (fun b hm => (fr b hm).2.2.2.2.2.2.2)
  by_cases hlt : i < n
  · refine it.walks.item i _ _ _ hlt hst fun u h₃ tk₃ hP hst₃ hk₃ => ?_
    obtain ⟨av', ei, sr⟩ := it.item i u hP
    have F₃ := step u h₃ hst₃ hP hk₃
    have nown : isOwn av' = false := by cases av' <;> first | rfl | exact sr.elim
    refine wpAny_assign_Name (S_store (s := { s with heap := h₃, toks := tk₃ }) F₃.mark hk (sr.v _ _) nown fun h₄ tk₄ m₄ cm₄ F₄ => ?_)
    have k34 : KeepX env a h₃ h₄ := F₄.keepM
    by_cases hi' : i < j
    · refine (turn i av' hi' ei).go { s with heap := h₄, toks := tk₄ } h₃ m₄ cm₄ _ _ F₄ fun fl h₅ tk₅ o => ?_
      obtain ⟨rfl, m₅, cm₅, F₅⟩ := o
      refine ⟨n + 1 - (i + 1), by omega, i + 1, h₅, tk₅, m₅, cm₅, rfl, hi', rfl, ?_, { F₅ with keepM := F₃.keepM.trans F₅.keepM }⟩
      refine it.walks.frame _ _ _ hst₃ fun b hm o e => ?_
      obtain ⟨q1, q2, q3, q4, q5⟩ := fpn b hm
      exact F₅.keepM b o q1 q2 q3 (fun x c _ => q4 x c) q5 e
    · have hij' : i = j := by omega
      subst hij'
      rcases last with ⟨q, _⟩ | ⟨it', v, ej, rfl, hl⟩
      · exact absurd hlt (by omega)
      · have e2 : av' = it' := Option.some.inj (ei.symm.trans ej)
        subst e2
        refine hl.go { s with heap := h₄, toks := tk₄ } h₃ m₄ cm₄ _ _ F₄ fun fl h₅ tk₅ o => ?_
        obtain ⟨cv, rfl, o'⟩ := o
        exact h _ h₅ tk₅ ⟨cv, rfl, o'⟩
  · have hin : i = n := by omega
    have hij' : i = j := by omega
    subst hij'
    refine it.walks.done _ _ _ ((show i = items.length from hin) ▸ hst) fun h₃ tk₃ hk₃ => wpAny_execs_nil ?_
    rcases last with ⟨q, rfl⟩ | ⟨it', v, ej, _⟩
    · exact h .next h₃ tk₃ ⟨rfl, m', cm', F'.iter hk₃ (fun b hm => it.odd i h' hst b hm) (fun b hm => (fr b hm).2.2.2.2.2.1) (fun b hm => (fr b hm).2.2.2.2.2.2.1) (fun b hm => (fr b hm).2.2.2.2.2.2.2)⟩
    · have := (List.getElem?_eq_some_iff.mp ej).1
      exact absurd hin (by omega)
end
end Mine
end

section
set_option maxRecDepth 100000
set_option linter.unusedVariables false
namespace Mine
open PySem PySem.W PySem.Calls PyProof.Rows

section
variable {prog : Program} {w : World} {K : Frag} {hb h₀ hM : Heap} {mg mb : Str → Option Value} {A : Around} {env : Env} {t tt : Bool} {α : Al} {O : Addr → Prop} {a : Option Addr} {h h' : Heap} {m cm : Str → Option Value}

theorem v_own {b : Addr} {its : Array Value} {O' : Addr → Prop} (hs : Heap.SameBut b h h') (hp : h.PlainList b its) (ob : O' b) {cv : Value} {v : AV} (hv : isOwn v = false) (r : VRel h O' cv v) : VRel h' O' cv v := by
  obtain ⟨n, e⟩ := hp
  have k : ∀ c oc, h.get? c = some oc → c ≠ b → h'.get? c = some oc := fun c oc e q => (hs.2 c q).trans e
  cases v with
  | li xs => obtain ⟨c, vs, e', no, ⟨oc, e1, e2, n', e3⟩, i⟩ := r; exact ⟨c, vs, e', no, ⟨oc, k _ _ e1 (fun q => no (q ▸ ob)), e2, n', e3⟩, i⟩
  | ls xs => obtain ⟨c, vs, e', no, ⟨oc, e1, e2, n', e3⟩, i⟩ := r; exact ⟨c, vs, e', no, ⟨oc, k _ _ e1 (fun q => no (q ▸ ob)), e2, n', e3⟩, i⟩
  | tu xs => obtain ⟨c, vs, e', ⟨oc, e1, e2, n', e3⟩, i⟩ := r; exact ⟨c, vs, e', ⟨oc, k _ _ e1 (fun q => by subst q; rw [e] at e1; have e4 := Option.some.inj e1; rw [← e4] at e2; exact absurd (show Value.type "list" = Value.type "tuple" from e2) (by decide)), e2, n', e3⟩, i⟩
  | rg n' => obtain ⟨c, t, u, v, e', l⟩ := r; exact ⟨c, t, u, v, e', k _ _ l (fun q => by subst q; have l' : h.get? c = _ := l; rw [e] at l'; have e4 := congrArg Obj.cls (Option.some.inj l'); exact absurd (show Value.type "list" = Value.type "range" from e4) (by decide))⟩
  | oi xs => cases hv
  | ol xs => cases hv
  | fn c fd =>
    obtain ⟨e', ⟨oc, e1, e2⟩, c', oc', vs, tk, q1, q2, q3, q4⟩ := r
    refine ⟨e', ⟨oc, k _ _ e1 (fun q => ?_), e2⟩, c', oc', vs, tk, q1, k _ _ q2 (fun q => ?_), q3, q4⟩
    · subst q; rw [e] at e1; cases e1; cases e2
    · subst q; rw [e] at q2; cases q2; cases q3
  | _ => exact r

/-- the frame's own list is turned -/
theorem Fm.mutate {b : Addr} (F : Fm tt hb h₀ hM env h m cm α O (some b)) {x : Str} {u v : AV} {its its' : Array Value} (hx : α.lookup x = some u) (hu : isOwn u = true) (hp0 : h.PlainList b its) (hp : h'.PlainList b its') (hs : Heap.SameBut b h h')
    (hv : isOwn v = true) (r : VRel h' (OO O (some b)) (.ref b) v) : Fm tt hb h₀ hM env h' m cm (put x v α) O (some b) := by
  obtain ⟨n, e⟩ := id hp0
  have nL : env.locals ≠ b := fun q => by obtain ⟨o, es, ep, e1, e2, _⟩ := F.rd.ns; rw [q, e] at e1; cases e1; cases e2
  have nc : ∀ y c, env.cells.lookup y = some c → c ≠ b := fun y c q z => by obtain ⟨o, e1, e2⟩ := F.rd.cells y c q; rw [z, e] at e1; cases e1; cases e2
  have alone : ∀ y u', α.lookup y = some u' → y ≠ x → isOwn u' = false := fun y u' q ne => by
    cases ho : isOwn u' with
    | false => rfl
    | true => exact absurd (F.one y x u' u q hx ho hu) ne
  have ne_of : ∀ {y : Str}, ¬ (y == x) = true → y ≠ x := fun hy q => hy (by rw [q]; exact beq_self_eq_true x)
  exact { F with
    rd :=
      { F.rd with
        ns := F.rd.ns.sameBut hs nL
        cells := fun y c q => (F.rd.cells y c q).sameBut hs (nc y c q)
        vars := fun y u' q => by
          rw [put_lookup] at q
          split at q
          · rename_i hy
            cases q
            obtain ⟨cv, e1, _⟩ := F.rd.vars x u hx
            obtain ⟨b', e2, rfl⟩ := F.oat x u cv hx hu e1
            cases e2
            exact ⟨_, by rw [eq_of_beq hy]; exact e1, r⟩
          · rename_i hy
            obtain ⟨cv, e1, r1⟩ := F.rd.vars y u' q
            exact ⟨cv, e1, v_own hs hp0 (.inr rfl) (alone y u' q (ne_of hy)) r1⟩
        base := fun c o q => (hs.2 c fun z => by rw [z, F.hba b rfl] at q; cases q).trans (F.rd.base c o q)
        tab := tab_but hs.extBut e (fun _ q => by cases q) F.rd.tab
        own := fun c o => by
          by_cases hc : c = b
          · subst hc; exact ⟨its', hp⟩
          · obtain ⟨i', n', e'⟩ := F.rd.own c o; exact ⟨i', n', (hs.2 c hc).trans e'⟩ }
    keep0 := fun c o n q => (hs.2 c fun z => by rw [z, F.f0a b rfl] at q; cases q).trans (F.keep0 c o n q)
    keepM := F.keepM.trans fun c o _ _ _ _ n5 q => (hs.2 c fun z => n5 (by rw [z])).trans q
    one := fun y z u1 u2 e1 e2 o1 o2 => by
      rw [put_lookup] at e1 e2
      split at e1 <;> split at e2
      · rename_i q1 q2; rw [eq_of_beq q1, eq_of_beq q2]
      · rename_i q1 q2; rw [alone z u2 e2 (ne_of q2)] at o2; cases o2
      · rename_i q1 q2; rw [alone y u1 e1 (ne_of q1)] at o1; cases o1
      · exact F.one y z u1 u2 e1 e2 o1 o2
    oat := fun y u' cv q ou ev => by
      rw [put_lookup] at q
      split at q
      · rename_i hy
        rw [eq_of_beq hy] at ev
        exact F.oat x u cv hx hu ev
      · rename_i hy
        rw [alone y u' q (ne_of hy)] at ou; cases ou }

/-- the frame's own list is let free: it is a list as any other -/
theorem Fm.freeze {b : Addr} (F : Fm tt hb h₀ hM env h m cm α O (some b)) {x : Str} {u v : AV} (hx : α.lookup x = some u) (hu : isOwn u = true) (hv : isOwn v = false)
    (r : ∀ O' : Addr → Prop, ¬ O' b → VRel h (OO O (some b)) (.ref b) u → VRel h O' (.ref b) v) : Fm tt hb h₀ h env h m cm (put x v α) O none := by
  have nO : ¬ OO O none b := by
    intro q
    rcases q with q | q
    · exact F.noO b q rfl
    · cases q
  have alone : ∀ y u', α.lookup y = some u' → y ≠ x → isOwn u' = false := fun y u' q ne => by
    cases ho : isOwn u' with
    | false => rfl
    | true => exact absurd (F.one y x u' u q hx ho hu) ne
  have ne_of : ∀ {y : Str}, ¬ (y == x) = true → y ≠ x := fun hy q => hy (by rw [q]; exact beq_self_eq_true x)
  have sub : ∀ c, OO O none c → OO O (some b) c := by
    intro c q
    rcases q with q | q
    · exact .inl q
    · cases q
  exact { F with
    rd :=
      { F.rd with
        vars := fun y u' q => by
          rw [put_lookup] at q
          split at q
          · rename_i hy
            cases q
            obtain ⟨cv, e1, r1⟩ := F.rd.vars x u hx
            obtain ⟨b', e2, rfl⟩ := F.oat x u cv hx hu e1
            cases e2
            exact ⟨_, by rw [eq_of_beq hy]; exact e1, r _ nO r1⟩
          · rename_i hy
            obtain ⟨cv, e1, r1⟩ := F.rd.vars y u' q
            exact ⟨cv, e1, r1.less sub (alone y u' q (ne_of hy))⟩
        own := fun c o => F.rd.own c (sub c o) }
    hba := fun _ q => by cases q
    f0a := fun _ q => by cases q
    noO := fun _ _ q => by cases q
    keepM := .refl
    one := fun y z u1 u2 e1 e2 o1 o2 => by
      rw [put_lookup] at e1 e2
      split at e1
      · cases e1; rw [hv] at o1; cases o1
      · split at e2
        · cases e2; rw [hv] at o2; cases o2
        · exact F.one y z u1 u2 e1 e2 o1 o2
    oat := fun y u' cv q ou ev => by
      rw [put_lookup] at q
      split at q
      · cases q; rw [hv] at ou; cases ou
      · rename_i hy
        rw [alone y u' q (ne_of hy)] at ou; cases ou }

theorem Sx_freezeI {b : Addr} {x : Str} {xs : List Int} {ss : List Stmt} {v : AV} (hx : α.lookup x = some (.oi xs)) (h1 : Sx tt prog w hb h₀ A env O none (put x (.li xs) α) ss (.rt v)) : Sx tt prog w hb h₀ A env O (some b) α ss (.rt v) :=
  .mk fun s hM m cm Q E F h => h1.go s s.heap m cm Q E (F.freeze hx rfl rfl fun O' nO r => by
    obtain ⟨b', vs, e, _, p, i⟩ := r; cases e; exact ⟨_, vs, rfl, nO, p.isList, i⟩) h
theorem Sx_freezeS {b : Addr} {x : Str} {xs : List Str} {ss : List Stmt} {v : AV} (hx : α.lookup x = some (.ol xs)) (h1 : Sx tt prog w hb h₀ A env O none (put x (.ls xs) α) ss (.rt v)) : Sx tt prog w hb h₀ A env O (some b) α ss (.rt v) :=
  .mk fun s hM m cm Q E F h => h1.go s s.heap m cm Q E (F.freeze hx rfl rfl fun O' nO r => by
    obtain ⟨b', vs, e, _, p, i⟩ := r; cases e; exact ⟨_, vs, rfl, nO, p.isList, i⟩) h

/-- a fresh list is bound to a name: the frame's own -/
theorem Fm.own {b : Addr} {its : Array Value} (F : Fm tt hb h₀ hM env h m cm α O none) {x : Str} {v : AV} (hk : env.kindOf x = some .local) (hno : ∀ y u, α.lookup y = some u → isOwn u = false)
    (kp : ∀ c o, h.get? c = some o → h'.get? c = some o) (hb' : h.get? b = none) (hp : h'.PlainList b its) {h'' : Heap} (hn : h''.Ns env.locals (fun y => if y = x then some (.ref b) else m y)) (hs : Heap.SameBut env.locals h' h'')
    (hv : isOwn v = true) (r : ∀ g : Heap, g.PlainList b its → VRel g (OO O (some b)) (.ref b) v) : Fm tt hb h₀ h env h'' (fun y => if y = x then some (.ref b) else m y) cm (put x v α) O (some b) := by
  obtain ⟨q1, q2, q3, q4, q5, q6, q7, q8⟩ := F.fresh hb'
  have F₁ : Fm tt hb h₀ hM env h' m cm α O none := F.keep (.of kp) (F.rd.tab.keeps kp)
  obtain ⟨o, ho, hd⟩ := ns_obj F₁.rd.ns
  have nOb : ¬ O b := fun q => by obtain ⟨_, _, e⟩ := F.rd.own b (.inl q); rw [hb'] at e; cases e
  have up : ∀ {cv : Value} {u : AV}, isOwn u = false → VRel h (OO O none) cv u → VRel h'' (OO O (some b)) cv u := fun {cv u} hu r1 => by
    have r2 := v_odd hs.extBut ho hd (keep_v (t := false) (.of kp) F.rd.tab r1)
    have nb : ∀ c oc, h.get? c = some oc → ¬ OO O none c → ¬ OO O (some b) c := fun c oc e nc q => by
      rcases q with q | q
      · exact nc (.inl q)
      · cases q; rw [hb'] at e; cases e
    cases u with
    | li xs => obtain ⟨c, vs, e, no, l, i⟩ := r2; obtain ⟨c', vs', e', no', ⟨oc, l', _⟩, i'⟩ := r1; rw [e] at e'; cases e'; exact ⟨c, vs, e, nb c oc l' no', l, i⟩
    | ls xs => obtain ⟨c, vs, e, no, l, i⟩ := r2; obtain ⟨c', vs', e', no', ⟨oc, l', _⟩, i'⟩ := r1; rw [e] at e'; cases e'; exact ⟨c, vs, e, nb c oc l' no', l, i⟩
    | oi xs => cases hu
    | ol xs => cases hu
    | _ => exact r2
  have p'' : h''.PlainList b its := by
    obtain ⟨n, e⟩ := hp
    exact ⟨n, (hs.2 b q3).trans e⟩
  have ne_of : ∀ {y : Str}, ¬ (y == x) = true → y ≠ x := fun hy q => hy (by rw [q]; exact beq_self_eq_true x)
  exact
    { rd :=
      { fn := F.rd.fn, gl := F.rd.gl, bi := F.rd.bi, ns := hn
        cells := fun y c e => (F₁.rd.cells y c e).sameBut hs (F.nl y c e)
        vars := fun y u e => by
          rw [put_lookup] at e
          split at e
          · rename_i hy
            cases e
            refine ⟨.ref b, ?_, r _ p''⟩
            unfold varOf; rw [eq_of_beq hy, hk]; simp
          · rename_i hy
            obtain ⟨cv, e1, r1⟩ := F.rd.vars y u e
            refine ⟨cv, ?_, up (hno y u e) r1⟩
            rw [← e1]; unfold varOf; simp only [ne_of hy, if_false]
        base := fun c oc e => (hs.2 c fun z => by rw [z, F.hbL] at e; cases e).trans (kp _ _ (F.rd.base c oc e))
        tab := tab_but hs.extBut ho hd.2 F₁.rd.tab
        own := fun c q => by
          rcases q with q | q
          · obtain ⟨i', p⟩ := F₁.rd.own c (.inl q); exact ⟨i', plain_odd hs.extBut ho hd p⟩
          · cases q; exact ⟨its, p''⟩ }
      no := F.no, hbL := F.hbL, hbc := F.hbc, inj := F.inj, nl := F.nl, f0L := F.f0L, f0c := F.f0c
      hba := fun c q => by cases q; exact q6
      f0a := fun c q => by cases q; exact q7
      noO := fun c q z => by cases z; exact nOb q
      keep0 := fun c oc n e => (hs.2 c fun z => by rw [z, F.f0L] at e; cases e).trans (kp _ _ (F.keep0 c oc n e))
      keepM := fun c oc _ _ n3 _ _ e => (hs.2 c n3).trans (kp _ _ e)
      one := fun y z u1 u2 e1 e2 o1 o2 => by
        rw [put_lookup] at e1 e2
        split at e1 <;> split at e2
        · rename_i z1 z2; rw [eq_of_beq z1, eq_of_beq z2]
        · rw [hno z u2 e2] at o2; cases o2
        · rw [hno y u1 e1] at o1; cases o1
        · rw [hno y u1 e1] at o1; cases o1
      oat := fun y u cv e ou ev => by
        rw [put_lookup] at e
        split at e
        · rename_i hy
          refine ⟨b, rfl, ?_⟩
          unfold varOf at ev
          rw [eq_of_beq hy, hk] at ev
          simpa using ev.symm
        · rw [hno y u e] at ou; cases ou }

theorem Sx_own {x : Str} {px pos lpos : Pos} {rest : List Stmt} {v : AV} (hk : env.kindOf x = some .local) (hno : ∀ y u, α.lookup y = some u → isOwn u = false)
    (h1 : ∀ b, Sx tt prog w hb h₀ A env O (some b) (put x (.oi []) α) rest (.rt v)) : Sx tt prog w hb h₀ A env O none α (.Assign [.Name x px] (.List [] lpos) pos :: rest) (.rt v) := .mk fun s hM m cm Q E F h => by
  refine wpAny_execs_cons (wpAny_Assign_Name (List_ (spliced_none (wpAny_newObj_type ?_ (Nat.zero_le _)))) rfl)
  refine wpAny_storeName_local hk (F.rd.ns.push _) (fun h' hn hs => ?_) (by rw [F.rd.fn]; rfl)
  exact (h1 _).go { s with heap := h', toks := _ } s.heap _ cm Q E (F.own hk hno (fun _ _ e => Heap.get?_push_of_some _ e) (Heap.get?_none_of_le (Nat.le_refl _)) (its := #[]) ⟨_, Heap.get?_push_size _ rfl⟩ hn hs rfl fun g p => ⟨_, [], rfl, .inr rfl, p, .nil⟩) h
end
end Mine
end

section
set_option maxRecDepth 100000
set_option linter.unusedVariables false
namespace Mine
open PySem PySem.W PySem.Calls PyProof.Rows

section
variable {prog : Program} {w : World} {K : Frag} {hb h₀ hM : Heap} {mg mb : Str → Option Value} {A : Around} {env : Env} {t tt : Bool} {α : Al} {O : Addr → Prop} {a : Option Addr} {h h' : Heap} {m cm : Str → Option Value}

/-- a value of a built-in type, for its methods -/
def IsT (hb : Heap) (v : AV) (T : String) : Prop := ∀ (s : Shared) (O : Addr → Prop) (cv : Value), (∀ b o, hb.get? b = some o → s.heap.get? b = some o) → VRel s.heap O cv v →
  s.TypeIs cv T ∧ ∀ a, cv = .ref a → ∃ ob, s.heap.get? a = some ob ∧ ob.dict = none

theorem isT_str {x : Str} : IsT hb (.str x) "str" := fun s O cv _ r => by obtain ⟨_, rfl⟩ := r; exact ⟨typeIs_str _ _ _, fun _ e => nomatch e⟩
theorem isT_int {i : Int} : IsT hb (.int i) "int" := fun s O cv _ r => by obtain ⟨_, rfl⟩ := r; exact ⟨typeIs_int _ _ _, fun _ e => nomatch e⟩
theorem isT_oi {xs : List Int} : IsT hb (.oi xs) "list" := fun s O cv _ r => by
  obtain ⟨b, vs, rfl, _, p, _⟩ := r
  obtain ⟨n, e⟩ := id p
  exact ⟨p.isList.typeIs, fun _ q => by cases q; exact ⟨_, e, rfl⟩⟩

theorem Ev_meth (no : hb.get? 47 = none ∧ hb.get? 54 = none) {o e : Expr} {es : List Expr} {name : Str} {apos pos : Pos} {T id : String} {ov v : AV} {vs : List AV} (pa : PlainAttrs T) (sl : Slot T name id)
    (ty : typeOf (.builtin id) = pure (.type "method_descriptor")) (hT : IsT hb ov T) (ho : Ev prog w hb A env t α o ov) (ha : EvL prog w hb A env t α (e :: es) vs) (hc : Bi prog w A (.builtin id) (ov :: vs) v)
    (hbase : attributeBase o name env (eval o env) = eval o env)
    (hfew : ((backTo pos (starEach (e :: es) env)).all (fun x => !x.1) && (backToKw pos (keywordEach [] env)).all (fun x => x.1.isSome)
      && decide ((e :: es).length + ([] : List Keyword).length + (if ([] : List Keyword).isEmpty then 0 else 1) < 30)) = true)
    (hline : (apos.endLine == pos.line) = true) (he : starEach (e :: es) env = (false, eval e env) :: starEach es env) (hst : (backTo pos (starEach es env)).any (·.1) = false) : Ev prog w hb A env t α (.Call (.Attribute o name apos) (e :: es) [] pos) v := .mk fun s m cm O Q E R h => by
  refine wpAny_Call_method_lateS hbase hfew hline (ho.go s m cm O _ E R fun cv h₁ tk₁ k₁ T₁ r => ?_)
  have R₁ := R.keep k₁ T₁ no
  obtain ⟨hTy, hD⟩ := hT { s with heap := h₁, toks := tk₁ } O cv R₁.base r
  refine ⟨T, id, pa, sl, ty, hTy, hD, callWith_method1 (ha.go pos { s with heap := h₁, toks := tk₁ } m cm O _ E R₁ fun cvs h₂ tk₂ k₂ T₂ rs => ?_) he hst⟩
  have R₂ := R₁.keep k₂ T₂ no
  refine (hc.go { s with heap := h₂, toks := tk₂ } O (cv :: cvs) R₂.own ⟨keep_v k₂ T₁ r, rs⟩).go Q E fun cv h₃ tk₃ k₃ rv => ?_
  exact h cv h₃ tk₃ (k₁.trans (k₂.trans (.of k₃))) (T₂.keeps k₃) rv

theorem Ev_meth0 (no : hb.get? 47 = none ∧ hb.get? 54 = none) {o : Expr} {name : Str} {apos pos : Pos} {T id : String} {ov v : AV} (pa : PlainAttrs T) (sl : Slot T name id)
    (ty : typeOf (.builtin id) = pure (.type "method_descriptor")) (hT : IsT hb ov T) (ho : Ev prog w hb A env t α o ov) (hc : Bi prog w A (.builtin id) [ov] v)
    (hbase : attributeBase o name env (eval o env) = eval o env) (hline : (apos.endLine == pos.line) = true) : Ev prog w hb A env t α (.Call (.Attribute o name apos) [] [] pos) v := .mk fun s m cm O Q E R h => by
  refine wpAny_Call_method_lateS hbase rfl hline (ho.go s m cm O _ E R fun cv h₁ tk₁ k₁ T₁ r => ?_)
  have R₁ := R.keep k₁ T₁ no
  obtain ⟨hTy, hD⟩ := hT { s with heap := h₁, toks := tk₁ } O cv R₁.base r
  refine ⟨T, id, pa, sl, ty, hTy, hD, callWith_method0 ?_⟩
  refine (hc.go { s with heap := h₁, toks := tk₁ } O [cv] R₁.own ⟨r, trivial⟩).go Q E fun cv h₃ tk₃ k₃ rv => ?_
  exact h cv h₃ tk₃ (k₁.trans (.of k₃)) (T₁.keeps k₃) rv

/-- x.append(e) of the frame's own list -/
theorem S_append {b : Addr} {x : Str} {px apos pos spos : Pos} {e : Expr} {xs : List Int} {n : Int} (hx : α.lookup x = some (.oi xs)) (hd : (x == ("__debug__" : Str)) = false) (hc : (x == ("__classdict__" : Str)) = false)
    (he : Ev prog w hb A env tt α e (.int n)) (hz : xs.length ≤ sizeLine) (hs : starEach [e] env = [(false, eval e env)]) (hline : (apos.endLine == pos.line) = true)
    (hi : interactive env = false) (hsw : swapsWith (.Call (.Attribute (.Name x px) "append" apos) [e] [] pos) none spos.line env = pure false) :
    S1 tt prog w hb h₀ A env O (some b) α (.Expr (.Call (.Attribute (.Name x px) "append" apos) [e] [] pos) spos) (.nx (put x (.oi (xs ++ [n])) α)) := .mk fun s hM m cm Q E F h => by
  refine wpAny_Expr_any ?_ hi hsw
  obtain ⟨cv, ev, r⟩ := F.rd.vars x _ hx
  obtain ⟨b', e2, rfl⟩ := F.oat x _ cv hx rfl ev
  cases e2
  refine Call_method1 rfl hs hline (rd_name F.rd ev hd hc ?_)
  obtain ⟨hTy, hD⟩ := isT_oi (hb := hb) s _ _ F.rd.base r
  refine ⟨"list", "list.append", PySem.F.plainAttrs_list, PySem.F.slot_list_append, PySem.F.type_list_append, hTy, hD, ?_⟩
  have hst : [(false, eval e env)] = backTo pos (starEach [e] env) := by rw [hs]; rfl
  rw [hst]
  refine callWith_method1 (spliced_more (he.go s m cm _ _ E F.rd fun cn h₂ tk₂ k₂ T₂ rn => spliced_none ?_) (by rw [hs]; rfl)) (by rw [hs]; rfl)
  have F₂ := F.keep k₂ T₂
  obtain ⟨u, rfl⟩ := rn
  obtain ⟨cv', e1, r1⟩ := F₂.rd.vars x _ hx
  obtain ⟨b'', e3, rfl⟩ := F₂.oat x _ cv' hx rfl e1
  cases e3
  obtain ⟨c, vs, e4, q, p, hi'⟩ := r1
  cases e4
  refine wpAny_list_append_plain (s := { s with heap := h₂, toks := tk₂ }) p (fun h' p' hs' => ?_) (by rw [List.size_toArray, hi'.length]; exact hz)
  refine h .next h' tk₂ ⟨rfl, m, cm, F₂.mutate hx rfl p p' hs' rfl ⟨_, vs ++ [.int n u], rfl, .inr rfl, ?_, hi'.append (.cons _ _ .nil)⟩⟩
  simpa using p'

/-- x op= e of ints -/
theorem S_aug {x : Str} {px pos : Pos} {op : Operator} {e : Expr} {i j k : Int} (hx : α.lookup x = some (.int i)) (hc : (x == ("__classdict__" : Str)) = false) (he : Ev prog w hb A env tt α e (.int j))
    (hop : ∀ (s : Shared) (t u : Tok) (Q E : Value → Shared → Prop), Q (.int k s.toks) { s with toks := s.toks + 1 } → wpAny (model prog w) A (inplaceOp op (.int i t) (.int j u)) Q E s)
    (hk : env.kindOf x = some .local ∨ (env.kindOf x = some .cell ∧ (env.cells.lookup x).isSome = true)) : S1 tt prog w hb h₀ A env O a α (.AugAssign (.Name x px) op e pos) (.nx (put x (.int k) α)) := .mk fun s hM m cm Q E F h => by
  obtain ⟨cv, ev, r⟩ := F.rd.vars x _ hx
  obtain ⟨u, rfl⟩ := r
  refine wpAny_AugAssign_Name (rd_load F.rd ev hc (he.go s m cm _ _ E F.rd fun cn h₂ tk₂ k₂ T₂ rn => ?_))
  obtain ⟨u', rfl⟩ := rn
  refine hop { s with heap := h₂, toks := tk₂ } u u' _ E (S_store (s := { s with heap := h₂, toks := tk₂ + 1 }) (F.keep k₂ T₂) hk (v := .int k) ⟨_, rfl⟩ rfl fun h' tk m' cm' F' => ?_)
  exact h .next h' tk ⟨rfl, m', cm', F'⟩

theorem in_order_two {f g : Value → Sem Unit} {x y : Value} {s : Shared} {Q : Unit → Shared → Prop} {E : Value → Shared → Prop} (h1 : wpAny (model prog w) A (f x) (fun _ s₁ => wpAny (model prog w) A (g y) Q E s₁) E s) :
    wpAny (model prog w) A (assignInOrder [f, g] [x, y]) Q E s := by
  show wpAny _ A (do holding [y] (f x); assignInOrder [g] [y]) Q E s
  refine wpAny_bind (wpAny_holding (wpAny_mono h1 (fun _ s₁ h₁ => ?_) fun _ _ e => e))
  show wpAny _ A (do holding [] (g y); assignInOrder [] []) Q E s₁
  exact wpAny_bind (wpAny_holding (wpAny_mono h₁ (fun _ s₂ h₂ => wpAny_pure h₂) fun _ _ e => e))

theorem tu_two {h : Heap} {O' : Addr → Prop} {cv : Value} {i j : Int} (r : VRel h O' cv (.tu [i, j])) : ∃ b t u, cv = .ref b ∧ h.IsTuple b (List.toArray [.int i t, .int j u]) := by
  obtain ⟨b, vs, rfl, l, hi⟩ := r
  cases hi with
  | cons _ t r => cases r with
    | cons _ u r => cases r; exact ⟨b, t, u, rfl, l⟩

/-- x, y = e -/
theorem S_two (hh : A.handled = none) {x y : Str} {px py tpos pos : Pos} {k : Nat} {e : Expr} {i j : Int} (he : Ev prog w hb A env tt α e (.tu [i, j])) (kx : env.kindOf x = some .local) (ky : env.kindOf y = some .local)
    (hs : swapsWithSole [.Tuple [.Name x px, .Name y py] k tpos] e pos.line env = pure false) (hw : swappedStores [.Tuple [.Name x px, .Name y py] k tpos] e env = pure none) :
    S1 tt prog w hb h₀ A env O a α (.Assign [.Tuple [.Name x px, .Name y py] k tpos] e pos) (.nx (put y (.int j) (put x (.int i) α))) := .mk fun s hM m cm Q E F h => by
  refine Assign_Tuple (he.go s m cm _ _ E F.rd fun cv h₁ tk₁ k₁ T₁ r => ?_) hs hw
  obtain ⟨b, t, u, rfl, l⟩ := tu_two r
  have F₁ := F.keep k₁ T₁
  refine wpAny_assign_Tuple (s := { s with heap := h₁, toks := tk₁ }) hh l rfl rfl fun h₂ hx => ?_
  have kp : ∀ c o, h₁.get? c = some o → h₂.get? c = some o := fun c o e => hx c o (Nat.ne_of_lt (Heap.lt_size e)) e
  have F₂ := F₁.keep (.of kp) (T₁.keeps kp)
  refine in_order_two (wpAny_assign_Name (S_store (s := { s with heap := h₂, toks := tk₁ }) F₂ (.inl kx) (v := .int i) ⟨_, rfl⟩ rfl fun h₃ tk₃ m₃ cm₃ F₃ => ?_))
  refine wpAny_assign_Name (S_store (s := { s with heap := h₃, toks := tk₃ }) F₃ (.inl ky) (v := .int j) ⟨_, rfl⟩ rfl fun h₄ tk₄ m₄ cm₄ F₄ => ?_)
  exact h .next h₄ tk₄ ⟨rfl, m₄, cm₄, F₄⟩
theorem S_two_swapped (hh : A.handled = none) {x y : Str} {px py tpos pos : Pos} {k : Nat} {e : Expr} {i j : Int} (he : Ev prog w hb A env tt α e (.tu [i, j])) (kx : env.kindOf x = some .local) (ky : env.kindOf y = some .local)
    (hs : swapsWithSole [.Tuple [.Name x px, .Name y py] k tpos] e pos.line env = pure false) (hw : swappedStores [.Tuple [.Name x px, .Name y py] k tpos] e env = pure (some [x, y])) :
    S1 tt prog w hb h₀ A env O a α (.Assign [.Tuple [.Name x px, .Name y py] k tpos] e pos) (.nx (put x (.int i) (put y (.int j) α))) := .mk fun s hM m cm Q E F h => by
  refine Assign_Tuple_swapped (he.go s m cm _ _ E F.rd fun cv h₁ tk₁ k₁ T₁ r => ?_) hs hw
  obtain ⟨b, t, u, rfl, l⟩ := tu_two r
  have F₁ := F.keep k₁ T₁
  show wpAny _ A (unpackItems (.ref b) (List.toArray [Value.int i t, Value.int j u]).size none) _ E _
  refine wpAny_unpackItems_tuple (s := { s with heap := h₁, toks := tk₁ }) hh l fun h₂ hx => ?_
  have kp : ∀ c o, h₁.get? c = some o → h₂.get? c = some o := fun c o e => hx c o (Nat.ne_of_lt (Heap.lt_size e)) e
  have F₂ := F₁.keep (.of kp) (T₁.keeps kp)
  show wpAny _ A (assignInOrder [bindName env y, bindName env x] [.int j u, .int i t]) _ E _
  refine in_order_two (wpAny_bindName (S_store (s := { s with heap := h₂, toks := tk₁ }) F₂ (.inl ky) (v := .int j) ⟨_, rfl⟩ rfl fun h₃ tk₃ m₃ cm₃ F₃ => ?_))
  refine wpAny_bindName (S_store (s := { s with heap := h₃, toks := tk₃ }) F₃ (.inl kx) (v := .int i) ⟨_, rfl⟩ rfl fun h₄ tk₄ m₄ cm₄ F₄ => ?_)
  exact h .next h₄ tk₄ ⟨rfl, m₄, cm₄, F₄⟩

/-- x = [.. for ..], a local: the road where the stores are exchanged -/
theorem S_comp (hh : A.handled = none) {scope : Scope} {cl : List (Str × Addr)} {x y : Str} (C : CompOk scope cl env x) {iter elt : Expr} {px py pos spos : Pos} {ifs : List Expr} {av : AV} {items : List AV} {p : AV → Bool} {f : AV → AV} {v : AV}
    (hsw : swapsWith (.ListComp elt [⟨.Name x px, iter, ifs, 0⟩] scope pos) (some (.Name y py)) spos.line env = pure true) (hy : env.kindOf y = some .local)
    (hi : Ev prog w hb A env tt α iter av) (hit : itemsOf av = some items) (hz : items.length ≤ sizeLine)
    (ht : ∀ a ∈ items, ∀ cell, Ts prog w hb A (compEnvC scope cl cell env) ((x, a) :: capt cl α) ifs (p a))
    (he : ∀ a ∈ items, p a = true → ∀ cell, Ev prog w hb A (compEnvC scope cl cell env) false ((x, a) :: capt cl α) elt (f a)) (hs : ∀ a ∈ items, ∀ h O y, VRel h O y (f a) → SRel y (f a))
    (hv : ∀ h (O : Addr → Prop) D ys, ¬ O D → h.IsList D (List.toArray ys) → SAll ys ((items.filter p).map f) → VRel h O (.ref D) v) (nv : isOwn v = false)
    (hfs : ∀ y, foldedSetIterable iter env y = pure y) : S1 tt prog w hb h₀ A env O a α (.Assign [.Name y py] (.ListComp elt [⟨.Name x px, iter, ifs, 0⟩] scope pos) spos) (.nx (put y v α)) := .mk fun s hM m cm Q E F h => by
  refine wpAny_Assign_ListComp_free (pvOf p) (fun v y => ∃ a ∈ items, SRel v a ∧ SRel y (f a)) hsw C.clos C.cell C.kind C.names C.loc hy (by rw [F.rd.fn]; rfl) ?_ hfs
  refine hi.go s m cm _ _ E F.rd fun cv h₁ tk₁ k₁ T₁ r => ?_
  have F₁ := F.keep k₁ T₁
  refine itr_of (s := { s with heap := h₁, toks := tk₁ }) hh r hit (by unfold sizeLine at hz; omega) F₁.rd.own fun I h₂ fp wr P St it => ?_
  have F₂ : Fm tt hb h₀ hM env h₂ m cm α O a := F₁.keep (.of it.keep) (T₁.keeps it.keep)
  refine ⟨I, fp, wr, items.length, P, St, m, rfl, it.walks, hz, it.st, it.low, fun hm => (F₁.fresh (it.new _ hm)).2.2.1 rfl, F₂.rd.ns, comp_quiet (s₁ := { s with heap := h₁, toks := tk₁ }) C F₁.rd it ht he hs, ?_⟩
  intro D h' tk ys vs hD hl hpl hlen hP hF hn hk
  have sa := sall_of hlen fun j u e => it.item j u (hP j u e)
  have hD1 : h₁.get? D = none := by
    cases q : h₁.get? D with
    | none => rfl
    | some o => have := it.keep _ _ q; have hD' : h₂.get? D = none := hD; rw [this] at hD'; cases hD'
  have nD : ¬ OO O a D := fun o => by obtain ⟨its, n, q⟩ := F₁.rd.own D o; rw [hD1] at q; cases q
  have hk' : Heap.ExtBut env.locals h₁ h' := fun b o nb e => hk b o nb (fun hm => by have := it.new b hm; rw [e] at this; cases this) (it.keep b o e)
  refine h .next h' tk ⟨rfl, _, cm, F₁.storeL hy hn hk' (hv h' _ D ys.toList nD (by simpa using hl) (sall_pick ?_ sa hF)) nv⟩
  rintro u y b rb ⟨b', _, rb', ry⟩
  have : b = b' := by
    cases b with
    | int n => obtain ⟨_, rfl⟩ := rb; cases b' with | int n' => obtain ⟨_, e⟩ := rb'; cases e; rfl | str _ => obtain ⟨_, e⟩ := rb'; cases e | _ => exact rb'.elim
    | str n => obtain ⟨_, rfl⟩ := rb; cases b' with | str n' => obtain ⟨_, e⟩ := rb'; cases e; rfl | int _ => obtain ⟨_, e⟩ := rb'; cases e | _ => exact rb'.elim
    | _ => exact rb.elim
  subst this; exact ry
end
end Mine
end

section
set_option maxRecDepth 100000
set_option linter.unusedVariables false
namespace Mine
open PySem PySem.W PySem.Calls PyProof.Rows

section
variable {k : Str → Option NameKind} {x : Str} {v : Value}
theorem bindL_skip : ∀ {bs : List (Str × Value)} {m : Str → Option Value}, x ∉ bs.map (·.1) → bindL k bs m x = m x
  | [], _, _ => rfl
  | (n, u) :: r, m, h => by
    simp only [List.map_cons, List.mem_cons, not_or] at h
    rw [bindL, bindL_skip h.2]
    split <;> simp [h.1]
theorem bindC_skip : ∀ {bs : List (Str × Value)} {m : Str → Option Value}, x ∉ bs.map (·.1) → bindC k bs m x = m x
  | [], _, _ => rfl
  | (n, u) :: r, m, h => by
    simp only [List.map_cons, List.mem_cons, not_or] at h
    rw [bindC, bindC_skip h.2]
    split <;> simp [h.1]
theorem bindL_get (hk : k x = some .local) : ∀ {bs : List (Str × Value)} {m : Str → Option Value}, (bs.map (·.1)).Nodup → bs.lookup x = some v → bindL k bs m x = some v
  | [], _, _, e => by cases e
  | (n, u) :: r, m, hn, e => by
    rw [List.map_cons, List.nodup_cons] at hn
    rw [List.lookup_cons] at e
    rw [bindL]
    cases hx : x == n with
    | true =>
      rw [hx] at e; cases e
      have := eq_of_beq hx; subst this
      rw [bindL_skip hn.1, if_pos hk]; simp
    | false => rw [hx] at e; exact bindL_get hk hn.2 e
theorem bindC_get (hk : k x ≠ some .local) : ∀ {bs : List (Str × Value)} {m : Str → Option Value}, (bs.map (·.1)).Nodup → bs.lookup x = some v → bindC k bs m x = some v
  | [], _, _, e => by cases e
  | (n, u) :: r, m, hn, e => by
    rw [List.map_cons, List.nodup_cons] at hn
    rw [List.lookup_cons] at e
    rw [bindC]
    cases hx : x == n with
    | true =>
      rw [hx] at e; cases e
      have := eq_of_beq hx; subst this
      rw [bindC_skip hn.1, if_neg hk]; simp
    | false => rw [hx] at e; exact bindC_get hk hn.2 e
end

theorem zip_rel {h : Heap} {O : Addr → Prop} {x : Str} {v : AV} {ps : List Str} {cvs : List Value} {vs : List AV} (r : VAll h O cvs vs) (e : (ps.zip vs).lookup x = some v) : ∃ cv, (ps.zip cvs).lookup x = some cv ∧ VRel h O cv v := by
  induction ps generalizing cvs vs with
  | nil => simp at e
  | cons p ps ih => cases vs with
    | nil => simp at e
    | cons u us => cases cvs with
      | nil => exact False.elim r
      | cons c cs =>
        rw [List.zip_cons_cons, List.lookup_cons] at e ⊢
        cases hx : x == p with
        | true => rw [hx] at e; cases e; exact ⟨c, rfl, r.1⟩
        | false => rw [hx] at e; exact ih r.2 e
theorem vall_len {h : Heap} {O : Addr → Prop} {cvs : List Value} {vs : List AV} (r : VAll h O cvs vs) : cvs.length = vs.length := by
  induction cvs generalizing vs with
  | nil => cases vs with
    | nil => rfl
    | cons n ns => exact False.elim r
  | cons v cs ih => cases vs with
    | nil => exact False.elim r
    | cons n ns => simp only [List.length_cons]; rw [ih r.2]
theorem zip_names {β : Type} : ∀ {ps : List Str} {cvs : List β}, cvs.length = ps.length → (ps.zip cvs).map (·.1) = ps
  | [], [], _ => rfl
  | p :: ps, c :: cs, h => by simp at h; simp [zip_names h]

theorem cellsFrom_acc (names : List (Str × NameKind)) : ∀ (n : Nat) (acc : List (Str × Addr)) (x : Str) (c : Addr), (cellsFrom n names acc).lookup x = some c → (acc.lookup x = some c) ∨ n ≤ c := by
  induction names with
  | nil => intro n acc x c e; exact .inl e
  | cons p r ih =>
    intro n acc x c e
    obtain ⟨nm, kd⟩ := p
    unfold cellsFrom at e
    split at e
    · rcases ih _ _ _ _ e with e' | e'
      · rw [List.lookup_cons] at e'
        cases hx : x == nm with
        | true => rw [hx] at e'; cases e'; exact .inr (Nat.le_refl _)
        | false => rw [hx] at e'; exact .inl e'
      · exact .inr (by omega)
    · exact ih _ _ _ _ e

section
variable {prog : Program} {w : World} {K : Frag} {hb h₀ hM : Heap} {mg mb : Str → Option Value} {A : Around} {env : Env} {t tt : Bool} {α : Al} {O : Addr → Prop} {a : Option Addr} {h h' : Heap} {m cm : Str → Option Value}

theorem Room.deeper {n : Nat} (r : Room A (n + 1)) (env : Env) : Room (A.deeper env) n :=
  ⟨r.hd, by have := r.d; show A.depth + 1 + n < _; omega, by have := r.u; show A.units + 3 + 8 * n < _; omega⟩
theorem Room.less {n k : Nat} (r : Room A n) (hk : k ≤ n) : Room A k := ⟨r.hd, by have := r.d; omega, by have := r.u; omega⟩

/-- a def of the text, from its body -/
theorem Fn_intro (B : Bs K hb mg mb) {f : Addr} {o : Obj} {name : Str} {params : Arguments} {body : List Stmt} {scope : Scope} {pm cd doc : Value} {ps : List Str} {vs : List AV} {v : AV} {n : Nat}
    (ho : K.lookup f = some o) (hd : o.data = .func (docDef name params body scope pm cd doc)) (hcd : hb.CodeRec cd name) (hlen : vs.length = ps.length)
    (hbind : ∀ cvs : List Value, cvs.length = ps.length → bindArgs (docDef name params body scope pm cd doc) ⟨cvs, []⟩ = pure (ps.zip cvs))
    (hnd : ps.Nodup) (hkind : ∀ x ∈ ps, scope.names.lookup x = some .local ∨ (scope.names.lookup x = some .cell ∧ ∀ n, ((cellsFrom n scope.names []).lookup x).isSome = true))
    (hown : ∀ v ∈ vs, isOwn v = false) (hv : isOwn v = false)
    (hbody : ∀ (A' : Around) (L : Addr) (O : Addr → Prop) (h₀ : Heap), Room A' n → Sx tt prog w hb h₀ A' (envOfC name scope L f cd) O none (ps.zip vs) body (.rt v))
    (hco : scope.isCoroutine = false) (hgen : scope.isGenerator = false) (hk : scope.kind = .function) : Fn prog w hb f tt (n + 1) vs v := .mk fun A s O cvs Q E rm hbs T ow r hq => by
  have hl : cvs.length = ps.length := (vall_len r).trans hlen
  refine wpAny_call (call_cells_ret (binds := ps.zip cvs) (by have := rm.d; omega) (hbs _ _ (B.X _ _ ho)) hd (B.nolimit.keeps hbs) (hcd.keeps hbs) (hbind cvs hl) ?_ (fun h₁ tk F X => ?_) hco hgen hk)
  · intro x hx
    have hx' : x.1 ∈ ps := by rw [← zip_names (β := Value) hl]; exact List.mem_map_of_mem hx
    exact (hkind x.1 hx').imp id fun q => ⟨q.1, q.2 _⟩
  have env_k : ∀ x, (envOfC name scope s.heap.objs.size f cd).kindOf x = scope.names.lookup x := fun _ => rfl
  have kp : ∀ b o, s.heap.get? b = some o → h₁.get? b = some o := F.keep
  have T₁ := T.keeps kp
  have fresh : ∀ b, s.heap.objs.size ≤ b → s.heap.get? b = none := fun b hb' => Heap.get?_none_of_le hb'
  have hbn : ∀ b, s.heap.objs.size ≤ b → hb.get? b = none := fun b hb' => by
    cases q : hb.get? b with
    | none => rfl
    | some o => have := fresh b hb'; rw [hbs b o q] at this; cases this
  have cl_ge : ∀ x c, (cellsFrom (s.heap.objs.size + 1) scope.names []).lookup x = some c → s.heap.objs.size + 1 ≤ c := fun x c e => by
    rcases cellsFrom_acc _ _ _ _ _ e with q | q
    · simp at q
    · exact q
  have OOn : OO O none = O := by
    funext b; apply propext; constructor
    · rintro (q | q); exact q; cases q
    · exact .inl
  have fm : Fm tt hb s.heap h₁ (envOfC name scope s.heap.objs.size f cd) h₁ (bindL (envOfC name scope s.heap.objs.size f cd).kindOf (ps.zip cvs) fun _ => none) (bindC (envOfC name scope s.heap.objs.size f cd).kindOf (ps.zip cvs) fun _ => none) (ps.zip vs) O none :=
    { rd :=
      { fn := hk, gl := rfl, bi := rfl, ns := F.ns
        cells := fun x c e => X.cell x c e
        vars := fun x u e => by
          obtain ⟨cv, e1, r1⟩ := zip_rel (ps := ps) r e
          have hx : x ∈ ps := by
            rw [← zip_names (β := Value) hl]
            exact List.mem_map_of_mem (mem_of_lookup e1)
          refine ⟨cv, ?_, by rw [OOn]; exact keep_v (t := false) (.of kp) T r1⟩
          unfold varOf
          rw [env_k]
          have nd : ((ps.zip cvs).map (·.1)).Nodup := by rw [zip_names hl]; exact hnd
          rcases hkind x hx with q | ⟨q, q'⟩
          · rw [q]; exact bindL_get (by rw [env_k]; exact q) nd e1
          · rw [q]
            have : ((envOfC name scope s.heap.objs.size f cd).cells.lookup x).isSome = true := q' _
            simp only [this, if_true]
            exact bindC_get (by rw [env_k, q]; simp) nd e1
        base := fun b o e => kp b o (hbs b o e)
        tab := T₁
        own := fun b q => by rw [OOn] at q; obtain ⟨its, p⟩ := ow b q; exact ⟨its, p.at (kp b)⟩ }
      no := B.no
      hbL := hbn _ (Nat.le_refl _)
      hbc := fun x c _ e => hbn c (Nat.le_of_succ_le (cl_ge x c e))
      hba := fun _ q => by cases q
      inj := fun x y c e e' => by
        have ap := X.apart
        exact name_of_addr ap (mem_of_lookup e) (mem_of_lookup e')
      nl := fun x c e => Nat.ne_of_gt (cl_ge x c e)
      f0L := fresh _ (Nat.le_refl _)
      f0c := fun x c _ e => fresh c (Nat.le_of_succ_le (cl_ge x c e))
      f0a := fun _ q => by cases q
      noO := fun _ _ q => by cases q
      keep0 := .of kp
      keepM := .refl
      one := fun x y u u' e e' o o' => by
        have := hown u (List.of_mem_zip (mem_of_lookup e)).2
        rw [this] at o; cases o
      oat := fun x u cv e o _ => by
        have := hown u (List.of_mem_zip (mem_of_lookup e)).2
        rw [this] at o; cases o }
  refine (hbody _ _ O s.heap (rm.deeper _)).go { s with heap := h₁, toks := tk } h₁ _ _ _ _ fm fun fl h' tk' o => ?_
  obtain ⟨cv, rfl, r1, T', k'⟩ := o
  exact hq cv h' tk' k' T' r1
end
end Mine
end

section
set_option maxRecDepth 100000
set_option linter.unusedVariables false
namespace Mine
open PySem PySem.W PySem.Calls PyProof.Rows
section
variable {prog : Program} {w : World} {K : Frag} {hb h₀ hM : Heap} {mg mb : Str → Option Value} {A : Around} {env : Env} {t tt : Bool} {α : Al} {O : Addr → Prop} {a : Option Addr} {h h' : Heap} {m cm : Str → Option Value}

theorem strs_values {vs : List Value} {ss : List Str} (h : StrsAre vs ss) : ∃ l : List (Str × Tok), vs = strValues l ∧ l.map (·.1) = ss := by
  induction h with
  | nil => exact ⟨[], rfl, rfl⟩
  | cons y t r ih => obtain ⟨l, e1, e2⟩ := ih; exact ⟨(y, t) :: l, by rw [e1]; rfl, by simp [e2]⟩

theorem Bi_join {x : Str} {ss : List Str} (hok : JoinOk x ss = true) : Bi prog w A (.builtin "str.join") [.str x, .ls ss] (.str (Txt.join x ss)) := by
  refine .mk ?_
  rintro s O (_ | ⟨c, _ | ⟨d, _ | ⟨_, _⟩⟩⟩) ow r <;> simp only [VAll, and_true, and_false] at r
  obtain ⟨⟨t1, rfl⟩, l, vs, rfl, _, hl, hi⟩ := r
  obtain ⟨l', e1, e2⟩ := strs_values hi
  refine .mk fun Q E h => ?_
  exact SC.join (l := l') (e1 ▸ hl) e2 hok fun t' k => h _ s.heap k (fun _ _ e => e) ⟨_, rfl⟩

/-- a list of texts made by a comprehension without a test -/
theorem Ev_compS (no : hb.get? 47 = none ∧ hb.get? 54 = none) (hh : A.handled = none) {scope : Scope} {cl : List (Str × Addr)} {x : Str} (C : CompOk scope cl env x) {iter elt : Expr} {px pos : Pos} {a : AV} {items : List AV} {f : AV → Str}
    (hi : Ev prog w hb A env t α iter a) (hit : itemsOf a = some items) (hz : items.length ≤ sizeLine)
    (he : ∀ a ∈ items, ∀ cell, Ev prog w hb A (compEnvC scope cl cell env) false ((x, a) :: capt cl α) elt (.str (f a)))
    (hfs : ∀ y, foldedSetIterable iter env y = pure y) : Ev prog w hb A env t α (.ListComp elt [⟨.Name x px, iter, [], 0⟩] scope pos) (.ls (items.map f)) :=
  Ev_comp (p := fun _ => true) (f := fun a => .str (f a)) no hh C hi hit hz (fun _ _ _ => Ts_nil) (fun a m _ => he a m) (fun _ _ _ _ _ r => r)
    (fun h O D ys nD l sa => ⟨D, ys, rfl, nD, l, sall_strs (by rw [List.filter_eq_self.mpr (fun _ _ => rfl)] at sa; rw [List.map_map]; exact sa)⟩) hfs
theorem Ev_compI (no : hb.get? 47 = none ∧ hb.get? 54 = none) (hh : A.handled = none) {scope : Scope} {cl : List (Str × Addr)} {x : Str} (C : CompOk scope cl env x) {iter elt : Expr} {px pos : Pos} {a : AV} {items : List AV} {f : AV → Int}
    (hi : Ev prog w hb A env t α iter a) (hit : itemsOf a = some items) (hz : items.length ≤ sizeLine)
    (he : ∀ a ∈ items, ∀ cell, Ev prog w hb A (compEnvC scope cl cell env) false ((x, a) :: capt cl α) elt (.int (f a)))
    (hfs : ∀ y, foldedSetIterable iter env y = pure y) : Ev prog w hb A env t α (.ListComp elt [⟨.Name x px, iter, [], 0⟩] scope pos) (.li (items.map f)) :=
  Ev_comp (p := fun _ => true) (f := fun a => .int (f a)) no hh C hi hit hz (fun _ _ _ => Ts_nil) (fun a m _ => he a m) (fun _ _ _ _ _ r => r)
    (fun h O D ys nD l sa => ⟨D, ys, rfl, nD, l, sall_ints (by rw [List.filter_eq_self.mpr (fun _ _ => rfl)] at sa; rw [List.map_map]; exact sa)⟩) hfs
theorem Ev_compIf (no : hb.get? 47 = none ∧ hb.get? 54 = none) (hh : A.handled = none) {scope : Scope} {cl : List (Str × Addr)} {x : Str} (C : CompOk scope cl env x) {iter elt c : Expr} {px pos : Pos} {a : AV} {items : List AV} {p : AV → Bool} {f : AV → Int}
    (hi : Ev prog w hb A env t α iter a) (hit : itemsOf a = some items) (hz : items.length ≤ sizeLine)
    (ht : ∀ a ∈ items, ∀ cell, Tr prog w hb A (compEnvC scope cl cell env) false ((x, a) :: capt cl α) c (p a))
    (he : ∀ a ∈ items, p a = true → ∀ cell, Ev prog w hb A (compEnvC scope cl cell env) false ((x, a) :: capt cl α) elt (.int (f a)))
    (hfs : ∀ y, foldedSetIterable iter env y = pure y) : Ev prog w hb A env t α (.ListComp elt [⟨.Name x px, iter, [c], 0⟩] scope pos) (.li ((items.filter p).map f)) :=
  Ev_comp (p := p) (f := fun a => .int (f a)) no hh C hi hit hz (fun a m cell => Ts_one (ht a m cell)) he (fun _ _ _ _ _ r => r)
    (fun h O D ys nD l sa => ⟨D, ys, rfl, nD, l, sall_ints (by rw [List.map_map]; exact sa)⟩) hfs
end
end Mine
end

section
set_option maxRecDepth 100000
set_option linter.unusedVariables false
namespace Mine
open PySem PySem.W PySem.Calls PyProof.Rows
def AllM (P : Str × Addr → Prop) : List (Str × Addr) → Prop
  | [] => True
  | p :: r => P p ∧ AllM P r
theorem AllM.get {P : Str × Addr → Prop} : ∀ {cl : List (Str × Addr)}, AllM P cl → ∀ {y c}, cl.lookup y = some c → P (y, c)
  | [], _, _, _, e => by cases e
  | (z, d) :: r, h, y, c, e => by
    rw [List.lookup_cons] at e
    cases hy : y == z with
    | true => rw [hy] at e; cases e; rw [eq_of_beq hy]; exact h.1
    | false => rw [hy] at e; exact h.2.get e
def isCF : Option NameKind → Bool
  | some .cell => true
  | some .free => true
  | _ => false
theorem isCF_or {k : Option NameKind} (h : isCF k = true) : k = some .cell ∨ k = some .free := by
  unfold isCF at h; split at h <;> simp_all
section
variable {prog : Program} {w : World} {K : Frag} {hb h₀ hM : Heap} {mg mb : Str → Option Value} {A : Around} {env : Env} {t tt : Bool} {α : Al} {O : Addr → Prop} {a : Option Addr} {h h' : Heap} {m cm : Str → Option Value}
theorem comp_ok {scope : Scope} (cl : List (Str × Addr)) {x : Str} (c1 : closureFor scope env = pure cl := by rfl) (c2 : ∀ y ∈ scope.names, y.2 ≠ .cell := by decide) (c3 : scope.kind = .function := by rfl)
    (c4 : ∀ y ∈ scope.names, y.2 = .local → scope.names.lookup y.1 = some .local := by decide) (c5 : scope.names.lookup x = some .local := by rfl)
    (c6 : AllM (fun p => env.cells.lookup p.1 = some p.2 ∧ isCF (env.kindOf p.1) = true ∧ isCF ((relabel scope env).names.lookup p.1) = true) cl := by repeat (first | exact True.intro | (refine ⟨⟨rfl, rfl, rfl⟩, ?_⟩))) : CompOk scope cl env x :=
  ⟨c1, c2, c3, c4, c5, fun y c e => (c6.get e).1, fun y c e => isCF_or (c6.get e).2.1, fun y c e => isCF_or (c6.get e).2.2⟩
end
end Mine
end

section
set_option maxRecDepth 100000
set_option linter.unusedVariables false
namespace Mine
open PySem PySem.W PySem.Calls PyProof.Rows
section
variable {prog : Program} {w : World} {K : Frag} {hb h₀ hM : Heap} {mg mb : Str → Option Value} {A : Around} {env : Env} {t tt : Bool} {α : Al} {O : Addr → Prop} {a : Option Addr} {h h' : Heap} {m cm : Str → Option Value}
theorem eN {x : Str} {pos : Pos} {v : AV} (hv : α.lookup x = some v := by rfl) (hd : (x == ("__debug__" : Str)) = false := by rfl) (hc : (x == ("__classdict__" : Str)) = false := by rfl) :
    Ev prog w hb A env t α (.Name x pos) v := Ev_name hv hd hc
/-- a method with arguments -/
theorem eM (no : hb.get? 47 = none ∧ hb.get? 54 = none) {o e : Expr} {es : List Expr} {name : Str} {apos pos : Pos} {T id : String} {ov v : AV} {vs : List AV} (pa : PlainAttrs T) (sl : Slot T name id)
    (ty : typeOf (.builtin id) = pure (.type "method_descriptor")) (hT : IsT hb ov T) (ho : Ev prog w hb A env t α o ov) (ha : EvL prog w hb A env t α (e :: es) vs) (hc : Bi prog w A (.builtin id) (ov :: vs) v)
    (hbase : attributeBase o name env (eval o env) = eval o env := by rfl)
    (hfew : ((backTo pos (starEach (e :: es) env)).all (fun x => !x.1) && (backToKw pos (keywordEach [] env)).all (fun x => x.1.isSome)
      && decide ((e :: es).length + ([] : List Keyword).length + (if ([] : List Keyword).isEmpty then 0 else 1) < 30)) = true := by rfl)
    (hline : (apos.endLine == pos.line) = true := by rfl) (he : starEach (e :: es) env = (false, eval e env) :: starEach es env := by rfl) (hst : (backTo pos (starEach es env)).any (·.1) = false := by rfl) : Ev prog w hb A env t α (.Call (.Attribute o name apos) (e :: es) [] pos) v :=
  Ev_meth no pa sl ty hT ho ha hc hbase hfew hline he hst
theorem eL1 (no : hb.get? 47 = none ∧ hb.get? 54 = none) {e : Expr} {v : AV} (he : Ev prog w hb A env t α e v) (hs : starEach [e] env = (false, eval e env) :: starEach [] env := by rfl) : EvL prog w hb A env t α [e] [v] := EvL_cons no he EvL_nil hs
theorem eL2 (no : hb.get? 47 = none ∧ hb.get? 54 = none) {e e' : Expr} {v v' : AV} (he : Ev prog w hb A env t α e v) (he' : Ev prog w hb A env t α e' v') (hs : starEach [e, e'] env = (false, eval e env) :: starEach [e'] env := by rfl) (hs' : starEach [e'] env = (false, eval e' env) :: starEach [] env := by rfl) :
    EvL prog w hb A env t α [e, e'] [v, v'] := EvL_cons no he (eL1 no he' hs') hs
theorem eL3 (no : hb.get? 47 = none ∧ hb.get? 54 = none) {e e' e'' : Expr} {v v' v'' : AV} (he : Ev prog w hb A env t α e v) (he' : Ev prog w hb A env t α e' v') (he'' : Ev prog w hb A env t α e'' v'') (hs : starEach [e, e', e''] env = (false, eval e env) :: starEach [e', e''] env := by rfl)
    (hs' : starEach [e', e''] env = (false, eval e' env) :: starEach [e''] env := by rfl) (hs'' : starEach [e''] env = (false, eval e'' env) :: starEach [] env := by rfl) : EvL prog w hb A env t α [e, e', e''] [v, v', v''] := EvL_cons no he (eL2 no he' he'' hs' hs'') hs
/-- a call of a def of the text -/
theorem eF (B : Bs K hb mg mb) {x : Str} {p pos : Pos} {e : Expr} {es : List Expr} {vs : List AV} {v : AV} {f : Addr} {o : Obj} {fd : FuncData} {n : Nat} (rm : Room A n) (ha : EvL prog w hb A env t α (e :: es) vs) (hc : Fn prog w hb f t n vs v)
    (hk : env.kindOf x = some .globalImplicit := by rfl) (hg : nsIn K mainGlobals x = some (some (.ref f)) := by rfl) (hd : (x == ("__debug__" : Str)) = false := by rfl)
    (ho : K.lookup f = some o := by rfl) (hdat : o.data = .func fd := by rfl)
    (he : starEach (e :: es) env = (false, eval e env) :: starEach es env := by rfl) (hst : (backTo pos (starEach es env)).any (·.1) = false := by rfl) : Ev prog w hb A env t α (.Call (.Name x p) (e :: es) [] pos) v :=
  Ev_callf B rm (Ev_glob B hk hg (fun _ _ => rfl) hd) ho hdat ha hc he hst
theorem eB (B : Bs K hb mg mb) {x : Str} {p pos : Pos} {e : Expr} {es : List Expr} {vs : List AV} {v : AV} {id : String} (ha : EvL prog w hb A env t α (e :: es) vs) (hc : Bi prog w A (.builtin id) vs v)
    (hk : env.kindOf x = some .globalImplicit := by rfl) (hg : nsIn K mainGlobals x = some none := by rfl) (hv : bootBuiltins x = some (.builtin id) := by rfl) (hn : x ≠ "__name__" := by decide) (hd : (x == ("__debug__" : Str)) = false := by rfl)
    (he : starEach (e :: es) env = (false, eval e env) :: starEach es env := by rfl) (hst : (backTo pos (starEach es env)).any (·.1) = false := by rfl) : Ev prog w hb A env t α (.Call (.Name x p) (e :: es) [] pos) v :=
  Ev_callb B (Ev_boot B hk hg hv hn hd) ha hc he hst
theorem eT (B : Bs K hb mg mb) {x : Str} {p pos : Pos} {e : Expr} {es : List Expr} {vs : List AV} {v : AV} {id : String} (ha : EvL prog w hb A env t α (e :: es) vs) (hc : Bi prog w A (.type id) vs v)
    (hk : env.kindOf x = some .globalImplicit := by rfl) (hg : nsIn K mainGlobals x = some none := by rfl) (hv : bootBuiltins x = some (.type id) := by rfl) (hn : x ≠ "__name__" := by decide) (hd : (x == ("__debug__" : Str)) = false := by rfl)
    (he : starEach (e :: es) env = (false, eval e env) :: starEach es env := by rfl) (hst : (backTo pos (starEach es env)).any (·.1) = false := by rfl) : Ev prog w hb A env t α (.Call (.Name x p) (e :: es) [] pos) v :=
  Ev_callt B (Ev_boot B hk hg hv hn hd) ha hc he hst
/-- assignment of a plain value -/
theorem sA {x : Str} {px pos : Pos} {e : Expr} {v v' : AV} (he : Ev prog w hb A env tt α e v) (hv : v = v') (hk : env.kindOf x = some .local ∨ (env.kindOf x = some .cell ∧ (env.cells.lookup x).isSome = true) := by first | exact .inl rfl | exact .inr ⟨rfl, rfl⟩) (ho : isOwn v' = false := by rfl)
    (hs : swapsWith e (some (.Name x px)) pos.line env = pure false := by rfl) : S1 tt prog w hb h₀ A env O a α (.Assign [.Name x px] e pos) (.nx (put x v' α)) := S_assign (hv ▸ he) hk ho hs
theorem sR {e : Expr} {pos : Pos} {v v' : AV} {rest : List Stmt} (he : Ev prog w hb A env tt α e v) (hv : v = v') (ho : isOwn v' = false := by rfl) : Sx tt prog w hb h₀ A env O a α (.Return (some e) pos :: rest) (.rt v') := Sx_ret (S_return (hv ▸ he) ho)
theorem code_rec {K : Frag} (B : Bs K hb mg mb) {c : Addr} {o : Obj} {vs : Array Value} {q : Str} {t : Tok} (e : K.lookup c = some o) (hd : o.data = .fields vs) (hv : vs[1]? = some (.str q t)) : hb.CodeRec (.ref c) q :=
  ⟨c, o, vs, t, rfl, B.X _ _ e, hd, hv⟩
end
end Mine
end

section
set_option maxRecDepth 100000
set_option linter.unusedVariables false
namespace Mine
open PySem PySem.W PySem.Calls PyProof.Rows
section
variable {prog : Program} {w : World} {K : Frag} {hb h₀ hM : Heap} {mg mb : Str → Option Value} {A : Around} {env : Env} {t tt : Bool} {α : Al} {O : Addr → Prop} {a : Option Addr} {h h' : Heap} {m cm : Str → Option Value}

theorem bat_of (B : Bs K hb mg mb) {s : Heap} {P : Addr} (hbs : ∀ b o, hb.get? b = some o → s.get? b = some o) {ps : Array Value} (hP : s.get? P = some (tabObj ps)) : s.BuiltinsAt mg P ∧ mainGlobals ≠ P := by
  obtain ⟨bm, o, e1, e2, e3, e4, e5, e6⟩ := B.bmod
  refine ⟨⟨bm, o, e1, e2, fun q => ?_, fun q => ?_, hbs _ _ e3, e4, e5, e6⟩, fun q => ?_⟩
  · obtain ⟨o', es, ep, e, hd, _⟩ := B.g
    rw [q, e] at e3; cases e3; rw [hd] at e6; cases e6
  · have := hbs _ _ e3; rw [q, hP] at this; cases this; cases e4
  · obtain ⟨o', es, ep, e, hd, _⟩ := B.g
    have := hbs _ _ e; rw [q, hP] at this; cases this; cases hd

/-- which nested def -/
inductive Nd : Addr → Addr → Nat → Nat → Str → Prop
  | a : Nd 51 47 33 4 (Str.ofString "_int2digits.<locals>.inner")
  | b : Nd 58 54 48 4 (Str.ofString "_digits2int.<locals>.inner")
theorem Nd.code (B : Bs K hb mg mb) {c P : Addr} {l k : Nat} {q : Str} (n : Nd c P l k q) : CodeHd hb c P := by cases n; exact B.c47; exact B.c54
theorem Nd.tg {c P : Addr} {l k : Nat} {q : Str} (n : Nd c P l k q) (T : TabInv h) : TG P l k q h := by cases n; exact T.1; exact T.2
theorem Nd.ad {c P : Addr} {l k : Nat} {q : Str} (n : Nd c P l k q) : P = 47 ∨ P = 54 := by cases n; exact .inl rfl; exact .inr rfl
theorem Nd.inv {c P : Addr} {l k : Nat} {q : Str} (n : Nd c P l k q) (T : TabInv h) (x : Heap.ExtBut P h h') (g : TG P l k q h') : TabInv h' := by
  have other : ∀ {P' : Addr} {l' k' : Nat} {q' : Str}, P' ≠ P → TG P' l' k' q' h → TG P' l' k' q' h' := fun {P' l' k' q'} ne ⟨ps, e, r⟩ => by
    refine ⟨ps, x _ _ ne e, r.imp id ?_⟩
    rintro ⟨c', e1, c'', oc, vs, t, e2, e3, e4, e5⟩
    refine ⟨c', e1, c'', oc, vs, t, e2, x _ _ (fun z => ?_) e3, e4, e5⟩
    obtain ⟨ps', e', r'⟩ := n.tg T
    rw [z, e'] at e3; cases e3; cases e4
    rcases r' with rfl | ⟨c3, rfl, _⟩
    · simp at e5
    · simp [rawInt] at e5
  cases n
  · exact ⟨g, other (by decide) T.2⟩
  · exact ⟨other (by decide) T.1, g⟩

theorem Sx_def (B : Bs K hb mg mb) {name : Str} {params : Arguments} {body rest : List Stmt} {scope : Scope} {pos : Pos} {clos : List (Str × Addr)} {c P : Addr} {q : Str} {r : Oc} (nd : Nd c P pos.line pos.col q)
    (h1 : ∀ f doc pm c' ctv, Sx true prog w hb h₀ A env O a (put name (.fn f (fnX name q params body scope clos .none .none doc pm none (.ref c') ctv)) α) rest r)
    (hcl : closureFor scope env = pure clos) (hcode : env.code = .ref c) (hk : env.kindOf name = some .cell ∧ (env.cells.lookup name).isSome = true) (hq : qualnameIn env name name = q)
    (hd0 : params.defaults = []) (hk0 : params.kw_defaults = []) (ha : annTrees params none env = []) :
    Sx true prog w hb h₀ A env O a α (.FunctionDef name params body [] none [] scope none name pos :: rest) r := .mk fun s hM m cm Q E F h => by
  refine wpAny_execs_cons (nestDef_K hd0 hk0 ha ?_)
  rw [hq]
  obtain ⟨ps, eP, st⟩ := nd.tg F.rd.tab
  obtain ⟨bat, gP⟩ := bat_of B F.rd.base eP
  have C := (nd.code B).keeps F.rd.base
  rcases st with rfl | ⟨c', rfl, rec⟩
  · refine makeFunction_K (mg := mg) hcl F.rd.gl (B.g.keeps F.rd.base) hcode C eP True.intro rfl gP bat fun c' ctv doc h' tk hx hge hlt hrec htb => ?_
    have up : ∀ b o, h'.get? b = some o → (h'.push (fnMade name q params body scope clos doc ((mg "__name__").getD .none) c' ctv)).get? b = some o := fun b o e => Heap.get?_push_of_some _ e
    have T' : TabInv (h'.push (fnMade name q params body scope clos doc ((mg "__name__").getD .none) c' ctv)) := (nd.inv F.rd.tab hx ⟨_, htb, .inr ⟨c', by simp, hrec⟩⟩).keeps up
    have k' : KeepB true s.heap (h'.push (fnMade name q params body scope clos doc ((mg "__name__").getD .none) c' ctv)) := fun b o n e => up b o (hx b o (fun z => by
      have := n rfl; rcases nd.ad with z' | z' <;> rw [z'] at z
      · exact this.1 z
      · exact this.2 z) e)
    refine S_store (s := { s with heap := _, toks := tk }) (F.keep k' T') (.inr hk) (v := .fn h'.objs.size (fnX name q params body scope clos .none .none doc ((mg "__name__").getD .none) none (.ref c') ctv)) ⟨rfl, ⟨_, Heap.get?_push_size _ rfl, rfl⟩, hrec.keeps up⟩ rfl fun h₂ tk₂ m' cm' F' => ?_
    exact (h1 _ _ _ _ _).go { s with heap := h₂, toks := tk₂ } hM m' cm' Q E F' h
  · refine makeFunction_hit (mg := mg) (cv := .ref c') hcl F.rd.gl (B.g.keeps F.rd.base) hcode C eP (by simp [TriplesOk, rawInt]) (by simp [codeAmong, rawInt]) bat fun ctv doc h' tk hx hge => ?_
    have up : ∀ b o, s.heap.get? b = some o → (h'.push (fnMade name q params body scope clos doc ((mg "__name__").getD .none) c' ctv)).get? b = some o := fun b o e => Heap.get?_push_of_some _ (hx b o e)
    refine S_store (s := { s with heap := _, toks := tk }) (F.keep (.of up) (F.rd.tab.keeps up)) (.inr hk) (v := .fn h'.objs.size (fnX name q params body scope clos .none .none doc ((mg "__name__").getD .none) none (.ref c') ctv)) ⟨rfl, ⟨_, Heap.get?_push_size _ rfl, rfl⟩, rec.keeps up⟩ rfl fun h₂ tk₂ m' cm' F' => ?_
    exact (h1 _ _ _ _ _).go { s with heap := h₂, toks := tk₂ } hM m' cm' Q E F' h
end
end Mine
end

section
set_option maxRecDepth 100000
set_option linter.unusedVariables false
namespace Mine
open PySem PySem.W PySem.Calls PyProof.Rows
section
variable {prog : Program} {w : World} {K : Frag} {hb h₀ hM : Heap} {mg mb : Str → Option Value} {A : Around} {env : Env} {t tt : Bool} {α β : Al} {O : Addr → Prop} {a : Option Addr} {h h' : Heap} {m cm : Str → Option Value}

theorem rev_lookup {x : Str} {v : Value} : ∀ {l : List (Str × Value)}, (l.map (·.1)).Nodup → l.lookup x = some v → l.reverse.lookup x = some v
  | [], _, e => by cases e
  | (n, u) :: r, hn, e => by
    rw [List.map_cons, List.nodup_cons] at hn
    rw [List.reverse_cons, List.lookup_append]
    rw [List.lookup_cons] at e
    cases hx : x == n with
    | true =>
      rw [hx] at e; cases e
      have := eq_of_beq hx; subst this
      have : r.reverse.lookup x = none := by
        rw [List.lookup_eq_none_iff]
        intro p hp
        have : p.1 ∈ r.map (·.1) := List.mem_map_of_mem (List.mem_reverse.mp hp)
        have ne : x ≠ p.1 := fun q => hn.1 (by show x ∈ _; rw [q]; exact this)
        simpa using ne
      rw [this]; simp
    | false => rw [hx] at e; rw [rev_lookup hn.2 e]; rfl

theorem OOn : OO O none = O := by
  funext b; apply propext; constructor
  · rintro (q | q); exact q; cases q
  · exact .inl
theorem app_lookup {x : Str} {v : AV} {l r : Al} (e : (l ++ r).lookup x = some v) : l.lookup x = some v ∨ r.lookup x = some v := by
  rw [List.lookup_append] at e
  cases q : l.lookup x with
  | none => rw [q] at e; exact .inr e
  | some u => rw [q] at e; exact .inl e

/-- a nested def that turns nothing -/
structure Nest (prog : Program) (w : World) (hb : Heap) (f : Addr) (fd : FuncData) (β : Al) (t : Bool) (n : Nat) (args : List AV) (v : AV) : Prop where
  go : ∀ (A : Around) (s : Shared) (O : Addr → Prop) (cm : Str → Option Value) (cvs : List Value) (Q E : Value → Shared → Prop), Room A n → (∀ b o, hb.get? b = some o → s.heap.get? b = some o) → TabInv s.heap → Owned O s.heap →
    VRel s.heap O (.ref f) (.fn f fd) → (∀ x c, fd.closure.lookup x = some c → s.heap.IsCell c (cm x)) → (∀ x v, β.lookup x = some v → ∃ cv, (fd.closure.lookup x).isSome = true ∧ cm x = some cv ∧ VRel s.heap O cv v) → VAll s.heap O cvs args →
    (∀ cv h' tk, KeepB t s.heap h' → TabInv h' → VRel h' O cv v → Q cv { s with heap := h', toks := tk }) → wpAny (model prog w) A (call (.ref f) cvs) Q E s

theorem Nest_intro (B : Bs K hb mg mb) {f : Addr} {fd : FuncData} {body : List Stmt} {ps : List Str} {vs : List AV} {v : AV} {n : Nat}
    (hbd : fd.body = .stmts body) (hgl : fd.globals = mainGlobals) (hbi : fd.builtins = builtinsNs) (hlen : vs.length = ps.length)
    (hbind : ∀ cvs : List Value, cvs.length = ps.length → bindArgs fd ⟨cvs, []⟩ = pure (ps.zip cvs))
    (hcell : ∀ x ∈ fd.scope.names, x.2 ≠ .cell) (hloc : ∀ x ∈ ps, fd.scope.names.lookup x = some .local) (hnd : ps.Nodup)
    (hfree : ∀ x v, β.lookup x = some v → fd.scope.names.lookup x = some .free) (hinj : ∀ x y c, fd.closure.lookup x = some c → fd.closure.lookup y = some c → x = y)
    (hown : ∀ v ∈ vs, isOwn v = false) (hownβ : ∀ x v, β.lookup x = some v → isOwn v = false)
    (hbody : ∀ (A' : Around) (L : Addr) (O : Addr → Prop) (h₀ : Heap), Room A' n → Sx tt prog w hb h₀ A' (callEnv fd L f) O none (ps.zip vs ++ β) body (.rt v))
    (hco : fd.scope.isCoroutine = false) (hgen : fd.scope.isGenerator = false) (hk : fd.scope.kind = .function) : Nest prog w hb f fd β tt (n + 1) vs v := .mk fun A s O cm cvs Q E rm hbs T ow rf hcm hβ r hq => by
  have hl : cvs.length = ps.length := (vall_len r).trans hlen
  obtain ⟨_, ⟨o, ho, hd⟩, hcd⟩ := rf
  refine wpAny_call (codeAny_call_def (by have := rm.d; omega) ho hd (B.nolimit.keeps hbs) hcd hbd (.of_eq (hbind cvs hl)) hcell ?_ (fun h₁ hns kp => ?_) hco hgen hk)
  · intro x hx
    have hx' : x.1 ∈ ps := by rw [← zip_names (β := Value) hl]; exact List.mem_map_of_mem hx
    exact hloc x.1 hx'
  have env_k : ∀ x, (callEnv fd s.heap.objs.size f).kindOf x = fd.scope.names.lookup x := fun _ => rfl
  have fresh : ∀ b, s.heap.objs.size ≤ b → s.heap.get? b = none := fun b hb' => Heap.get?_none_of_le hb'
  have hbL : hb.get? s.heap.objs.size = none := by
    cases q : hb.get? s.heap.objs.size with
    | none => rfl
    | some o => have := fresh _ (Nat.le_refl _); rw [hbs _ o q] at this; cases this
  have nocell : ∀ x, (callEnv fd s.heap.objs.size f).kindOf x ≠ some .cell := fun x e => hcell _ (mem_of_lookup e) rfl
  have fm : Fm tt hb s.heap h₁ (callEnv fd s.heap.objs.size f) h₁ (fun y => (ps.zip cvs).reverse.lookup y) cm (ps.zip vs ++ β) O none :=
    { rd :=
      { fn := hk, gl := hgl, bi := hbi, ns := hns
        cells := fun x c e => (hcm x c e).keeps kp
        vars := fun x u e => by
          rcases app_lookup e with e | e
          · obtain ⟨cv, e1, r1⟩ := zip_rel (ps := ps) r e
            have hx : x ∈ ps := by rw [← zip_names (β := Value) hl]; exact List.mem_map_of_mem (mem_of_lookup e1)
            refine ⟨cv, ?_, by rw [OOn]; exact keep_v (t := false) (.of kp) T r1⟩
            unfold varOf
            rw [env_k, hloc x hx]
            exact rev_lookup (by rw [zip_names hl]; exact hnd) e1
          · obtain ⟨cv, e1, e2, r1⟩ := hβ x u e
            refine ⟨cv, ?_, by rw [OOn]; exact keep_v (t := false) (.of kp) T r1⟩
            unfold varOf
            have e1' : ((callEnv fd s.heap.objs.size f).cells.lookup x).isSome = true := e1
            rw [env_k, hfree x u e]
            simp only [e1', if_true]; exact e2
        base := fun b o e => kp b o (hbs b o e)
        tab := T.keeps kp
        own := fun b q => by rw [OOn] at q; obtain ⟨its, p⟩ := ow b q; exact ⟨its, p.at (kp b)⟩ }
      no := B.no
      hbL := hbL
      hbc := fun x c e _ => absurd e (nocell x)
      hba := fun _ q => by cases q
      inj := fun x y c e e' => hinj x y c e e'
      nl := fun x c e => by
        obtain ⟨o, e1, _⟩ := hcm x c e
        exact Nat.ne_of_lt (Heap.lt_size e1)
      f0L := fresh _ (Nat.le_refl _)
      f0c := fun x c e _ => absurd e (nocell x)
      f0a := fun _ q => by cases q
      noO := fun _ _ q => by cases q
      keep0 := .of kp
      keepM := .refl
      one := fun x y u u' e e' o o' => by
        rcases app_lookup e with e | e
        · rw [hown u (List.of_mem_zip (mem_of_lookup e)).2] at o; cases o
        · rw [hownβ x u e] at o; cases o
      oat := fun x u cv e o _ => by
        rcases app_lookup e with e | e
        · rw [hown u (List.of_mem_zip (mem_of_lookup e)).2] at o; cases o
        · rw [hownβ x u e] at o; cases o }
  refine wpAny_mono ((hbody _ _ O s.heap (rm.deeper _)).go { s with heap := h₁, toks := s.toks + (ps.zip cvs).length } h₁ _ _ _ (fun _ _ => False) fm fun fl h' tk' o => ?_) (fun _ _ x => x) (fun _ _ x => x.elim)
  obtain ⟨cv, rfl, r1, T', k'⟩ := o
  exact hq cv h' tk' k' T' r1

/-- the closure's names are the frame's -/
structure Clo (env : Env) (α β : Al) (fd : FuncData) : Prop where
  sub : ∀ x c, fd.closure.lookup x = some c → env.cells.lookup x = some c
  val : ∀ x v, β.lookup x = some v → (fd.closure.lookup x).isSome = true ∧ α.lookup x = some v
  knd : ∀ x v, β.lookup x = some v → env.kindOf x = some .cell ∨ env.kindOf x = some .free

theorem clo_cm (C : Clo env α β fd) (R : Rd hb env h m cm α O) : ∀ x v, β.lookup x = some v → ∃ cv, (fd.closure.lookup x).isSome = true ∧ cm x = some cv ∧ VRel h O cv v := fun x v e => by
  obtain ⟨e1, e2⟩ := C.val x v e
  obtain ⟨cv, e3, r⟩ := R.vars x v e2
  refine ⟨cv, e1, ?_, r⟩
  obtain ⟨c, hc⟩ := Option.isSome_iff_exists.mp e1
  have hs : (env.cells.lookup x).isSome = true := by rw [C.sub x c hc]; rfl
  unfold varOf at e3
  rcases C.knd x v e with q | q <;> rw [q] at e3 <;> simpa [hs] using e3

theorem fn_at {f : Addr} {fd : FuncData} (r : VRel h O (.ref f) (.fn f fd)) : FnAt f h := by
  obtain ⟨_, ⟨⟨oc, od, dt, sl⟩, ho, hd⟩, _⟩ := r
  cases hd
  exact ⟨oc, od, fd, sl, ho⟩

theorem Ev_nest (no : hb.get? 47 = none ∧ hb.get? 54 = none) {x : Str} {p pos : Pos} {e : Expr} {es : List Expr} {vs : List AV} {v : AV} {f : Addr} {fd : FuncData} {n : Nat} (rm : Room A n) (hx : α.lookup x = some (.fn f fd)) (hdb : (x == ("__debug__" : Str)) = false) (hcd : (x == ("__classdict__" : Str)) = false)
    (C : Clo env α β fd) (ha : EvL prog w hb A env t α (e :: es) vs) (hc : Nest prog w hb f fd β t n vs v)
    (he : starEach (e :: es) env = (false, eval e env) :: starEach es env) (hst : (backTo pos (starEach es env)).any (·.1) = false) : Ev prog w hb A env t α (.Call (.Name x p) (e :: es) [] pos) v := .mk fun s m cm O Q E R h => by
  obtain ⟨cv, e1, r⟩ := R.vars x _ hx
  obtain ⟨rfl, _⟩ := id r
  refine Call_Name rfl (rd_name R e1 hdb hcd ?_)
  refine callWith_F (fn_at r) (ha.go pos s m cm O _ E R fun cvs h₂ tk₂ k₂ T₂ rs => ?_) he hst
  have R₂ := R.keep k₂ T₂ no
  have r₂ := keep_v k₂ R.tab r
  refine ⟨fn_at r₂, hc.go A { s with heap := h₂, toks := tk₂ } O cm cvs Q E rm R₂.base T₂ R₂.own r₂ (fun y c q => R₂.cells y c (C.sub y c q)) (clo_cm C R₂) rs fun cv h₃ tk₃ k₃ T₃ rv => ?_⟩
  exact h cv h₃ tk₃ (k₂.trans k₃) T₃ rv

/-- a nested def that turns one list of the frame around it -/
structure NestM (prog : Program) (w : World) (hb : Heap) (f : Addr) (fd : FuncData) (β : Al) (n : Nat) (args : List AV) (x : Str) (xs xs' : List Int) : Prop where
  go : ∀ (A : Around) (s : Shared) (O : Addr → Prop) (b : Addr) (vs : List Value) (cm : Str → Option Value) (cvs : List Value) (Q E : Value → Shared → Prop), Room A n → (∀ b o, hb.get? b = some o → s.heap.get? b = some o) → TabInv s.heap → Owned O s.heap →
    ¬ O b → hb.get? b = none → s.heap.PlainList b (List.toArray vs) → IntsAre vs xs → cm x = some (.ref b) → (fd.closure.lookup x).isSome = true →
    VRel s.heap (OO O (some b)) (.ref f) (.fn f fd) → (∀ x c, fd.closure.lookup x = some c → s.heap.IsCell c (cm x)) → (∀ x v, β.lookup x = some v → ∃ cv, (fd.closure.lookup x).isSome = true ∧ cm x = some cv ∧ VRel s.heap (OO O (some b)) cv v) →
    VAll s.heap (OO O (some b)) cvs args →
    (∀ h' tk vs', (∀ c o, c ≠ 47 → c ≠ 54 → c ≠ b → s.heap.get? c = some o → h'.get? c = some o) → TabInv h' → h'.PlainList b (List.toArray vs') → IntsAre vs' xs' → Q .none { s with heap := h', toks := tk }) → wpAny (model prog w) A (call (.ref f) cvs) Q E s

theorem NestM_intro (B : Bs K hb mg mb) {f : Addr} {fd : FuncData} {body : List Stmt} {ps : List Str} {vs : List AV} {n : Nat} {x : Str} {xs xs' : List Int}
    (hbd : fd.body = .stmts body) (hgl : fd.globals = mainGlobals) (hbi : fd.builtins = builtinsNs) (hlen : vs.length = ps.length)
    (hbind : ∀ cvs : List Value, cvs.length = ps.length → bindArgs fd ⟨cvs, []⟩ = pure (ps.zip cvs))
    (hcell : ∀ x ∈ fd.scope.names, x.2 ≠ .cell) (hloc : ∀ x ∈ ps, fd.scope.names.lookup x = some .local) (hnd : ps.Nodup)
    (hfree : ∀ x v, β.lookup x = some v → fd.scope.names.lookup x = some .free) (hfx : fd.scope.names.lookup x = some .free) (hinj : ∀ x y c, fd.closure.lookup x = some c → fd.closure.lookup y = some c → x = y)
    (hown : ∀ v ∈ vs, isOwn v = false) (hownβ : ∀ x v, β.lookup x = some v → isOwn v = false)
    (hbody : ∀ (A' : Around) (L : Addr) (O : Addr → Prop) (h₀ : Heap) (b : Addr), Room A' n → ∃ r α', (r = .nx α' ∨ r = .rm .none α') ∧ α'.lookup x = some (.oi xs') ∧ Sx true prog w hb h₀ A' (callEnv fd L f) O (some b) (ps.zip vs ++ (x, .oi xs) :: β) body r)
    (hco : fd.scope.isCoroutine = false) (hgen : fd.scope.isGenerator = false) (hk : fd.scope.kind = .function) : NestM prog w hb f fd β (n + 1) vs x xs xs' := .mk fun A s O b ls cm cvs Q E rm hbs T ow nO hbb pl il hcx hsx rf hcm hβ r' hq => by
  have hl : cvs.length = ps.length := (vall_len r').trans hlen
  obtain ⟨_, ⟨o, ho, hd⟩, hcd⟩ := rf
  refine wpAny_call (codeAny_call_def (by have := rm.d; omega) ho hd (B.nolimit.keeps hbs) hcd hbd (.of_eq (hbind cvs hl)) hcell ?_ (fun h₁ hns kp => ?_) hco hgen hk)
  · intro x hx
    have hx' : x.1 ∈ ps := by rw [← zip_names (β := Value) hl]; exact List.mem_map_of_mem hx
    exact hloc x.1 hx'
  have env_k : ∀ x, (callEnv fd s.heap.objs.size f).kindOf x = fd.scope.names.lookup x := fun _ => rfl
  have fresh : ∀ b, s.heap.objs.size ≤ b → s.heap.get? b = none := fun b hb' => Heap.get?_none_of_le hb'
  have hbL : hb.get? s.heap.objs.size = none := by
    cases q : hb.get? s.heap.objs.size with
    | none => rfl
    | some o => have := fresh _ (Nat.le_refl _); rw [hbs _ o q] at this; cases this
  have nocell : ∀ x, (callEnv fd s.heap.objs.size f).kindOf x ≠ some .cell := fun x e => hcell _ (mem_of_lookup e) rfl
  have hide : (hideAll s.heap [b]).get? b = none := hideAll_none _ (.head _)
  have three : ∀ {y : Str} {u : AV}, (ps.zip vs ++ (x, .oi xs) :: β).lookup y = some u → (ps.zip vs).lookup y = some u ∨ (y = x ∧ u = .oi xs) ∨ β.lookup y = some u := fun {y u} e => by
    rcases app_lookup e with e | e
    · exact .inl e
    · rw [List.lookup_cons] at e
      cases q : y == x with
      | true => rw [q] at e; cases e; exact .inr (.inl ⟨eq_of_beq q, rfl⟩)
      | false => rw [q] at e; exact .inr (.inr e)
  have xlook : varOf (callEnv fd s.heap.objs.size f) (fun y => (ps.zip cvs).reverse.lookup y) cm x = some (.ref b) := by
    unfold varOf
    have e1' : ((callEnv fd s.heap.objs.size f).cells.lookup x).isSome = true := hsx
    rw [env_k, hfx]
    simp only [e1', if_true]; exact hcx
  have fm : Fm true hb (hideAll s.heap [b]) h₁ (callEnv fd s.heap.objs.size f) h₁ (fun y => (ps.zip cvs).reverse.lookup y) cm (ps.zip vs ++ (x, .oi xs) :: β) O (some b) :=
    { rd :=
      { fn := hk, gl := hgl, bi := hbi, ns := hns
        cells := fun x c e => (hcm x c e).keeps kp
        vars := fun y u e => by
          rcases three e with e | ⟨rfl, rfl⟩ | e
          · obtain ⟨cv, e1, r1⟩ := zip_rel (ps := ps) r' e
            have hx : y ∈ ps := by rw [← zip_names (β := Value) hl]; exact List.mem_map_of_mem (mem_of_lookup e1)
            refine ⟨cv, ?_, keep_v (t := false) (.of kp) T r1⟩
            unfold varOf
            rw [env_k, hloc y hx]
            exact rev_lookup (by rw [zip_names hl]; exact hnd) e1
          · exact ⟨_, xlook, b, ls, rfl, .inr rfl, pl.at (kp b), il⟩
          · obtain ⟨cv, e1, e2, r1⟩ := hβ y u e
            refine ⟨cv, ?_, keep_v (t := false) (.of kp) T r1⟩
            unfold varOf
            have e1' : ((callEnv fd s.heap.objs.size f).cells.lookup y).isSome = true := e1
            rw [env_k, hfree y u e]
            simp only [e1', if_true]; exact e2
        base := fun b o e => kp b o (hbs b o e)
        tab := T.keeps kp
        own := fun c q => by
          rcases q with q | q
          · obtain ⟨its, p⟩ := ow c q; exact ⟨its, p.at (kp c)⟩
          · cases q; exact ⟨_, pl.at (kp b)⟩ }
      no := B.no
      hbL := hbL
      hbc := fun x c e _ => absurd e (nocell x)
      hba := fun _ q => by cases q; exact hbb
      inj := fun x y c e e' => hinj x y c e e'
      nl := fun x c e => by
        obtain ⟨o, e1, _⟩ := hcm x c e
        exact Nat.ne_of_lt (Heap.lt_size e1)
      f0L := by
        show (hideAll s.heap [b]).get? s.heap.objs.size = none
        cases q : (hideAll s.heap [b]).get? s.heap.objs.size with
        | none => rfl
        | some o => have := fresh _ (Nat.le_refl _); rw [of_hideAll _ q] at this; cases this
      f0c := fun x c e _ => absurd e (nocell x)
      f0a := fun _ q => by cases q; exact hide
      noO := fun c oc q => by cases q; exact nO oc
      keep0 := fun c o _ e => kp c o (of_hideAll _ e)
      keepM := .refl
      one := fun y z u u' e e' o o' => by
        have key : ∀ {y : Str} {u : AV}, (ps.zip vs ++ (x, .oi xs) :: β).lookup y = some u → isOwn u = true → y = x := fun {y u} e o => by
          rcases three e with e | ⟨rfl, _⟩ | e
          · rw [hown u (List.of_mem_zip (mem_of_lookup e)).2] at o; cases o
          · rfl
          · rw [hownβ y u e] at o; cases o
        rw [key e o, key e' o']
      oat := fun y u cv e o ev => by
        rcases three e with e | ⟨rfl, _⟩ | e
        · rw [hown u (List.of_mem_zip (mem_of_lookup e)).2] at o; cases o
        · rw [xlook] at ev; cases ev; exact ⟨b, rfl, rfl⟩
        · rw [hownβ y u e] at o; cases o }
  obtain ⟨r, α', hr, hx, hbody⟩ := hbody _ _ O (hideAll s.heap [b]) b (rm.deeper _)
  have fin : ∀ h' tk' m' cm', Fm true hb (hideAll s.heap [b]) h₁ (callEnv fd s.heap.objs.size f) h' m' cm' α' O (some b) → Q .none { s with heap := h', toks := tk' } := fun h' tk' m' cm' F' => by
    obtain ⟨cv, e1, r1⟩ := F'.rd.vars x _ hx
    obtain ⟨b', e2, rfl⟩ := F'.oat x _ cv hx rfl e1
    cases e2
    obtain ⟨b', vs', e3, _, p', i'⟩ := r1
    cases e3
    exact hq h' tk' vs' (fun c o n1 n2 n3 e => F'.keep0 c o (fun _ => ⟨n1, n2⟩) (hideAll_get _ e (by simpa using n3))) F'.rd.tab p' i'
  refine wpAny_mono (hbody.go { s with heap := h₁, toks := s.toks + (ps.zip cvs).length } h₁ _ _ _ (fun _ _ => False) fm fun fl h' tk' o => ?_) (fun _ _ x => x) (fun _ _ x => x.elim)
  rcases hr with rfl | rfl
  · obtain ⟨rfl, m', cm', F'⟩ := o
    exact fin h' tk' m' cm' F'
  · obtain ⟨cv, rfl, rfl, m', cm', F'⟩ := o
    exact fin h' tk' m' cm' F'

/-- the own list is turned by a call -/
theorem Fm.mutateB {b : Addr} (F : Fm true hb h₀ hM env h m cm α O (some b)) {x : Str} {u v : AV} {its its' : Array Value} (hx : α.lookup x = some u) (hu : isOwn u = true) (hp0 : h.PlainList b its) (hp : h'.PlainList b its')
    (hk : ∀ c o, c ≠ 47 → c ≠ 54 → c ≠ b → h.get? c = some o → h'.get? c = some o) (T' : TabInv h')
    (hv : isOwn v = true) (r : ∀ g : Heap, g.PlainList b its' → VRel g (OO O (some b)) (.ref b) v) : Fm true hb h₀ hM env h' m cm (put x v α) O (some b) := by
  obtain ⟨n, e⟩ := id hp0
  obtain ⟨n', e'⟩ := id hp
  have em : (h.update b fun _ => { cls := .type "list", data := .seq its' n' }).get? b = some { cls := .type "list", data := .seq its' n' } := Heap.get?_update_self _ e rfl
  have F1 := F.mutate (v := v) (h' := h.update b fun _ => { cls := .type "list", data := .seq its' n' }) hx hu hp0 (its' := its') ⟨n', em⟩ (Heap.SameBut.update ..) hv (r _ ⟨n', em⟩)
  refine F1.keep (fun c o nt q => ?_) T'
  by_cases hc : c = b
  · subst hc; rw [em] at q; cases q; exact e'
  · exact hk c o (nt rfl).1 (nt rfl).2 hc ((Heap.get?_update_other _ _ (Ne.symm hc)).symm.trans q)

/-- inner(..), a statement, that turns x -/
theorem S_nest {b : Addr} {x y : Str} {p pos spos : Pos} {e : Expr} {es : List Expr} {vs : List AV} {f : Addr} {fd : FuncData} {n : Nat} {xs xs' : List Int} (rm : Room A n) (hx : α.lookup x = some (.fn f fd)) (hdb : (x == ("__debug__" : Str)) = false) (hcd : (x == ("__classdict__" : Str)) = false)
    (C : Clo env α β fd) (hy : α.lookup y = some (.oi xs)) (hyc : (fd.closure.lookup y).isSome = true) (hyk : env.kindOf y = some .cell ∨ env.kindOf y = some .free) (ha : EvL prog w hb A env true α (e :: es) vs) (hc : NestM prog w hb f fd β n vs y xs xs')
    (he : starEach (e :: es) env = (false, eval e env) :: starEach es env) (hst : (backTo pos (starEach es env)).any (·.1) = false)
    (hi : interactive env = false) (hsw : swapsWith (.Call (.Name x p) (e :: es) [] pos) none spos.line env = pure false) :
    S1 true prog w hb h₀ A env O (some b) α (.Expr (.Call (.Name x p) (e :: es) [] pos) spos) (.nx (put y (.oi xs') α)) := .mk fun s hM m cm Q E F h => by
  refine wpAny_Expr_any ?_ hi hsw
  obtain ⟨cv, e1, r⟩ := F.rd.vars x _ hx
  obtain ⟨rfl, _⟩ := id r
  refine Call_Name rfl (rd_name F.rd e1 hdb hcd ?_)
  refine callWith_F (fn_at r) (ha.go pos s m cm _ _ E F.rd fun cvs h₂ tk₂ k₂ T₂ rs => ?_) he hst
  have F₂ := F.keep k₂ T₂
  have r₂ := keep_v k₂ F.rd.tab r
  obtain ⟨cy, e2, ry⟩ := F₂.rd.vars y _ hy
  obtain ⟨b', e3, rfl⟩ := F₂.oat y _ cy hy rfl e2
  cases e3
  obtain ⟨b'', ls, e4, _, pl, il⟩ := ry
  cases e4
  have cmy : cm y = some (.ref b) := by
    obtain ⟨c, hc'⟩ := Option.isSome_iff_exists.mp hyc
    have hs : (env.cells.lookup y).isSome = true := by rw [C.sub y c hc']; rfl
    unfold varOf at e2
    rcases hyk with q | q <;> rw [q] at e2 <;> simpa [hs] using e2
  refine ⟨fn_at r₂, hc.go A { s with heap := h₂, toks := tk₂ } O b ls cm cvs _ E rm F₂.rd.base T₂ (fun c o => F₂.rd.own c (.inl o)) (fun o => F₂.noO b o rfl) (F₂.hba b rfl) pl il cmy hyc r₂ (fun z c q => F₂.rd.cells z c (C.sub z c q)) (clo_cm C F₂.rd) rs fun h₃ tk₃ vs' k₃ T₃ p₃ i₃ => ?_⟩
  exact h .next h₃ tk₃ ⟨rfl, m, cm, F₂.mutateB hy rfl pl p₃ k₃ T₃ rfl fun g p => ⟨b, vs', rfl, .inr rfl, p, i₃⟩⟩
end
end Mine
end

section
set_option maxRecDepth 100000
set_option linter.unusedVariables false
namespace Mine
open PySem PySem.W PySem.Calls PyProof.Rows PySem.Spec PyProof.V
section
variable {prog : Program} {w : World} {K : Frag} {hb h₀ hM : Heap} {mg mb : Str → Option Value} {A : Around} {env : Env} {t tt : Bool} {α β : Al} {O : Addr → Prop} {a : Option Addr} {h h' : Heap} {m cm : Str → Option Value}

theorem Bi_bitlen {n : Int} : Bi prog w A (.builtin "int.bit_length") [.int n] (.int (Builtin.Int.intBits n)) := by
  refine .mk ?_
  rintro s O (_ | ⟨_, _ | ⟨_, _⟩⟩) ow r <;> simp only [VAll, and_true, and_false] at r
  obtain ⟨l, rfl⟩ := r
  exact mk_tok ⟨_, rfl⟩ fun Q E h => call_int_bit_length h
theorem Bi_divmod {n d : Int} (hd : d ≠ 0) (hp : Builtin.divisionGoesByPylong n d = false) : Bi prog w A (.builtin "divmod") [.int n, .int d] (.tu [n.fdiv d, n.fmod d]) := by
  refine .mk ?_
  rintro s O (_ | ⟨_, _ | ⟨_, _ | ⟨_, _⟩⟩⟩) ow r <;> simp only [VAll, and_true, and_false] at r
  obtain ⟨⟨l, rfl⟩, ⟨l', rfl⟩⟩ := r
  refine .mk fun Q E h => divmod_int hd (h _ _ _ (fun _ _ e => Heap.get?_push_of_some _ e) ?_) (.inl hp)
  exact ⟨_, [.int (n.fdiv d) s.toks, .int (n.fmod d) (s.toks + 1)], rfl, ⟨_, Heap.get?_push_size _ rfl, rfl, _, rfl⟩, .cons _ _ (.cons _ _ .nil)⟩

section
variable {ns ms : List Int} {ss rs : List Str} {k : Int} {x y : Str} {p q : Bool}
theorem Cmp_inI : Cmp prog w A .In (.int k) (.li ns) (ns.any (· == k)) := by
  refine .mk ?_
  rintro s O _ _ _ ⟨_, rfl⟩ ⟨l, vs, rfl, _, hl, hi⟩; exact mk_tok (tk := s.toks) rfl fun Q E h => in_list_ints hl hi h
theorem Cmp_notinI : Cmp prog w A .NotIn (.int k) (.li ns) (!(ns.any (· == k))) := by
  refine .mk ?_
  rintro s O _ _ _ ⟨_, rfl⟩ ⟨l, vs, rfl, _, hl, hi⟩; exact mk_tok (tk := s.toks) rfl fun Q E h => notin_list_ints hl hi h
theorem Cmp_eqL (hu : A.units + 64 < cLine) : Cmp prog w A .Eq (.li ns) (.li ms) (decide (ns = ms)) := by
  refine .mk ?_
  rintro s O _ _ _ ⟨l, vs, rfl, _, hl, hi⟩ ⟨l', vs', rfl, _, hl', hi'⟩; exact mk_tok (tk := s.toks) rfl fun Q E h => ke_eq_ints hl hl' hi hi' hu h
theorem Cmp_neL (hu : A.units + 64 < cLine) : Cmp prog w A .NotEq (.li ns) (.li ms) (!decide (ns = ms)) := by
  refine .mk ?_
  rintro s O _ _ _ ⟨l, vs, rfl, _, hl, hi⟩ ⟨l', vs', rfl, _, hl', hi'⟩; exact mk_tok (tk := s.toks) rfl fun Q E h => ke_ne_ints hl hl' hi hi' hu h
theorem Cmp_neB : Cmp prog w A .NotEq (.bool p) (.bool q) (p != q) := by
  refine .mk ?_
  rintro s O _ _ _ rfl rfl; exact mk_tok (tk := s.toks) rfl fun Q E h => ne_bool h
theorem Cmp_notinS : Cmp prog w A .NotIn (.str y) (.str x) (!Txt.contains x y) := by
  refine .mk ?_
  rintro s O _ _ _ ⟨_, rfl⟩ ⟨_, rfl⟩; exact mk_tok (tk := s.toks) rfl fun Q E h => PySem.P.notIn_str h

def StrOks (ss : List Str) : Prop := ∀ x ∈ ss, PyData.strOk x = true
theorem sShaped (ss : List Str) (h : StrOks ss) : SeqAt.shaped (.list (ss.map PyData.str)) = true := by
  have ok : ss.all PyData.strOk = true := List.all_eq_true.mpr h
  simp [SeqAt.shaped, PyData.canLay0, PyData.depth, canLayAll_strs', depthAll_strs', ok]
theorem sSame (ss rs : List Str) : PySem.Spec.sameAll (ss.map PyData.str) (rs.map PyData.str) = decide (ss = rs) := by
  induction ss generalizing rs with
  | nil => cases rs <;> rfl
  | cons x ss ih =>
    cases rs with
    | nil => rfl
    | cons y rs =>
      show (PySem.Spec.same (.str x) (.str y) && PySem.Spec.sameAll (ss.map PyData.str) (rs.map PyData.str)) = _
      rw [PyProof.V.same_str, ih, ← Bool.decide_and]
      exact decide_eq_decide.mpr (List.cons.injEq x ss y rs ▸ Iff.rfl)
theorem Cmp_neS (hu : A.units + 64 < cLine) (o1 : StrOks ss) (o2 : StrOks rs) : Cmp prog w A .NotEq (.ls ss) (.ls rs) (!decide (ss = rs)) := by
  refine .mk ?_
  rintro s O _ _ _ ⟨l, vs, rfl, _, hl, hi⟩ ⟨l', vs', rfl, _, hl', hi'⟩
  refine mk_tok (tk := s.toks) rfl fun Q E h => ?_
  refine ne_dataH_same (reads_newData hl (lm_carried_strs hi)) (reads_newData hl' (lm_carried_strs hi')) (sShaped _ o1) (sShaped _ o2) hu (SeqAt.noMix_of_shape (.list .str) rfl _ _ (list_map_has fun _ => rfl) (list_map_has fun _ => rfl)) ?_
  have : PySem.Spec.same (.list (ss.map PyData.str)) (.list (rs.map PyData.str)) = decide (ss = rs) := by simp only [PySem.Spec.same]; exact sSame ss rs
  rw [this]; exact h

theorem Tr_int {e : Expr} {n : Int} (he : Ev prog w hb A env t α e (.int n)) (hp : isTrue e env (eval e env) = (do let v ← eval e env; standAt e.pos; holding [v] (truthy v)) := by rfl) : Tr prog w hb A env t α e (n != 0) :=
  .mk fun s m cm O Q E R h => isTrue_plain (he.go s m cm O _ E R fun cv h' tk k T r => by obtain ⟨_, rfl⟩ := r; exact PySem.P.truthy_int (h h' tk k T)) hp
theorem Tr_str {e : Expr} {x : Str} (he : Ev prog w hb A env t α e (.str x)) (hz : x.length ≤ sizeLine) (hp : isTrue e env (eval e env) = (do let v ← eval e env; standAt e.pos; holding [v] (truthy v)) := by rfl) : Tr prog w hb A env t α e ((x.length : Int) != 0) :=
  .mk fun s m cm O Q E R h => isTrue_plain (he.go s m cm O _ E R fun cv h' tk k T r => by
    obtain ⟨_, rfl⟩ := r
    unfold sizeLine at hz
    exact PySem.P.truthy_str (by omega) (h h' _ k T)) hp
theorem Tr_li {e : Expr} {ns : List Int} (he : Ev prog w hb A env t α e (.li ns)) (hz : ns.length ≤ sizeLine) (hp : isTrue e env (eval e env) = (do let v ← eval e env; standAt e.pos; holding [v] (truthy v)) := by rfl) : Tr prog w hb A env t α e (!ns.isEmpty) :=
  .mk fun s m cm O Q E R h => isTrue_plain (he.go s m cm O _ E R fun cv h' tk k T r => by
    obtain ⟨l, vs, rfl, _, hl, hi⟩ := r
    have e1 : (List.toArray vs).size = ns.length := by rw [List.size_toArray, hi.length]
    have e2 : (List.toArray vs).isEmpty = ns.isEmpty := by cases hi <;> rfl
    unfold sizeLine at hz
    refine wpAny_truthy_list hl (by rw [e1]; omega) ?_
    rw [e2]; exact h h' _ k T) hp

theorem Ev_neg {e : Expr} {pos : Pos} {n : Int} (he : Ev prog w hb A env t α e (.int n)) : Ev prog w hb A env t α (.UnaryOp .USub e pos) (.int (-n)) := .mk fun s m cm O Q E R h =>
  UnaryOp_ (he.go s m cm O _ E R fun cv h' tk k T r => by obtain ⟨_, rfl⟩ := r; exact PySem.P.neg_int (h _ h' _ k T ⟨_, rfl⟩))

theorem Bi_startswith : Bi prog w A (.builtin "str.startswith") [.str x, .str y] (.bool (Txt.startswith x y)) := by
  refine .mk ?_
  rintro s O (_ | ⟨_, _ | ⟨_, _ | ⟨_, _⟩⟩⟩) ow r <;> simp only [VAll, and_true, and_false] at r
  obtain ⟨⟨l, rfl⟩, ⟨l', rfl⟩⟩ := r
  exact mk_tok (tk := s.toks) rfl fun Q E h => SC.startswith h
theorem Bi_endswith : Bi prog w A (.builtin "str.endswith") [.str x, .str y] (.bool (Txt.endswith x y)) := by
  refine .mk ?_
  rintro s O (_ | ⟨_, _ | ⟨_, _ | ⟨_, _⟩⟩⟩) ow r <;> simp only [VAll, and_true, and_false] at r
  obtain ⟨⟨l, rfl⟩, ⟨l', rfl⟩⟩ := r
  exact mk_tok (tk := s.toks) rfl fun Q E h => SC.endswith h
def find4 (x y : Str) (i j : Nat) : Int := match Builtin.Str.occurrences x y i (min j x.length) 1 with | k :: _ => (k : Int) | [] => -1
theorem gives_find4 (x y : Str) (i j : Nat) (t u v z : Tok) : Gives (Builtin.«str.find» ⟨[.str x t, .str y u, .int i v, .int j z], []⟩) (.int (find4 x y i j)) := by
  have e1 : (max (0 : Int) (if (i : Int) < 0 then (i : Int) + x.length else i)).toNat = i := by rw [if_neg (by omega)]; omega
  have e2 : (max (0 : Int) (if (j : Int) < 0 then (j : Int) + x.length else j)).toNat = j := by rw [if_neg (by omega)]; omega
  show Gives (match Builtin.Str.occurrences x y (max (0 : Int) (if (i : Int) < 0 then (i : Int) + x.length else i)).toNat (min (max (0 : Int) (if (j : Int) < 0 then (j : Int) + x.length else j)).toNat x.length) 1 with | k :: _ => retInt k | [] => (do rule "str.find.not-found"; retInt (-1))) _
  rw [e1, e2]
  unfold find4
  cases Builtin.Str.occurrences x y i (min j x.length) 1 with
  | nil => exact .rule (.of_eq rfl)
  | cons k _ => exact .of_eq rfl
theorem Bi_find4 {i j : Nat} : Bi prog w A (.builtin "str.find") [.str x, .str y, .int i, .int j] (.int (find4 x y i j)) := by
  refine .mk ?_
  rintro s O (_ | ⟨_, _ | ⟨_, _ | ⟨_, _ | ⟨_, _ | ⟨_, _⟩⟩⟩⟩⟩) ow r <;> simp only [VAll, and_true, and_false] at r
  obtain ⟨⟨l, rfl⟩, ⟨l', rfl⟩, ⟨l2, rfl⟩, ⟨l3, rfl⟩⟩ := r
  exact mk_tok ⟨_, rfl⟩ fun Q E h => call_gives F.slot_str_find (typeIs_str _ _ _) F.entry_str_find (F.args_str_find_4 _ _ _ _) (gives_find4 x y i j _ _ _ _) h
end
end
end Mine
end

section
set_option maxRecDepth 100000
set_option linter.unusedVariables false
namespace Mine
open PySem PySem.W PySem.Calls PyProof.Rows PySem.Spec PyProof.V
section
variable {prog : Program} {w : World} {K : Frag} {hb h₀ hM : Heap} {mg mb : Str → Option Value} {A : Around} {env : Env} {t tt : Bool} {α β : Al} {O : Addr → Prop} {a : Option Addr} {h h' : Heap} {m cm : Str → Option Value}

theorem Cmp_neT {i j k l : Int} (hu : A.units + 64 < cLine) : Cmp prog w A .NotEq (.tu [i, j]) (.tu [k, l]) (!decide ([i, j] = [k, l])) := by
  refine .mk ?_
  rintro s O _ _ _ ⟨a, vs, rfl, ⟨o, e1, e2, n, e3⟩, hi⟩ ⟨b, us, rfl, ⟨o', f1, f2, n', f3⟩, hj⟩
  refine mk_tok (tk := s.toks) rfl fun Q E h => ?_
  refine ne_dataH_same (reads_tuple_ints ⟨o, e1, e2, n, e3⟩ hi) (reads_tuple_ints ⟨o', f1, f2, n', f3⟩ hj) rfl rfl hu (SeqAt.noMix_of_shape (.tuple [.int, .int]) rfl _ _ rfl rfl) ?_
  have : PySem.Spec.same (.tuple ([i, j].map .int)) (.tuple ([k, l].map .int)) = decide ([i, j] = [k, l]) := by
    simp only [List.map_cons, List.map_nil, PySem.Spec.same, PySem.Spec.sameAll]
    by_cases h1 : i = k <;> by_cases h2 : j = l <;> simp [h1, h2]
  rw [this]; exact h

theorem S_return0 {pos : Pos} : S1 tt prog w hb h₀ A env O a α (.Return none pos) (.rm .none α) := .mk fun s hM m cm Q E F h =>
  wpAny_Return_none (h (.ret .none) s.heap s.toks ⟨.none, rfl, rfl, m, cm, F⟩)
theorem Sx_retm {st : Stmt} {rest : List Stmt} {v : AV} {α' : Al} (h1 : S1 tt prog w hb h₀ A env O a α st (.rm v α')) : Sx tt prog w hb h₀ A env O a α (st :: rest) (.rm v α') :=
  .mk fun s hM m cm Q E F h => wpAny_execs_cons (h1.go s hM m cm _ E F fun fl h' tk o => by
    obtain ⟨cv, rfl, r⟩ := id o
    exact h _ h' tk o)

theorem ints_set {vs : List Value} {ns : List Int} (h : IntsAre vs ns) (k : Nat) (n : Int) (u : Tok) : IntsAre (vs.set k (.int n u)) (ns.set k n) := by
  induction h generalizing k with
  | nil => exact .nil
  | cons m tk r ih => cases k with
    | zero => exact .cons _ _ r
    | succ k => exact .cons _ _ (ih k)

/-- x[i] = e, of the frame's own list -/
theorem S_setitem {b : Addr} {x : Str} {px ps pos : Pos} {ie e : Expr} {xs : List Int} {n : Int} {k : Nat} (hx : α.lookup x = some (.oi xs)) (he : Ev prog w hb A env tt α e (.int n)) (hi : Ev prog w hb A env tt α ie (.int k)) (hk : k < xs.length) (hz : xs.length ≤ sizeLine)
    (hd : (x == ("__debug__" : Str)) = false := by rfl) (hc : (x == ("__classdict__" : Str)) = false := by rfl) (hs : swapsWith e (some (.Subscript (.Name x px) ie ps)) pos.line env = pure false := by rfl) :
    S1 tt prog w hb h₀ A env O (some b) α (.Assign [.Subscript (.Name x px) ie ps] e pos) (.nx (put x (.oi (xs.set k n)) α)) := .mk fun s hM m cm Q E F h => by
  refine wpAny_Assign_Subscript (he.go s m cm _ _ E F.rd fun cn h₁ tk₁ k₁ T₁ rn => ?_) hs
  have F₁ := F.keep k₁ T₁
  obtain ⟨cv, ev, r⟩ := F₁.rd.vars x _ hx
  obtain ⟨b', e2, rfl⟩ := F₁.oat x _ cv hx rfl ev
  cases e2
  refine rd_name F₁.rd ev hd hc (hi.go { s with heap := h₁, toks := tk₁ } m cm _ _ E F₁.rd fun ci h₂ tk₂ k₂ T₂ ri => ?_)
  have F₂ := F₁.keep k₂ T₂
  obtain ⟨cv', ev', r'⟩ := F₂.rd.vars x _ hx
  obtain ⟨b', e2, rfl⟩ := F₂.oat x _ cv' hx rfl ev'
  cases e2
  obtain ⟨c, vs, e4, q, p, hl⟩ := r'
  cases e4
  obtain ⟨u, rfl⟩ := rn
  obtain ⟨u', rfl⟩ := ri
  obtain ⟨nn, hp⟩ := id p
  unfold sizeLine at hz
  have hlen : (List.toArray vs).size = xs.length := by rw [List.size_toArray, hl.length]
  refine ki_setAt (s := { s with heap := h₂, toks := tk₂ }) (n := nn) hp (by omega) (by omega) (by rw [hlen]; omega) ?_
  have p' := IsL.update (n := nn) hp (·.setIfInBounds (k : Int).toNat (.int n u))
  have e5 : (List.toArray vs).setIfInBounds (k : Int).toNat (.int n u) = List.toArray (vs.set k (.int n u)) := by simp
  rw [e5] at p'
  exact h .next _ tk₂ ⟨rfl, m, cm, F₂.mutate hx rfl p ⟨_, p'⟩ (Heap.SameBut.update ..) rfl ⟨_, _, rfl, .inr rfl, ⟨_, p'⟩, ints_set hl k n u⟩⟩

theorem isT_ol {xs : List Str} : IsT hb (.ol xs) "list" := fun s O cv _ r => by
  obtain ⟨b, vs, rfl, _, p, _⟩ := r
  obtain ⟨n, e⟩ := id p
  exact ⟨p.isList.typeIs, fun _ q => by cases q; exact ⟨_, e, rfl⟩⟩

theorem ints_rev {vs : List Value} {ns : List Int} (h : IntsAre vs ns) : IntsAre vs.reverse ns.reverse := by
  induction h with
  | nil => exact .nil
  | cons m tk r ih => rw [List.reverse_cons, List.reverse_cons]; exact ih.append (.cons _ _ .nil)

/-- x.reverse(), of the frame's own list -/
theorem S_reverse {b : Addr} {x : Str} {px apos pos spos : Pos} {xs : List Int} (hx : α.lookup x = some (.oi xs)) (hz : xs.length ≤ sizeLine) (hd : (x == ("__debug__" : Str)) = false := by rfl) (hc : (x == ("__classdict__" : Str)) = false := by rfl)
    (hbase : attributeBase (.Name x px) "reverse" env (eval (.Name x px) env) = eval (.Name x px) env := by rfl) (hline : (apos.endLine == pos.line) = true := by rfl) (hi : interactive env = false := by rfl) (hsw : swapsWith (.Call (.Attribute (.Name x px) "reverse" apos) [] [] pos) none spos.line env = pure false := by rfl) :
    S1 tt prog w hb h₀ A env O (some b) α (.Expr (.Call (.Attribute (.Name x px) "reverse" apos) [] [] pos) spos) (.nx (put x (.oi xs.reverse) α)) := .mk fun s hM m cm Q E F h => by
  refine wpAny_Expr_any ?_ hi hsw
  obtain ⟨cv, ev, r⟩ := F.rd.vars x _ hx
  obtain ⟨b', e2, rfl⟩ := F.oat x _ cv hx rfl ev
  cases e2
  refine wpAny_Call_method_lateS hbase rfl hline (rd_name F.rd ev hd hc ?_)
  obtain ⟨hTy, hD⟩ := isT_oi (hb := hb) s _ _ F.rd.base r
  refine ⟨"list", "list.reverse", PySem.F.plainAttrs_list, PySem.F.slot_list_reverse, PySem.F.type_list_reverse, hTy, hD, callWith_method0 ?_⟩
  obtain ⟨c, vs, e4, q, p, hl⟩ := r
  cases e4
  obtain ⟨nn, hp⟩ := id p
  have hlen : (List.toArray vs).size = xs.length := by rw [List.size_toArray, hl.length]
  refine call_meets PySem.F.slot_list_reverse hTy PySem.F.entry_list_reverse (PySem.F.args_list_reverse_1 _) (PySem.AutoListH.list_reverse_list_0 b (List.toArray vs) nn (by rw [hlen]; exact hz)) ⟨hp, ?_⟩
  have p' := IsL.update (n := nn) hp (fun x => x.reverse)
  have e5 : (List.toArray vs).reverse = List.toArray vs.reverse := by simp
  rw [e5] at p'
  exact h .next _ s.toks ⟨rfl, m, cm, F.mutate hx rfl p ⟨_, p'⟩ (Heap.SameBut.update ..) rfl ⟨_, _, rfl, .inr rfl, ⟨_, p'⟩, ints_rev hl⟩⟩
end
end Mine
end

section
set_option maxRecDepth 100000
set_option linter.unusedVariables false
namespace Mine
open PySem PySem.W PySem.Calls PyProof.Rows PySem.Spec PyProof.V
section
variable {prog : Program} {w : World} {K : Frag} {hb h₀ hM : Heap} {mg mb : Str → Option Value} {A : Around} {env : Env} {t tt : Bool} {α β : Al} {O : Addr → Prop} {a : Option Addr} {h h' : Heap} {m cm : Str → Option Value}

theorem vall_one {cvs : List Value} {v : AV} (r : VAll h O cvs [v]) : ∃ c, cvs = [c] ∧ VRel h O c v := by
  rcases cvs with _ | ⟨c, _ | ⟨d, l⟩⟩ <;> simp only [VAll, and_true, and_false] at r
  exact ⟨c, rfl, r⟩

/-- for .. in reversed(list) -/
theorem It_rev (B : Bs K hb mg mb) (hh : A.handled = none) {x : Str} {p pos : Pos} {e : Expr} {ns : List Int} (he : Ev prog w hb A env t α e (.li ns)) (hz : ns.length ≤ sizeLine)
    (hk : env.kindOf x = some .globalImplicit := by rfl) (hg : nsIn K mainGlobals x = some none := by rfl) (hv : bootBuiltins x = some (.type "reversed") := by rfl) (hn : x ≠ "__name__" := by decide) (hd : (x == ("__debug__" : Str)) = false := by rfl)
    (hse : starEach [e] env = (false, eval e env) :: starEach [] env := by rfl) (hst : (backTo pos (starEach [] env)).any (·.1) = false := by rfl) :
    It prog w hb A env t α (.Call (.Name x p) [e] [] pos) (ns.reverse.map .int) := .mk fun s m cm O Q E R h => by
  refine Call_Name rfl ((Ev_boot (t := t) B hk hg hv hn hd).go s m cm O _ E R fun cv h₁ tk₁ k₁ T₁ r => ?_)
  obtain rfl : cv = .type "reversed" := r
  have R₁ := R.keep k₁ T₁ B.no
  refine PyProof.Rows.callWith_type1 ((eL1 B.no he hse).go pos { s with heap := h₁, toks := tk₁ } m cm O _ E R₁ fun cvs h₂ tk₂ k₂ T₂ rs => ?_) hse hst
  have R₂ := R₁.keep k₂ T₂ B.no
  obtain ⟨c, rfl, l, vs, rfl, nl, hl, hi⟩ := vall_one rs
  obtain ⟨o, eo, hc, nn, hdd⟩ := id hl
  have lt := Heap.lt_size eo
  have hlen : (List.toArray vs).size = ns.length := by rw [List.size_toArray, hi.length]
  refine call_reversed_list (s := { s with heap := h₂, toks := tk₂ }) hl ?_
  have rv : (h₂.push (revObj l (((List.toArray vs).size : Int) - 1))).IsRevIter h₂.objs.size l (((List.toArray vs).size : Int) - 1) := ⟨_, Heap.get?_push_size _ rfl, rfl, rfl⟩
  refine wpAny_pyIter_revIter (s := { s with heap := h₂.push (revObj l (((List.toArray vs).size : Int) - 1)), toks := tk₂ }) rv ?_
  have W := Walks.listRev (prog := prog) (w := w) (A := A) hh h₂.objs.size l (Nat.ne_of_lt lt) (List.toArray vs)
  refine h h₂ tk₂ h₂.objs.size _ [h₂.objs.size, l] [h₂.objs.size] (fun i v => i < (List.toArray vs).size ∧ (List.toArray vs)[(List.toArray vs).size - 1 - i]? = some v) (fun i h => i ≤ (List.toArray vs).size ∧ h.IsRevIter h₂.objs.size l (((List.toArray vs).size : Int) - 1 - (i : Int)) ∧ h.IsList l (List.toArray vs)) (k₁.trans k₂) T₂
    { walks := by rw [List.length_map, List.length_reverse, ← hlen]; exact W.bound, st := ⟨Nat.zero_le _, by simpa using rv, hl.push _⟩, low := ?_, new := ?_, keep := fun _ _ e => Heap.get?_push_of_some _ e, odd := ?_, free := ?_, item := ?_, lst := ?_ }
  · intro b hb
    rw [Heap.size_push]
    simp only [List.mem_cons, List.not_mem_nil, or_false] at hb
    rcases hb with rfl | rfl
    · exact Nat.lt_succ_self _
    · exact Nat.lt_succ_of_lt lt
  · intro b hb
    rw [List.mem_singleton.mp hb]
    exact Heap.get?_none_of_le (Nat.le_refl _)
  · rintro i h' ⟨_, ⟨oi, e1, e2, e3⟩, _⟩ b hb
    rw [List.mem_singleton.mp hb]
    exact ⟨oi, e1, ⟨_, e2, by decide, by decide, by decide⟩, _, e3, by simp [rawInt]⟩
  · intro b hb
    simp only [List.mem_cons, List.not_mem_nil, or_false] at hb
    rcases hb with rfl | rfl
    · exact Owned.not_new R₂.own
    · exact nl
  · rintro i v ⟨hlt, hv⟩
    obtain ⟨a, e1, e2⟩ := ints_item hi hv
    refine ⟨a, ?_, e2⟩
    rw [List.map_reverse, List.getElem?_reverse (by simpa [hi.length] using hlt), List.length_map, ← hlen]; exact e1
  · intro b hb
    simp only [List.mem_cons, List.not_mem_nil, or_false] at hb
    rcases hb with rfl | rfl
    · exact .inl (.head _)
    · exact .inr ⟨o, _, nn, eo, hdd⟩
end
end Mine
end

section
set_option maxRecDepth 100000
set_option linter.unusedVariables false
namespace Mine
open PySem PySem.W PySem.Calls PyProof.Rows PySem.Spec PyProof.V
section
variable {prog : Program} {w : World} {K : Frag} {hb h₀ hM : Heap} {mg mb : Str → Option Value} {A : Around} {env : Env} {t tt : Bool} {α β : Al} {O : Addr → Prop} {a : Option Addr} {h h' : Heap} {m cm : Str → Option Value}

/-- a fresh list is bound to a cell: the frame's own -/
theorem Fm.ownC {b c : Addr} {its : Array Value} (F : Fm tt hb h₀ hM env h m cm α O none) {x : Str} {v : AV} (hk : env.kindOf x = some .cell) (hc : env.cells.lookup x = some c) (hno : ∀ y u, α.lookup y = some u → isOwn u = false)
    (kp : ∀ c o, h.get? c = some o → h'.get? c = some o) (hb' : h.get? b = none) (hp : h'.PlainList b its) {h'' : Heap} (hn : h''.IsCell c (some (.ref b))) (hs : Heap.SameBut c h' h'')
    (hv : isOwn v = true) (r : ∀ g : Heap, g.PlainList b its → VRel g (OO O (some b)) (.ref b) v) : Fm tt hb h₀ h env h'' m (fun y => if y = x then some (.ref b) else cm y) (put x v α) O (some b) := by
  obtain ⟨q1, q2, q3, q4, q5, q6, q7, q8⟩ := F.fresh hb'
  have F₁ : Fm tt hb h₀ hM env h' m cm α O none := F.keep (.of kp) (F.rd.tab.keeps kp)
  obtain ⟨o, ho, hd⟩ := cell_obj (F₁.rd.cells x c hc)
  have nOb : ¬ O b := fun q => by obtain ⟨_, _, e⟩ := F.rd.own b (.inl q); rw [hb'] at e; cases e
  have up : ∀ {cv : Value} {u : AV}, isOwn u = false → VRel h (OO O none) cv u → VRel h'' (OO O (some b)) cv u := fun {cv u} hu r1 => by
    have r2 := v_odd hs.extBut ho hd (keep_v (t := false) (.of kp) F.rd.tab r1)
    have nb : ∀ c oc, h.get? c = some oc → ¬ OO O none c → ¬ OO O (some b) c := fun c oc e nc q => by
      rcases q with q | q
      · exact nc (.inl q)
      · cases q; rw [hb'] at e; cases e
    cases u with
    | li xs => obtain ⟨c, vs, e, no, l, i⟩ := r2; obtain ⟨c', vs', e', no', ⟨oc, l', _⟩, i'⟩ := r1; rw [e] at e'; cases e'; exact ⟨c, vs, e, nb c oc l' no', l, i⟩
    | ls xs => obtain ⟨c, vs, e, no, l, i⟩ := r2; obtain ⟨c', vs', e', no', ⟨oc, l', _⟩, i'⟩ := r1; rw [e] at e'; cases e'; exact ⟨c, vs, e, nb c oc l' no', l, i⟩
    | oi xs => cases hu
    | ol xs => cases hu
    | _ => exact r2
  have p'' : h''.PlainList b its := by
    obtain ⟨n, e⟩ := hp
    exact ⟨n, (hs.2 b (q4 x c hc)).trans e⟩
  have ne_of : ∀ {y : Str}, ¬ (y == x) = true → y ≠ x := fun hy q => hy (by rw [q]; exact beq_self_eq_true x)
  exact
    { rd :=
      { fn := F.rd.fn, gl := F.rd.gl, bi := F.rd.bi, ns := F₁.rd.ns.sameBut hs (Ne.symm (F.nl x c hc))
        cells := fun y c' e => by
          by_cases hy : y = x
          · subst hy
            rw [hc] at e; cases e
            simpa using hn
          · have : c' ≠ c := fun q => hy (F.inj y x c (q ▸ e) hc)
            simpa [hy] using (F₁.rd.cells y c' e).sameBut hs this
        vars := fun y u e => by
          rw [put_lookup] at e
          split at e
          · rename_i hy
            cases e
            refine ⟨.ref b, ?_, r _ p''⟩
            unfold varOf; rw [eq_of_beq hy, hk]; simp [hc]
          · rename_i hy
            obtain ⟨cv, e1, r1⟩ := F.rd.vars y u e
            refine ⟨cv, ?_, up (hno y u e) r1⟩
            rw [← e1]; unfold varOf; simp only [ne_of hy, if_false]
        base := fun d oc e => (hs.2 d fun z => by rw [z, F.hbc x c hk hc] at e; cases e).trans (kp _ _ (F.rd.base d oc e))
        tab := tab_but hs.extBut ho hd.f F₁.rd.tab
        own := fun c q => by
          rcases q with q | q
          · obtain ⟨i', p⟩ := F₁.rd.own c (.inl q); exact ⟨i', plain_odd hs.extBut ho hd p⟩
          · cases q; exact ⟨its, p''⟩ }
      no := F.no, hbL := F.hbL, hbc := F.hbc, inj := F.inj, nl := F.nl, f0L := F.f0L, f0c := F.f0c
      hba := fun c q => by cases q; exact q6
      f0a := fun c q => by cases q; exact q7
      noO := fun c q z => by cases z; exact nOb q
      keep0 := fun d oc n e => (hs.2 d fun z => by rw [z, F.f0c x c hk hc] at e; cases e).trans (kp _ _ (F.keep0 d oc n e))
      keepM := fun d oc _ _ _ n4 _ e => (hs.2 d (n4 x c hk hc)).trans (kp _ _ e)
      one := fun y z u1 u2 e1 e2 o1 o2 => by
        rw [put_lookup] at e1 e2
        split at e1 <;> split at e2
        · rename_i z1 z2; rw [eq_of_beq z1, eq_of_beq z2]
        · rw [hno z u2 e2] at o2; cases o2
        · rw [hno y u1 e1] at o1; cases o1
        · rw [hno y u1 e1] at o1; cases o1
      oat := fun y u cv e ou ev => by
        rw [put_lookup] at e
        split at e
        · rename_i hy
          refine ⟨b, rfl, ?_⟩
          unfold varOf at ev
          rw [eq_of_beq hy, hk] at ev
          simpa [hc] using ev.symm
        · rw [hno y u e] at ou; cases ou }

theorem rep_flat (v : Value) : ∀ k : Nat, (List.replicate k [v]).flatten = List.replicate k v
  | 0 => rfl
  | k + 1 => by rw [List.replicate_succ, List.flatten_cons, List.replicate_succ, rep_flat v k]; rfl
theorem rep_ints (n : Int) (tk : Tok) : ∀ k : Nat, IntsAre (List.replicate k (.int n tk)) (List.replicate k n)
  | 0 => .nil
  | k + 1 => .cons _ _ (rep_ints n tk k)

/-- x = [e0] * e1, a cell: the frame's own list -/
theorem Sx_ownMul {x : Str} {px lp bp pos : Pos} {e0 e1 : Expr} {rest : List Stmt} {r : Oc} {v : AV} (hr : r = .rt v) {n : Int} {k : Nat} (hno : ∀ y u, α.lookup y = some u → isOwn u = false) (he : Ev prog w hb A env tt α (.List [e0] lp) (.li [n])) (he1 : Ev prog w hb A env tt α e1 (.int k)) (hz : k ≤ 2 ^ 24)
    (h1 : ∀ b, Sx tt prog w hb h₀ A env O (some b) (put x (.oi (List.replicate k n)) α) rest r)
    (hk : env.kindOf x = some .cell := by rfl) (hc : (env.cells.lookup x).isSome = true := by rfl) (hs : swapsWith (.BinOp (.List [e0] lp) .Mult e1 bp) (some (.Name x px)) pos.line env = pure false := by rfl) :
    Sx tt prog w hb h₀ A env O none α (.Assign [.Name x px] (.BinOp (.List [e0] lp) .Mult e1 bp) pos :: rest) r := .mk fun s hM m cm Q E F h => by
  subst hr
  obtain ⟨c, hc⟩ := Option.isSome_iff_exists.mp hc
  refine wpAny_execs_cons (wpAny_Assign_Name (wpAny_BinOp (he.go s m cm _ _ E F.rd fun ca h₁ tk₁ k₁ T₁ ra => ?_)) hs)
  have F₁ := F.keep k₁ T₁
  refine he1.go { s with heap := h₁, toks := tk₁ } m cm _ _ E F₁.rd fun cb h₂ tk₂ k₂ T₂ rb => ?_
  have F₂ := F₁.keep k₂ T₂
  obtain ⟨l, vs, rfl, nl, hl, hi⟩ := keep_v k₂ T₁ ra
  obtain ⟨u, rfl⟩ := rb
  cases hi with
  | cons _ tk hi' => cases hi' with
    | nil =>
      refine mul_raw (s := { s with heap := h₂, toks := tk₂ }) hl (by omega) (by omega) (by simpa using hz) ?_
      have e5 : (List.replicate (k : Int).toNat [Value.int n tk]).flatten = List.replicate k (.int n tk) := by
        rw [show (k : Int).toNat = k from by omega]; exact rep_flat _ k
      rw [e5]
      have up : ∀ b o, h₂.get? b = some o → (h₂.push { cls := .type "list", data := .seq (List.replicate k (Value.int n tk)).toArray }).get? b = some o := fun _ _ e => Heap.get?_push_of_some _ e
      refine wpAny_storeName_cell F.rd.fn hk hc ((F₂.rd.cells x c hc).keeps up) fun h' hn hs => ?_
      exact (h1 _).go { s with heap := h', toks := tk₂ } h₂ m _ Q E (F₂.ownC hk hc hno up (Heap.get?_none_of_le (Nat.le_refl _)) (its := (List.replicate k (Value.int n tk)).toArray) ⟨_, Heap.get?_push_size _ rfl⟩ hn hs rfl fun g p => ⟨_, _, rfl, .inr rfl, p, rep_ints n tk k⟩) h
end
end Mine
end

section
set_option maxRecDepth 100000
set_option linter.unusedVariables false
namespace Mine
open PySem PySem.W PySem.Calls PyProof.Rows PySem.Spec PyProof.V
section
variable {prog : Program} {w : World} {K : Frag} {hb h₀ hM : Heap} {mg mb : Str → Option Value} {A : Around} {env : Env} {t tt : Bool} {α β : Al} {O : Addr → Prop} {a : Option Addr} {h h' : Heap} {m cm : Str → Option Value}

theorem split_raw {s : Shared} {x y : Str} {tk u : Tok} {Q E : Value → Shared → Prop} (hy : (y.length == 0) = false) (hx : x.length ≤ sizeLine) (hn : (Builtin.Str.partsBetween x (Builtin.Str.occurrences x y 0 x.length (x.length + 1)) y.length).length ≤ sizeLine)
    (hq : ∀ l k, l.map (·.1) = Txt.split x y → Q (.ref s.heap.objs.size) { s with heap := s.heap.push { cls := .type "list", data := .seq (strValues l).toArray }, toks := k }) : wpAny (model prog w) A (call (.builtin "str.split") [.str x tk, .str y u]) Q E s := by
  cases h1 : (decide (x.length < y.length) || decide (Builtin.Str.strKind x < Builtin.Str.strKind y))
  · cases hf : (Builtin.Str.occurrences x y 0 x.length (x.length + 1)).isEmpty
    · refine call_meets F.slot_str_split (typeIs_str _ _ _) F.entry_str_split (F.args_str_split_2 _ _) (meets_str_split_sep x y tk u h1 hy hf hx hn) ?_
      rw [strsFrom_eq]
      exact hq (numbered s.toks _) _ ((numbered_texts _ _).trans ((if_neg (ne_true_of_eq_false h1)).trans (if_neg (ne_true_of_eq_false hf))).symm)
    · exact call_meets F.slot_str_split (typeIs_str _ _ _) F.entry_str_split (F.args_str_split_2 _ _) (meets_str_split_not_found x y tk u h1 hy hf) (hq [(x, tk)] _ ((if_neg (ne_true_of_eq_false h1)).trans (if_pos hf)).symm)
  · exact call_meets F.slot_str_split (typeIs_str _ _ _) F.entry_str_split (F.args_str_split_2 _ _) (meets_str_split_cannot_occur x y tk u h1) (hq [(x, tk)] _ (if_pos h1).symm)

theorem vals_strs : ∀ (l : List (Str × Tok)), StrsAre (strValues l) (l.map (·.1))
  | [] => .nil
  | (x, t) :: r => .cons _ _ (vals_strs r)

theorem Bi_split {x y : Str} (hy : (y.length == 0) = false) (hx : x.length ≤ sizeLine) (hn : (Builtin.Str.partsBetween x (Builtin.Str.occurrences x y 0 x.length (x.length + 1)) y.length).length ≤ sizeLine) :
    Bi prog w A (.builtin "str.split") [.str x, .str y] (.ls (Txt.split x y)) := by
  refine .mk ?_
  rintro s O (_ | ⟨_, _ | ⟨_, _ | ⟨_, _⟩⟩⟩) ow r <;> simp only [VAll, and_true, and_false] at r
  obtain ⟨⟨l, rfl⟩, ⟨l', rfl⟩⟩ := r
  refine .mk fun Q E h => split_raw hy hx hn fun l k e => h _ _ k (fun _ _ e => Heap.get?_push_of_some _ e) ⟨_, strValues l, rfl, ow.not_new, ⟨_, Heap.get?_push_size _ rfl, rfl, _, rfl⟩, e ▸ vals_strs l⟩

/-- ws = x.split(y): the frame's own list -/
theorem Sx_ownSplit {z : Str} {pz apos cpos pos : Pos} {o e : Expr} {rest : List Stmt} {v : AV} {x y : Str} (no : hb.get? 47 = none ∧ hb.get? 54 = none) (hno : ∀ y u, α.lookup y = some u → isOwn u = false)
    (ho : Ev prog w hb A env tt α o (.str x)) (he : Ev prog w hb A env tt α e (.str y)) (hy : (y.length == 0) = false) (hx : x.length ≤ sizeLine) (hn : (Builtin.Str.partsBetween x (Builtin.Str.occurrences x y 0 x.length (x.length + 1)) y.length).length ≤ sizeLine)
    (h1 : ∀ b, Sx tt prog w hb h₀ A env O (some b) (put z (.ol (Txt.split x y)) α) rest (.rt v))
    (hk : env.kindOf z = some .local := by rfl) (hbase : attributeBase o "split" env (eval o env) = eval o env := by rfl)
    (hfew : ((backTo cpos (starEach [e] env)).all (fun x => !x.1) && (backToKw cpos (keywordEach [] env)).all (fun x => x.1.isSome)
      && decide ([e].length + ([] : List Keyword).length + (if ([] : List Keyword).isEmpty then 0 else 1) < 30)) = true := by rfl)
    (hline : (apos.endLine == cpos.line) = true := by rfl) (hse : starEach [e] env = (false, eval e env) :: starEach [] env := by rfl) (hst : (backTo cpos (starEach [] env)).any (·.1) = false := by rfl)
    (hs : swapsWith (.Call (.Attribute o "split" apos) [e] [] cpos) (some (.Name z pz)) pos.line env = pure false := by rfl) :
    Sx tt prog w hb h₀ A env O none α (.Assign [.Name z pz] (.Call (.Attribute o "split" apos) [e] [] cpos) pos :: rest) (.rt v) := .mk fun s hM m cm Q E F h => by
  refine wpAny_execs_cons (wpAny_Assign_Name (wpAny_Call_method_lateS hbase hfew hline (ho.go s m cm _ _ E F.rd fun cv h₁ tk₁ k₁ T₁ r => ?_)) hs)
  have F₁ := F.keep k₁ T₁
  obtain ⟨hTy, hD⟩ := isT_str (hb := hb) { s with heap := h₁, toks := tk₁ } _ cv F₁.rd.base r
  refine ⟨"str", "str.split", PySem.F.plainAttrs_str, PySem.F.slot_str_split, PySem.F.type_str_split, hTy, hD, callWith_method1 ((eL1 no he hse).go cpos { s with heap := h₁, toks := tk₁ } m cm _ _ E F₁.rd fun cvs h₂ tk₂ k₂ T₂ rs => ?_) hse hst⟩
  have F₂ := F₁.keep k₂ T₂
  obtain ⟨c, rfl, u, rfl⟩ := vall_one rs
  obtain ⟨u', rfl⟩ := r
  refine split_raw (s := { s with heap := h₂, toks := tk₂ }) hy hx hn fun l k e5 => ?_
  have up : ∀ b o, h₂.get? b = some o → (h₂.push { cls := .type "list", data := .seq (strValues l).toArray }).get? b = some o := fun _ _ e => Heap.get?_push_of_some _ e
  refine wpAny_storeName_local hk (F₂.rd.ns.push _) (fun h' hn' hs' => ?_) (by rw [F.rd.fn]; rfl)
  exact (h1 _).go { s with heap := h', toks := _ } h₂ _ cm Q E (F₂.own hk hno up (Heap.get?_none_of_le (Nat.le_refl _)) (its := (strValues l).toArray) ⟨_, Heap.get?_push_size _ rfl⟩ hn' hs' rfl fun g p => ⟨_, strValues l, rfl, .inr rfl, p, e5 ▸ vals_strs l⟩) h

theorem strs_erase {vs : List Value} {ns : List Str} (h : StrsAre vs ns) (k : Nat) : StrsAre (vs.eraseIdx k) (ns.eraseIdx k) := by
  induction h generalizing k with
  | nil => exact .nil
  | cons m tk r ih => cases k with
    | zero => exact r
    | succ k => exact .cons _ _ (ih k)

/-- del x[i], of the frame's own list -/
theorem S_del {b : Addr} {x : Str} {px ps pos : Pos} {ie : Expr} {xs : List Str} {i : Int} {k : Nat} (hx : α.lookup x = some (.ol xs)) (hi : Ev prog w hb A env tt α ie (.int i)) (hfit : Builtin.List.listFitsIndex i = true) (hk : seqIndex? i xs.length = some k) (hz : xs.length ≤ sizeLine)
    (hd : (x == ("__debug__" : Str)) = false := by rfl) (hc : (x == ("__classdict__" : Str)) = false := by rfl) :
    S1 tt prog w hb h₀ A env O (some b) α (.Delete [.Subscript (.Name x px) ie ps] pos) (.nx (put x (.ol (xs.eraseIdx k)) α)) := .mk fun s hM m cm Q E F h => by
  refine wpAny_Delete (wpAny_deleteEach_cons (wpAny_delete_Subscript ?_))
  obtain ⟨cv, ev, r⟩ := F.rd.vars x _ hx
  obtain ⟨b', e2, rfl⟩ := F.oat x _ cv hx rfl ev
  cases e2
  refine rd_name F.rd ev hd hc (hi.go s m cm _ _ E F.rd fun ci h₂ tk₂ k₂ T₂ ri => ?_)
  have F₂ := F.keep k₂ T₂
  obtain ⟨cv', ev', r'⟩ := F₂.rd.vars x _ hx
  obtain ⟨b', e2, rfl⟩ := F₂.oat x _ cv' hx rfl ev'
  cases e2
  obtain ⟨c, vs, e4, q, p, hl⟩ := r'
  cases e4
  obtain ⟨u', rfl⟩ := ri
  have hlen : (List.toArray vs).size = xs.length := by rw [List.size_toArray, strs_len hl]
  refine wpAny_delItem_plain (s := { s with heap := h₂, toks := tk₂ }) p hfit (by rw [hlen]; exact hk) (fun h' p' hs' => wpAny_deleteEach_nil ?_) (by rw [hlen]; exact hz)
  have e5 : (List.toArray vs).eraseIdxIfInBounds k = List.toArray (vs.eraseIdx k) := by simp
  rw [e5] at p'
  exact h .next h' tk₂ ⟨rfl, m, cm, F₂.mutate hx rfl p p' hs' rfl ⟨_, _, rfl, .inr rfl, p', strs_erase hl k⟩⟩
end
end Mine
end

section
namespace Mine
open PySem

theorem nat_xor_and (a b : Nat) : (a ^^^ b) + 2 * (a &&& b) = a + b := by
  induction a using Nat.strongRecOn generalizing b with
  | _ a ih =>
    by_cases ha : a = 0
    · subst ha; simp
    · have h1 := ih (a / 2) (by omega) (b / 2)
      have x1 : (a ^^^ b) / 2 = a / 2 ^^^ b / 2 := by simp [Nat.xor_div_two]
      have x2 : (a &&& b) / 2 = a / 2 &&& b / 2 := by simp [Nat.and_div_two]
      rw [← x1, ← x2] at h1
      have y1 : (a ^^^ b) % 2 = (a % 2) ^^^ (b % 2) := Nat.xor_mod_two_pow (n := 1)
      have y2 : (a &&& b) % 2 = (a % 2) &&& (b % 2) := Nat.and_mod_two_pow (n := 1)
      clear x1 x2 ih
      generalize a ^^^ b = X at *
      generalize a &&& b = Y at *
      rcases Nat.mod_two_eq_zero_or_one a with p | p <;> rcases Nat.mod_two_eq_zero_or_one b with q | q <;> rw [p, q] at y1 y2 <;> simp at y1 y2 <;> omega
theorem bitAnd_nat (a b : Nat) : Builtin.bitAnd a b = ((a &&& b : Nat) : Int) := by
  have h1 : decide (0 ≤ (a : Int)) = true := by simp
  have h2 : decide (0 ≤ (b : Int)) = true := by simp
  unfold Builtin.bitAnd
  rw [h1, h2]
  rfl
theorem bitXor_nat (a b : Nat) : Builtin.bitXor a b = ((a ^^^ b : Nat) : Int) := by
  rw [PyProof.Rows.bitXor_and, bitAnd_nat]
  have := nat_xor_and a b
  omega
theorem xor_low (x s : Nat) : x ^^^ (x / 2 ^ s * 2 ^ s) = x % 2 ^ s := by
  apply Nat.eq_of_testBit_eq
  intro i
  rw [Nat.testBit_xor, Nat.testBit_mod_two_pow, Nat.mul_comm, Nat.testBit_two_pow_mul, Nat.testBit_div_two_pow]
  by_cases h : i < s
  · simp [h, Nat.not_le.mpr h]
  · have h' : s ≤ i := by omega
    simp [h, h', Nat.sub_add_cancel h']

/-- the digits, k of n bits each -/
def dg (n : Nat) : Nat → Nat → List Int
  | 0, _ => []
  | k + 1, x => ((x % 2 ^ n : Nat) : Int) :: dg n k (x / 2 ^ n)
theorem dg_length (n : Nat) : ∀ k x, (dg n k x).length = k
  | 0, _ => rfl
  | k + 1, x => by simp [dg, dg_length n k]
theorem dg_add (n k : Nat) : ∀ j x, dg n (j + k) x = dg n j (x % 2 ^ (n * j)) ++ dg n k (x / 2 ^ (n * j))
  | 0, x => by simp [dg]
  | j + 1, x => by
    have e : 2 ^ (n * (j + 1)) = 2 ^ n * 2 ^ (n * j) := by rw [← Nat.pow_add]; congr 1; rw [Nat.mul_succ]; omega
    rw [show j + 1 + k = (j + k) + 1 from by omega]
    simp only [dg]
    rw [dg_add n k j, e, Nat.mod_mul_right_div_self, Nat.mod_mul_right_mod, Nat.div_div_eq_div_mul]
    rfl
theorem dg_one {n x : Nat} (h : x < 2 ^ n) : dg n 1 x = [(x : Int)] := by simp [dg, Nat.mod_eq_of_lt h]

def upd (xs : List Int) (l : Nat) (ds : List Int) : List Int := xs.take l ++ ds ++ xs.drop (l + ds.length)
theorem upd_set {xs : List Int} {l : Nat} (h : l < xs.length) (v : Int) : xs.set l v = upd xs l [v] := by
  unfold upd
  rw [List.set_eq_take_append_cons_drop, if_pos h]; simp
theorem upd_length {xs : List Int} {l : Nat} {ds : List Int} (h : l + ds.length ≤ xs.length) : (upd xs l ds).length = xs.length := by
  unfold upd; simp; omega
theorem upd_upd {xs : List Int} {l : Nat} {d1 d2 : List Int} (h : l + d1.length + d2.length ≤ xs.length) : upd (upd xs l d1) (l + d1.length) d2 = upd xs l (d1 ++ d2) := by
  unfold upd
  have e1 : (xs.take l).length = l := by simp; omega
  have e2 : (xs.take l ++ d1).length = l + d1.length := by simp; omega
  rw [List.take_append_of_le_length (by rw [e2]; omega), List.take_of_length_le (by rw [e2]; omega)]
  rw [List.drop_append, e2, List.drop_eq_nil_of_le (by rw [e2]; omega), List.drop_drop, List.length_append]
  simp only [List.nil_append, List.append_assoc]
  congr 4
  omega
end Mine
end

section
set_option maxRecDepth 100000
set_option linter.unusedVariables false
namespace Mine
open PySem PySem.W PySem.Calls PyProof.Rows PySem.Spec PyProof.V
section
variable {prog : Program} {w : World} {K : Frag} {hb h₀ hM : Heap} {mg mb : Str → Option Value} {A : Around} {env : Env} {t tt : Bool} {α β : Al} {O : Addr → Prop} {a : Option Addr} {h h' : Heap} {m cm : Str → Option Value}
theorem Tr.eqv {e : Expr} {b b' : Bool} (x : Tr prog w hb A env t α e b) (h : b = b') : Tr prog w hb A env t α e b' := h ▸ x
theorem Bi_lenOI {ns : List Int} (hz : ns.length ≤ 2 ^ 24) : Bi prog w A (.builtin "len") [.oi ns] (.int ns.length) := by
  refine .mk ?_
  rintro s O (_ | ⟨_, _ | ⟨_, _⟩⟩) ow r <;> simp only [VAll, and_true, and_false] at r
  obtain ⟨l, vs, rfl, _, hl, hi⟩ := r
  have e : (List.toArray vs).size = ns.length := by rw [List.size_toArray, hi.length]
  refine mk_tok (tk := s.toks + 1 + 1) (cv := .int _ (s.toks + 1)) ⟨_, rfl⟩ fun Q E h => call_len_list hl.isList (by rw [e]; omega) ?_
  rw [e]; exact h
/-- a method without arguments -/
theorem eM0 (no : hb.get? 47 = none ∧ hb.get? 54 = none) {o : Expr} {name : Str} {apos pos : Pos} {T id : String} {ov v : AV} (pa : PlainAttrs T) (sl : Slot T name id)
    (ty : typeOf (.builtin id) = pure (.type "method_descriptor")) (hT : IsT hb ov T) (ho : Ev prog w hb A env t α o ov) (hc : Bi prog w A (.builtin id) [ov] v)
    (hbase : attributeBase o name env (eval o env) = eval o env := by rfl) (hline : (apos.endLine == pos.line) = true := by rfl) : Ev prog w hb A env t α (.Call (.Attribute o name apos) [] [] pos) v :=
  Ev_meth0 no pa sl ty hT ho hc hbase hline
theorem bits_le {a : Int} {k : Nat} (h : a.natAbs < 2 ^ k) : Builtin.Int.intBits a ≤ k := by
  unfold Builtin.Int.intBits
  split
  · exact Nat.zero_le _
  · rename_i h0
    have h0' : a.natAbs ≠ 0 := by simpa using h0
    have := (Nat.log2_lt h0').mpr h
    omega
theorem lt_bits (a : Nat) : a < 2 ^ Builtin.Int.intBits a := by
  unfold Builtin.Int.intBits
  split
  · rename_i h; simp at h; subst h; decide
  · exact Nat.lt_log2_self
theorem mul_ok {a b : Int} (h : a.natAbs < 2 ^ 64) : IntMulOk a b := .of_left (bits_le h)
def AllB (P : Str × AV → Prop) : Al → Prop
  | [] => True
  | p :: r => P p ∧ AllB P r
theorem AllB.get {P : Str × AV → Prop} {β : Al} (h : AllB P β) {y : Str} {v : AV} (e : β.lookup y = some v) : P (y, v) := by
  induction β with
  | nil => cases e
  | cons zd r ih =>
    obtain ⟨z, d⟩ := zd
    rw [List.lookup_cons] at e
    cases hy : y == z with
    | true => rw [hy] at e; cases e; rw [eq_of_beq hy]; exact h.1
    | false => rw [hy] at e; exact ih h.2 e
theorem Clo_of {env : Env} {α β : Al} {fd : FuncData} (h1 : AllM (fun p => env.cells.lookup p.1 = some p.2) fd.closure) (h2 : AllB (fun p => (fd.closure.lookup p.1).isSome = true ∧ α.lookup p.1 = some p.2 ∧ isCF (env.kindOf p.1) = true) β) : Clo env α β fd :=
  ⟨fun x c e => h1.get e, fun x v e => ⟨(h2.get e).1, (h2.get e).2.1⟩, fun x v e => isCF_or (h2.get e).2.2⟩
theorem inj_of : ∀ {cl : List (Str × Addr)}, (cl.map (·.2)).Nodup → ∀ x y c, cl.lookup x = some c → cl.lookup y = some c → x = y
  | [], _, _, _, _, e, _ => by cases e
  | (z, d) :: r, hn, x, y, c, e, e' => by
    rw [List.map_cons, List.nodup_cons] at hn
    rw [List.lookup_cons] at e e'
    cases hx : x == z with
    | true =>
      rw [hx] at e; cases e
      cases hy : y == z with
      | true => rw [eq_of_beq hx, eq_of_beq hy]
      | false => rw [hy] at e'; exact absurd (List.mem_map_of_mem (mem_of_lookup e')) hn.1
    | false =>
      rw [hx] at e
      cases hy : y == z with
      | true => rw [hy] at e'; cases e'; exact absurd (List.mem_map_of_mem (mem_of_lookup e)) hn.1
      | false => rw [hy] at e'; exact inj_of hn.2 x y c e e'

def notCell : NameKind → Bool
  | .cell => false
  | _ => true
theorem nocell_of {l : List (Str × NameKind)} (h : (l.all fun p => notCell p.2) = true) : ∀ x ∈ l, x.2 ≠ .cell := fun x hx e => by
  have := List.all_eq_true.mp h x hx
  rw [e] at this; cases this
theorem Sx_defN (B : Bs K hb mg mb) (N : Addr → FuncData → Prop) (clos : List (Str × Addr)) {name : Str} {params : Arguments} {body rest : List Stmt} {scope : Scope} {pos : Pos} {c P : Addr} {q : Str} {r : Oc} (nd : Nd c P pos.line pos.col q)
    (hN : ∀ f doc pm c' ctv, N f (fnX name q params body scope clos .none .none doc pm none (.ref c') ctv))
    (h1 : ∀ f fd, N f fd → fd.closure = clos → Sx true prog w hb h₀ A env O a (put name (.fn f fd) α) rest r)
    (hcl : closureFor scope env = pure clos := by rfl) (hcode : env.code = .ref c := by rfl) (hk : env.kindOf name = some .cell ∧ (env.cells.lookup name).isSome = true := by exact ⟨rfl, rfl⟩) (hq : qualnameIn env name name = q := by rfl)
    (hd0 : params.defaults = [] := by rfl) (hk0 : params.kw_defaults = [] := by rfl) (ha : annTrees params none env = [] := by rfl) :
    Sx true prog w hb h₀ A env O a α (.FunctionDef name params body [] none [] scope none name pos :: rest) r :=
  Sx_def B nd (fun f doc pm c' ctv => h1 f _ (hN f doc pm c' ctv) rfl) hcl hcode hk hq hd0 hk0 ha

theorem NestM.up {f : Addr} {fd : FuncData} {n n' : Nat} {args : List AV} {x : Str} {xs xs' : List Int} (h : NestM prog w hb f fd β n args x xs xs') (hn : n ≤ n') : NestM prog w hb f fd β n' args x xs xs' :=
  .mk fun A s O b vs cm cvs Q E rm => h.go A s O b vs cm cvs Q E (rm.less hn)


theorem NestM_mk (B : Bs K hb mg mb) {f : Addr} {fd : FuncData} {body : List Stmt} {ps : List Str} {vs : List AV} {n : Nat} {x : Str} {xs xs' : List Int}
    (hbd : fd.body = .stmts body) (hgl : fd.globals = mainGlobals) (hbi : fd.builtins = builtinsNs) (hlen : vs.length = ps.length)
    (hbind : ∀ cvs : List Value, cvs.length = ps.length → bindArgs fd ⟨cvs, []⟩ = pure (ps.zip cvs))
    (hcell : ∀ x ∈ fd.scope.names, x.2 ≠ .cell) (hloc : ∀ x ∈ ps, fd.scope.names.lookup x = some .local) (hnd : ps.Nodup)
    (hβ : AllB (fun p => fd.scope.names.lookup p.1 = some .free ∧ isOwn p.2 = false) β) (hfx : fd.scope.names.lookup x = some .free) (hinj : ∀ x y c, fd.closure.lookup x = some c → fd.closure.lookup y = some c → x = y)
    (hown : ∀ v ∈ vs, isOwn v = false)
    (hbody : ∀ (A' : Around) (L : Addr) (O : Addr → Prop) (h₀ : Heap) (b : Addr), Room A' n → ∃ r α', (r = .nx α' ∨ r = .rm .none α') ∧ α'.lookup x = some (.oi xs') ∧ Sx true prog w hb h₀ A' (callEnv fd L f) O (some b) (ps.zip vs ++ (x, .oi xs) :: β) body r)
    (hco : fd.scope.isCoroutine = false) (hgen : fd.scope.isGenerator = false) (hk : fd.scope.kind = .function) : NestM prog w hb f fd β (n + 1) vs x xs xs' :=
  NestM_intro B hbd hgl hbi hlen hbind hcell hloc hnd (fun _ _ e => (hβ.get e).1) hfx hinj hown (fun _ _ e => (hβ.get e).2) hbody hco hgen hk
theorem Nest_mk (B : Bs K hb mg mb) {f : Addr} {fd : FuncData} {body : List Stmt} {ps : List Str} {vs : List AV} {v : AV} {n : Nat}
    (hbd : fd.body = .stmts body) (hgl : fd.globals = mainGlobals) (hbi : fd.builtins = builtinsNs) (hlen : vs.length = ps.length)
    (hbind : ∀ cvs : List Value, cvs.length = ps.length → bindArgs fd ⟨cvs, []⟩ = pure (ps.zip cvs))
    (hcell : ∀ x ∈ fd.scope.names, x.2 ≠ .cell) (hloc : ∀ x ∈ ps, fd.scope.names.lookup x = some .local) (hnd : ps.Nodup)
    (hβ : AllB (fun p => fd.scope.names.lookup p.1 = some .free ∧ isOwn p.2 = false) β) (hinj : ∀ x y c, fd.closure.lookup x = some c → fd.closure.lookup y = some c → x = y)
    (hown : ∀ v ∈ vs, isOwn v = false)
    (hbody : ∀ (A' : Around) (L : Addr) (O : Addr → Prop) (h₀ : Heap), Room A' n → Sx tt prog w hb h₀ A' (callEnv fd L f) O none (ps.zip vs ++ β) body (.rt v))
    (hco : fd.scope.isCoroutine = false) (hgen : fd.scope.isGenerator = false) (hk : fd.scope.kind = .function) : Nest prog w hb f fd β tt (n + 1) vs v :=
  Nest_intro B hbd hgl hbi hlen hbind hcell hloc hnd (fun _ _ e => (hβ.get e).1) hinj hown (fun _ _ e => (hβ.get e).2) hbody hco hgen hk
end
end Mine
end

section
set_option maxRecDepth 100000
set_option linter.unusedVariables false
namespace Mine
open PySem PySem.W PySem.Calls PyProof.Rows PySem.Spec PyProof.V
section
variable {prog : Program} {w : World} {K : Frag} {hb h₀ hM : Heap} {mg mb : Str → Option Value} {A : Around} {env : Env} {t tt : Bool} {α α' β : Al} {O : Addr → Prop} {a : Option Addr} {h h' : Heap} {m cm : Str → Option Value}
/-- the second knows all that the first does -/
def Knows (α α' : Al) : Prop := AllB (fun p => α'.lookup p.1 = some p.2) α
theorem Knows.get (k : Knows α α') {x : Str} {v : AV} (e : α.lookup x = some v) : α'.lookup x = some v := AllB.get k e
theorem Fm.weak (F : Fm tt hb h₀ hM env h m cm α' O a) (k : Knows α α') : Fm tt hb h₀ hM env h m cm α O a :=
  { F with
    rd := { F.rd with vars := fun x v e => F.rd.vars x v (k.get e) }
    one := fun x y u v e e' => F.one x y u v (k.get e) (k.get e')
    oat := fun x v cv e => F.oat x v cv (k.get e) }
theorem Sx_pre {ss : List Stmt} {r : Oc} (h1 : Sx tt prog w hb h₀ A env O a α ss r) (k : Knows α α') : Sx tt prog w hb h₀ A env O a α' ss r := .mk fun s hM m cm Q E F h => h1.go s hM m cm Q E (F.weak k) h
theorem Sx_post {α₀ : Al} {ss : List Stmt} (h1 : Sx tt prog w hb h₀ A env O a α₀ ss (.nx α')) (k : Knows α α') : Sx tt prog w hb h₀ A env O a α₀ ss (.nx α) := .mk fun s hM m cm Q E F h =>
  h1.go s hM m cm Q E F fun fl h' tk o => by obtain ⟨e, m', cm', F'⟩ := o; exact h fl h' tk ⟨e, m', cm', F'.weak k⟩
theorem S_post {α₀ : Al} {st : Stmt} (h1 : S1 tt prog w hb h₀ A env O a α₀ st (.nx α')) (k : Knows α α') : S1 tt prog w hb h₀ A env O a α₀ st (.nx α) := .mk fun s hM m cm Q E F h =>
  h1.go s hM m cm Q E F fun fl h' tk o => by obtain ⟨e, m', cm', F'⟩ := o; exact h fl h' tk ⟨e, m', cm', F'.weak k⟩
/-- a loop, then the rest; or a return out of the loop -/
theorem Sx_for {x : Str} {px pos : Pos} {iter : Expr} {body rest : List Stmt} {items : List AV} {v : AV} (hi : It prog w hb A env tt α iter items) (αs : Nat → Al) (h0 : Knows (αs 0) α) (j : Nat) (hj : j ≤ items.length)
    (turn : ∀ i it, i < j → items[i]? = some it → Sx tt prog w hb h₀ A env O a (put x it (αs i)) body (.nx (αs (i + 1))))
    (last : (j = items.length ∧ Sx tt prog w hb h₀ A env O a (αs j) rest (.rt v)) ∨ ∃ it, items[j]? = some it ∧ Sx tt prog w hb h₀ A env O a (put x it (αs j)) body (.rt v))
    (hk : env.kindOf x = some .local ∨ (env.kindOf x = some .cell ∧ (env.cells.lookup x).isSome = true) := by first | exact .inl rfl | exact .inr ⟨rfl, rfl⟩) (hs : ∀ y, foldedSetIterable iter env y = pure y := by exact fun _ => rfl) :
    Sx tt prog w hb h₀ A env O a α (.For (.Name x px) iter body [] pos :: rest) (.rt v) := by
  rcases last with ⟨e, h⟩ | ⟨it, e, h⟩
  · exact Sx_cons (S_for hi hk αs (fun y u => h0.get) j hj _ turn (.inl ⟨e, rfl⟩) hs) h
  · exact Sx_ret (S_for hi hk αs (fun y u => h0.get) j hj _ turn (.inr ⟨it, v, e, rfl, h⟩) hs)
end
end Mine
end

section
namespace Mine
/-- the number of a row of digits -/
def und (n : Nat) : List Nat → Nat
  | [] => 0
  | d :: r => d + 2 ^ n * und n r
theorem und_append (n : Nat) : ∀ xs ys : List Nat, und n (xs ++ ys) = und n xs + 2 ^ (n * xs.length) * und n ys
  | [], ys => by simp [und]
  | d :: r, ys => by
    have e : 2 ^ (n * (r.length + 1)) = 2 ^ n * 2 ^ (n * r.length) := by rw [← Nat.pow_add]; congr 1; rw [Nat.mul_succ]; omega
    show d + 2 ^ n * und n (r ++ ys) = d + 2 ^ n * und n r + 2 ^ (n * (r.length + 1)) * und n ys
    rw [und_append n r ys, e, Nat.mul_add (2 ^ n), Nat.mul_assoc, Nat.add_assoc]
theorem und_lt (n : Nat) : ∀ xs : List Nat, (∀ x ∈ xs, x < 2 ^ n) → und n xs < 2 ^ (n * xs.length)
  | [], _ => by simp [und]
  | d :: r, h => by
    have e : 2 ^ (n * (r.length + 1)) = 2 ^ n * 2 ^ (n * r.length) := by rw [← Nat.pow_add]; congr 1; rw [Nat.mul_succ]; omega
    have h1 := und_lt n r fun x m => h x (.tail _ m)
    have h2 := h d (.head _)
    simp only [und, List.length_cons, e]
    have : 2 ^ n * und n r + 2 ^ n ≤ 2 ^ n * 2 ^ (n * r.length) := by rw [← Nat.mul_succ]; exact Nat.mul_le_mul_left _ h1
    omega
/-- digits as naturals -/
def dgn (n : Nat) : Nat → Nat → List Nat
  | 0, _ => []
  | k + 1, x => x % 2 ^ n :: dgn n k (x / 2 ^ n)
theorem dg_dgn (n : Nat) : ∀ k x, dg n k x = (dgn n k x).map fun (d : Nat) => (d : Int)
  | 0, _ => rfl
  | k + 1, x => by simp [dg, dgn, dg_dgn n k]
theorem dgn_length (n : Nat) : ∀ k x, (dgn n k x).length = k
  | 0, _ => rfl
  | k + 1, x => by simp [dgn, dgn_length n k]
theorem dgn_lt (n : Nat) : ∀ k x, ∀ d ∈ dgn n k x, d < 2 ^ n
  | 0, _, _, h => by cases h
  | k + 1, x, d, h => by
    simp only [dgn, List.mem_cons] at h
    rcases h with rfl | h
    · exact Nat.mod_lt _ (Nat.two_pow_pos _)
    · exact dgn_lt n k _ d h
theorem und_dgn (n : Nat) : ∀ k x, x < 2 ^ (n * k) → und n (dgn n k x) = x
  | 0, x, h => by simp at h; simp [dgn, und, h]
  | k + 1, x, h => by
    have e : 2 ^ (n * (k + 1)) = 2 ^ n * 2 ^ (n * k) := by rw [← Nat.pow_add]; congr 1; rw [Nat.mul_succ]; omega
    rw [e] at h
    simp only [dgn, und]
    rw [und_dgn n k _ ((Nat.div_lt_iff_lt_mul (Nat.two_pow_pos _)).mpr (by rw [Nat.mul_comm]; exact h))]
    exact Nat.mod_add_div x (2 ^ n)

/-- division, digit by digit: what is left over, the quotient's digits (the highest first) -/
def lo (n b : Nat) : List Nat → Nat → Nat
  | [], r => r
  | d :: ds, r => lo n b ds ((r * 2 ^ n + d) % b)
def qd (n b : Nat) : List Nat → Nat → List Nat
  | [], _ => []
  | d :: ds, r => (r * 2 ^ n + d) / b :: qd n b ds ((r * 2 ^ n + d) % b)
theorem lo_snoc (n b d : Nat) : ∀ ds r, lo n b (ds ++ [d]) r = (lo n b ds r * 2 ^ n + d) % b
  | [], r => rfl
  | e :: ds, r => by simp only [List.cons_append, lo]; exact lo_snoc n b d ds _
theorem qd_snoc (n b d : Nat) : ∀ ds r, qd n b (ds ++ [d]) r = qd n b ds r ++ [(lo n b ds r * 2 ^ n + d) / b]
  | [], r => rfl
  | e :: ds, r => by simp only [List.cons_append, qd, lo]; rw [qd_snoc n b d ds _]
theorem lo_lt {n b : Nat} (hb : 0 < b) : ∀ ds r, r < b → lo n b ds r < b
  | [], _, h => h
  | d :: ds, _, _ => lo_lt hb ds _ (Nat.mod_lt _ hb)
theorem qd_length (n b : Nat) : ∀ ds r, (qd n b ds r).length = ds.length
  | [], _ => rfl
  | d :: ds, r => by simp [qd, qd_length n b ds]
theorem qd_lt {n b : Nat} (hb : 0 < b) : ∀ ds r, r < b → (∀ d ∈ ds, d < 2 ^ n) → ∀ q ∈ qd n b ds r, q < 2 ^ n
  | [], _, _, _, q, h => by cases h
  | d :: ds, r, hr, hd, q, h => by
    simp only [qd, List.mem_cons] at h
    rcases h with rfl | h
    · rw [Nat.div_lt_iff_lt_mul hb]
      have h1 := hd d (.head _)
      have h2 : (r + 1) * 2 ^ n ≤ b * 2 ^ n := Nat.mul_le_mul_right _ hr
      rw [Nat.add_mul] at h2
      rw [Nat.mul_comm (2 ^ n) b]; omega
    · exact qd_lt hb ds _ (Nat.mod_lt _ hb) (fun x m => hd x (.tail _ m)) q h
theorem div_all {n b : Nat} (hb : 0 < b) : ∀ ds : List Nat, und n (qd n b ds.reverse 0).reverse * b + lo n b ds.reverse 0 = und n ds
  | [] => by simp [qd, lo, und]
  | d :: ds => by
    have ih := div_all (n := n) hb ds
    rw [List.reverse_cons, lo_snoc, qd_snoc, List.reverse_append]
    simp only [List.reverse_cons, List.reverse_nil, List.nil_append, List.singleton_append, und]
    rw [← ih]
    have := Nat.div_add_mod (lo n b ds.reverse 0 * 2 ^ n + d) b
    generalize lo n b ds.reverse 0 = r at *
    generalize und n (qd n b ds.reverse 0).reverse = u at *
    rw [Nat.add_mul, Nat.mul_add (2 ^ n), Nat.mul_assoc (2 ^ n), Nat.mul_comm (2 ^ n) r]
    generalize 2 ^ n * (u * b) = z at *
    rw [Nat.mul_comm b] at this
    omega
theorem div_end {a b r q : Nat} (h : q * b + r = a) (hr : r < b) : q = a / b ∧ r = a % b := by
  have hb : 0 < b := by omega
  subst h
  constructor
  · rw [Nat.add_comm, Nat.add_mul_div_right _ _ hb, Nat.div_eq_of_lt hr]; omega
  · rw [Nat.add_comm, Nat.add_mul_mod_self_right, Nat.mod_eq_of_lt hr]
end Mine
end

section
set_option maxRecDepth 100000
set_option linter.unusedVariables false
namespace Mine
open PySem PySem.W PySem.Calls PyProof.Rows
noncomputable abbrev KK (w : World) : Frag := hd.heap_39 w.params
variable {prog : Program} {w : World} {hb : Heap} {mg mb : Str → Option Value}
def sOf : AV → Str
  | .str x => x
  | _ => Str.ofString ""
def iOf : AV → Int
  | .int x => x
  | _ => 0
theorem ended_fn (B : Bs (KK w) hb mg mb) (rows : List Str) (e : Str) (he : e.length ≤ 100) (hr : ∀ r ∈ rows, r.length ≤ 100) (hn : rows.length ≤ 100) (hj : JoinOk (Str.ofString "") (rows.map (· ++ e)) = true) : Fn prog w hb 107 false 1 [.ls rows, .str e] (.str (Txt.join (Str.ofString "") (rows.map (· ++ e)))) := by
  refine Fn_intro B (f := 107) (ps := [Str.ofString "rows", Str.ofString "end"]) rfl rfl (code_rec B rfl rfl rfl) rfl ?_ ?_ ?_ ?_ rfl ?_ rfl rfl rfl
  · rintro (_ | ⟨c, _ | ⟨d, _ | ⟨_, _⟩⟩⟩) hl <;> simp at hl
    rfl
  · decide
  · intro x hx
    simp only [List.mem_cons, List.not_mem_nil, or_false] at hx
    rcases hx with rfl | rfl
    · exact .inl rfl
    · exact .inr ⟨rfl, fun _ => rfl⟩
  · simp [isOwn]
  · intro A' L O h₀ rm
    have eq : (rows.map AV.str).map (fun v => sOf v ++ e) = rows.map (· ++ e) := by rw [List.map_map]; rfl
    refine sR (eM B.no PySem.F.plainAttrs_str PySem.F.slot_str_join PySem.F.type_str_join isT_str Ev_str
      (eL1 B.no (Ev_compS (f := fun v => sOf v ++ e) B.no rm.hd (comp_ok [(Str.ofString "end", L + 1)]) eN rfl ?_ ?_ (fun _ => rfl))) (Bi_join (by rw [eq]; exact hj))) (by rw [eq])
    · simp only [List.length_map]; unfold sizeLine; omega
    · intro a ha cell
      obtain ⟨r, hr', rfl⟩ := List.mem_map.mp ha
      have := hr r hr'
      exact Ev_bin B.no eN eN (Bin_addS (by show r.length + e.length ≤ sizeLine; unfold sizeLine; omega))
end Mine
end

section
set_option maxRecDepth 100000
set_option linter.unusedVariables false
namespace Mine
open PySem PySem.W PySem.Calls PyProof.Rows
variable {prog : Program} {w : World} {hb h₀ : Heap} {mg mb : Str → Option Value} {K : Frag} {A : Around} {env : Env} {α β : Al} {O : Addr → Prop} {a : Option Addr}

theorem shr_nat (x s : Nat) : ((x : Int).fdiv (2 ^ (s : Int).toNat)) = ((x / 2 ^ s : Nat) : Int) := by
  rw [show (s : Int).toNat = s from by omega, show (2 : Int) ^ s = ((2 ^ s : Nat) : Int) from by simp, Int.fdiv_eq_ediv_of_nonneg _ (Int.natCast_nonneg _)]; rfl
theorem shl_nat (x s : Nat) : (x : Int) * 2 ^ (s : Int).toNat = ((x * 2 ^ s : Nat) : Int) := by
  rw [show (s : Int).toNat = s from by omega]; simp

def nd (a n : Nat) : Nat := (Builtin.Int.intBits a + n - 1) / n
theorem upd_all {xs ds : List Int} (h : ds.length = xs.length) : upd xs 0 ds = ds := by
  unfold upd; simp [h]
theorem nd_le {a n : Nat} (ha : a < 256) (hn : 1 ≤ n) : nd a n ≤ 8 := by
  unfold nd
  have := bits_le (a := (a : Int)) (k := 8) (by simpa using ha)
  refine Nat.div_le_of_le_mul ?_
  have : Builtin.Int.intBits a + n ≤ 8 + n := by omega
  have h2 : 7 * 1 ≤ 7 * n := Nat.mul_le_mul_left _ hn
  omega
theorem nd_lt {a n : Nat} (hn : 1 ≤ n) : a < 2 ^ (n * nd a n) := by
  refine Nat.lt_of_lt_of_le (lt_bits a) (Nat.pow_le_pow_right (by decide) ?_)
  unfold nd
  have := Nat.lt_mul_div_succ (Builtin.Int.intBits a + n - 1) (show 0 < n by omega)
  rw [Nat.mul_add] at this
  omega
theorem nd_pos {a n : Nat} (ha : a ≠ 0) (hn : 1 ≤ n) : 1 ≤ nd a n := by
  unfold nd Builtin.Int.intBits
  rw [if_neg (by simpa using ha)]
  exact (Nat.le_div_iff_mul_le (by omega)).mpr (by omega)

theorem int2digits_fn (B : Bs (KK w) hb mg mb) (a n : Nat) (ha : a < 256) (hn : 1 ≤ n ∧ n ≤ 8) : Fn prog w hb 52 true 12 [.int a, .int n] (.li (dg n (nd a n) a)) := by
  refine Fn_intro B (f := 52) (ps := [Str.ofString "a", Str.ofString "n"]) rfl rfl (code_rec B rfl rfl rfl) rfl ?_ ?_ ?_ ?_ rfl ?_ rfl rfl rfl
  · rintro (_ | ⟨c, _ | ⟨d, _ | ⟨_, _⟩⟩⟩) hl <;> simp at hl
    rfl
  · decide
  · intro x hx
    simp only [List.mem_cons, List.not_mem_nil, or_false] at hx
    rcases hx with rfl | rfl
    · exact .inl rfl
    · exact .inr ⟨rfl, fun _ => rfl⟩
  · simp [isOwn]
  · intro A' L O h₀ rm
    have hnd := nd_le ha hn.1
    refine Sx_ownMul rfl (n := 0) (k := nd a n) ?_ (Ev_listI B.no (eL1 B.no Ev_int) (by decide)) (Ev.eqv (Ev_bin B.no (Ev_bin B.no (Ev_bin B.no (eM0 B.no PySem.F.plainAttrs_int PySem.F.slot_int_bit_length PySem.F.type_int_bit_length isT_int eN Bi_bitlen) eN Bin_add) Ev_int Bin_sub) eN (Bin_div ?_ ?_)) ?_) (by omega) ?_
    · intro y u e
      exact AllB.get (P := fun p => isOwn p.2 = false) (β := [(Str.ofString "a", .int a), (Str.ofString "n", .int n)]) ⟨rfl, rfl, trivial⟩ e
    · omega
    · exact PyProof.noPylong_small (by omega)
    · unfold nd
      congr 1
      rw [Int.fdiv_eq_ediv_of_nonneg _ (by omega)]
      have : ((Builtin.Int.intBits a : Int) + n - 1) = ((Builtin.Int.intBits a + n - 1 : Nat) : Int) := by omega
      rw [this]; rfl
    · intro b
      refine Sx_defN B (fun f fd => ∀ k x l xs, 1 ≤ k → k ≤ 8 → x < 2 ^ (n * k) → l + k ≤ xs.length → xs.length ≤ 8 → NestM prog w hb f fd [(Str.ofString "inner", .fn f fd), (Str.ofString "n", .int n)] k [.int (x : Nat), .int (l : Nat), .int ((l + k : Nat) : Int)] (Str.ofString "a_digits") xs (upd xs l (dg n k x)))
        [(Str.ofString "n", L + 1), (Str.ofString "inner", L + 3), (Str.ofString "a_digits", L + 2)] .a ?_ ?_
      · intro f doc pm c' ctv k
        induction k using Nat.strongRecOn with
        | _ k ih =>
        intro x l xs k1 k8 hx hl hxs
        obtain ⟨m, rfl⟩ : ∃ m, k = m + 1 := ⟨k - 1, by omega⟩
        refine NestM_mk B (ps := [Str.ofString "x", Str.ofString "L", Str.ofString "R"]) rfl rfl rfl rfl ?_ (nocell_of rfl) ?_ (by decide) ⟨⟨rfl, rfl⟩, ⟨rfl, rfl⟩, trivial⟩ rfl (inj_of (by simp)) (by simp [isOwn]) (fun A' L' O' h₀' b' rm' => ?_) rfl rfl rfl
        · rintro (_ | ⟨c, _ | ⟨d, _ | ⟨e, _ | ⟨_, _⟩⟩⟩⟩) hl <;> simp at hl
          rfl
        · intro y hy
          simp only [List.mem_cons, List.not_mem_nil, or_false] at hy
          rcases hy with rfl | rfl | rfl <;> rfl
        · by_cases hm : m = 0
          · subst hm
            refine ⟨_, _, .inr rfl, ?_, Sx_retm (S_if (b := true) (Tr.eqv (Tr_cmp B.no (Ev_bin B.no eN Ev_int Bin_add) eN Cmp_eq rfl) (by simp)) (fun _ => Sx_cons (S_setitem rfl eN eN (by omega) (by unfold sizeLine; omega)) (Sx_retm S_return0)) nofun)⟩
            show some (AV.oi (xs.set l x)) = _
            rw [upd_set (by omega), dg_one (by simpa using hx)]
          · obtain ⟨p, hp⟩ : ∃ p, p = (m + 1) / 2 := ⟨_, rfl⟩
            obtain ⟨q, hq⟩ : ∃ q, q = m + 1 - p := ⟨_, rfl⟩
            have e1 : 2 ^ (n * (m + 1)) = 2 ^ (n * p) * 2 ^ (n * q) := by rw [← Nat.pow_add, ← Nat.mul_add]; congr 2; omega
            have hpn : p * n ≤ 64 := Nat.mul_le_mul (show p ≤ 8 by omega) hn.2
            have c1 := ih p (by omega) (x % 2 ^ (n * p)) l xs (by omega) (by omega) (Nat.mod_lt _ (Nat.two_pow_pos _)) (by omega) hxs
            have hl1 : (upd xs l (dg n p (x % 2 ^ (n * p)))).length = xs.length := upd_length (by rw [dg_length]; omega)
            have c2 := ih q (by omega) (x / 2 ^ (n * p)) (l + p) (upd xs l (dg n p (x % 2 ^ (n * p)))) (by omega) (by omega) ((Nat.div_lt_iff_lt_mul (Nat.two_pow_pos _)).mpr (by rw [Nat.mul_comm, ← e1]; exact hx)) (by omega) (by omega)
            rw [show l + p + q = l + (m + 1) from by omega] at c2
            have en : n * p = p * n := Nat.mul_comm _ _
            refine ⟨_, _, .inl rfl, ?_, Sx_cons (S_if (b := false) (Tr.eqv (Tr_cmp B.no (Ev_bin B.no eN Ev_int Bin_add) eN Cmp_eq rfl) ?_) nofun (fun _ => Sx_nil))
              (Sx_cons (sA (v' := .int ((l + p : Nat) : Int)) (Ev_bin B.no (Ev_bin B.no eN eN Bin_add) Ev_int (Bin_shr (by decide))) ?_)
              (Sx_cons (sA (v' := .int ((n * p : Nat) : Int)) (Ev_bin B.no (Ev_bin B.no eN eN Bin_sub) eN (Bin_mul ?_)) ?_)
              (Sx_cons (sA (v' := .int ((x / 2 ^ (n * p) : Nat) : Int)) (Ev_bin B.no eN eN (Bin_shr ?_)) ?_)
              (Sx_cons (sA (v' := .int ((x % 2 ^ (n * p) : Nat) : Int)) (Ev_bin B.no eN (Ev_bin B.no eN eN (Bin_shl ?_ ?_ ?_)) Bin_xor) ?_)
              (Sx_cons (S_nest (rm'.less (show p ≤ m by omega)) rfl rfl rfl (Clo_of (by exact ⟨rfl, rfl, rfl, trivial⟩) (by exact ⟨⟨rfl, rfl, rfl⟩, ⟨rfl, rfl, rfl⟩, trivial⟩)) rfl rfl (.inr rfl) (eL3 B.no eN eN eN) c1 rfl rfl rfl rfl)
              (Sx_cons (S_nest (rm'.less (show q ≤ m by omega)) rfl rfl rfl (Clo_of (by exact ⟨rfl, rfl, rfl, trivial⟩) (by exact ⟨⟨rfl, rfl, rfl⟩, ⟨rfl, rfl, rfl⟩, trivial⟩)) rfl rfl (.inr rfl) (eL3 B.no eN eN eN) c2 rfl rfl rfl rfl) Sx_nil))))))⟩
            · show some (AV.oi (upd (upd xs l (dg n p (x % 2 ^ (n * p)))) (l + p) (dg n q (x / 2 ^ (n * p))))) = _
              have := upd_upd (xs := xs) (l := l) (d1 := dg n p (x % 2 ^ (n * p))) (d2 := dg n q (x / 2 ^ (n * p))) (by rw [dg_length, dg_length]; omega)
              rw [dg_length] at this
              rw [this, ← dg_add, show p + q = m + 1 from by omega]
            · simp; omega
            · congr 1
              rw [show ((l : Int) + ((l + (m + 1) : Nat) : Int)) = ((l + l + (m + 1) : Nat) : Int) from by omega]
              have := shr_nat (l + l + (m + 1)) 1
              rw [show (((1 : Nat) : Int)) = (1 : Int) from rfl] at this
              rw [this]
              congr 1
              rw [hp]; omega
            · refine mul_ok ?_
              rw [show (((l + p : Nat) : Int) - (l : Int)) = (p : Int) from by omega]
              exact Nat.lt_of_le_of_lt (show p ≤ 8 by omega) (by decide)
            · congr 1
              rw [show (((l + p : Nat) : Int) - (l : Int)) = (p : Int) from by omega, Nat.mul_comm n p]; simp
            · omega
            · rw [shr_nat]
            · omega
            · omega
            · have : x / 2 ^ (n * p) ≤ x := Nat.div_le_self _ _
              have h64 : n * (m + 1) ≤ 64 := Nat.mul_le_mul hn.2 k8
              refine Nat.lt_of_le_of_lt (show ((x / 2 ^ (n * p) : Nat) : Int).natAbs ≤ x by rw [Int.natAbs_natCast]; exact this) (Nat.lt_of_lt_of_le hx (Nat.pow_le_pow_right (by decide) h64))
            · rw [shl_nat, bitXor_nat, xor_low]
      · intro f fd hN hcl
        by_cases h0 : a = 0
        · subst h0
          have e0 : nd 0 n = 0 := by
            unfold nd Builtin.Int.intBits
            simp; omega
          refine Sx_cons (S_if (b := false) (Tr.eqv (Tr_int eN) (by simp)) nofun (fun _ => Sx_nil)) (Sx_freezeI (x := Str.ofString "a_digits") rfl (sR eN ?_))
          rw [e0]; rfl
        · have hp := nd_pos h0 hn.1
          have c := hN (nd a n) a 0 (List.replicate (nd a n) 0) hp hnd (nd_lt hn.1) (by simp) (by simpa using hnd)
          rw [upd_all (by rw [dg_length]; simp), Nat.zero_add] at c
          refine Sx_cons (S_if (b := true) (Tr.eqv (Tr_int eN) (by simpa using h0)) (fun _ => Sx_cons (S_nest (rm.less (show nd a n ≤ 11 by omega)) rfl rfl rfl (Clo_of (by rw [hcl]; exact ⟨rfl, rfl, rfl, trivial⟩) (by rw [hcl]; exact ⟨⟨rfl, rfl, rfl⟩, ⟨rfl, rfl, rfl⟩, trivial⟩)) rfl (by rw [hcl]; rfl) (.inl rfl)
            (eL3 B.no eN Ev_int (Ev.eqv (eB B (eL1 B.no eN) (Bi_lenOI ?_)) ?_)) c rfl rfl rfl rfl) Sx_nil) nofun) (Sx_freezeI (x := Str.ofString "a_digits") rfl (sR eN rfl))
          · simp; omega
          · simp
end Mine
end

section
set_option maxRecDepth 100000
set_option linter.unusedVariables false
namespace Mine
open PySem PySem.W PySem.Calls PyProof.Rows
variable {prog : Program} {w : World} {hb h₀ : Heap} {mg mb : Str → Option Value} {K : Frag} {A : Around} {env : Env} {α β : Al} {O : Addr → Prop} {a : Option Addr}

def ci (ds : List Nat) : List Int := ds.map fun (d : Nat) => (d : Int)
theorem ci_get {ds : List Nat} {k d : Nat} (h : ds[k]? = some d) : (ci ds)[k]? = some (d : Int) := by simp [ci, h]
theorem ci_len (ds : List Nat) : (ci ds).length = ds.length := by simp [ci]

/-- a nested call -/
theorem eNest (no : hb.get? 47 = none ∧ hb.get? 54 = none) {t : Bool} {x : Str} {p pos : Pos} {e : Expr} {es : List Expr} {vs : List AV} {v : AV} {f : Addr} {fd : FuncData} {n : Nat} (rm : Room A n) (C : Clo env α β fd) (ha : EvL prog w hb A env t α (e :: es) vs) (hc : Nest prog w hb f fd β t n vs v)
    (hx : α.lookup x = some (.fn f fd) := by rfl) (hdb : (x == ("__debug__" : Str)) = false := by rfl) (hcd : (x == ("__classdict__" : Str)) = false := by rfl)
    (he : starEach (e :: es) env = (false, eval e env) :: starEach es env := by rfl) (hst : (backTo pos (starEach es env)).any (·.1) = false := by rfl) : Ev prog w hb A env t α (.Call (.Name x p) (e :: es) [] pos) v :=
  Ev_nest no rm hx hdb hcd C ha hc he hst

theorem digits2int_fn (B : Bs (KK w) hb mg mb) (ds : List Nat) (n : Nat) (hd : ∀ d ∈ ds, d < 2 ^ n) (hl : ds.length ≤ 8) (hn : n ≤ 8) : Fn prog w hb 59 true 12 [.li (ci ds), .int n] (.int (und n ds)) := by
  refine Fn_intro B (f := 59) (ps := [Str.ofString "digits", Str.ofString "n"]) rfl rfl (code_rec B rfl rfl rfl) rfl ?_ ?_ ?_ ?_ rfl ?_ rfl rfl rfl
  · rintro (_ | ⟨c, _ | ⟨d, _ | ⟨_, _⟩⟩⟩) hl <;> simp at hl
    rfl
  · decide
  · intro x hx
    simp only [List.mem_cons, List.not_mem_nil, or_false] at hx
    rcases hx with rfl | rfl
    · exact .inr ⟨rfl, fun _ => rfl⟩
    · exact .inr ⟨rfl, fun _ => rfl⟩
  · simp [isOwn]
  · intro A' L O h₀ rm
    refine Sx_defN B (fun f fd => ∀ k l, 1 ≤ k → k ≤ 8 → l + k ≤ ds.length → Nest prog w hb f fd [(Str.ofString "digits", .li (ci ds)), (Str.ofString "inner", .fn f fd), (Str.ofString "n", .int n)] true k [.int (l : Nat), .int ((l + k : Nat) : Int)] (.int (und n ((ds.drop l).take k))))
        [(Str.ofString "n", L + 2), (Str.ofString "inner", L + 3), (Str.ofString "digits", L + 1)] .b ?_ ?_
    · intro f doc pm c' ctv k
      induction k using Nat.strongRecOn with
      | _ k ih =>
      intro l k1 k8 hk
      obtain ⟨m, rfl⟩ : ∃ m, k = m + 1 := ⟨k - 1, by omega⟩
      refine Nest_mk B (ps := [Str.ofString "L", Str.ofString "R"]) rfl rfl rfl rfl ?_ (nocell_of rfl) ?_ (by decide) ⟨⟨rfl, rfl⟩, ⟨rfl, rfl⟩, ⟨rfl, rfl⟩, trivial⟩ (inj_of (by simp)) (by simp [isOwn]) (fun A' L' O' h₀' rm' => ?_) rfl rfl rfl
      · rintro (_ | ⟨c, _ | ⟨d, _ | ⟨_, _⟩⟩⟩) hl <;> simp at hl
        rfl
      · intro y hy
        simp only [List.mem_cons, List.not_mem_nil, or_false] at hy
        rcases hy with rfl | rfl <;> rfl
      · by_cases hm : m = 0
        · subst hm
          have hg : ds[l]? = some (ds[l]'(by omega)) := List.getElem?_eq_getElem (by omega)
          refine Sx_ret (S_if (b := true) (Tr.eqv (Tr_cmp B.no (Ev_bin B.no eN Ev_int Bin_add) eN Cmp_eq rfl) (by simp)) (fun _ => sR (Ev_sub B.no eN eN (Sub_li (n := ((ds[l]'(by omega) : Nat) : Int)) (fun _ _ => rfl) (by omega) ?_ (by omega))) ?_) nofun)
          · rw [show (l : Int).toNat = l from by omega]; exact ci_get hg
          · have : (ds.drop l).take (0 + 1) = [ds[l]'(by omega)] := by
              rw [Nat.zero_add, List.take_one, List.head?_drop, hg]; rfl
            rw [this]; simp [und]
        · obtain ⟨p, hp⟩ : ∃ p, p = (m + 1) / 2 := ⟨_, rfl⟩
          obtain ⟨q, hq⟩ : ∃ q, q = m + 1 - p := ⟨_, rfl⟩
          have c1 := ih p (by omega) l (by omega) (by omega) (by omega)
          have c2 := ih q (by omega) (l + p) (by omega) (by omega) (by omega)
          rw [show l + p + q = l + (m + 1) from by omega] at c2
          have hpn : n * p ≤ 64 := Nat.mul_le_mul hn (show p ≤ 8 by omega)
          have hb2 : und n ((ds.drop (l + p)).take q) < 2 ^ 64 := by
            refine Nat.lt_of_lt_of_le (und_lt n _ fun x hx => hd x (List.mem_of_mem_drop (List.mem_of_mem_take hx))) (Nat.pow_le_pow_right (by decide) ?_)
            refine Nat.mul_le_mul hn (Nat.le_trans (List.length_take_le _ _) (show q ≤ 8 by omega))
          refine Sx_cons (S_if (b := false) (Tr.eqv (Tr_cmp B.no (Ev_bin B.no eN Ev_int Bin_add) eN Cmp_eq rfl) ?_) nofun (fun _ => Sx_nil))
              (Sx_cons (sA (v' := .int ((l + p : Nat) : Int)) (Ev_bin B.no (Ev_bin B.no eN eN Bin_add) Ev_int (Bin_shr (by decide))) ?_)
              (Sx_cons (sA (v' := .int ((n * p : Nat) : Int)) (Ev_bin B.no (Ev_bin B.no eN eN Bin_sub) eN (Bin_mul ?_)) ?_)
              (sR (Ev_bin B.no (Ev_bin B.no (eNest B.no (rm'.less (show q ≤ m by omega)) (Clo_of (by exact ⟨rfl, rfl, rfl, trivial⟩) (by exact ⟨⟨rfl, rfl, rfl⟩, ⟨rfl, rfl, rfl⟩, ⟨rfl, rfl, rfl⟩, trivial⟩)) (eL2 B.no eN eN) c2) eN (Bin_shl ?_ ?_ ?_))
                (eNest B.no (rm'.less (show p ≤ m by omega)) (Clo_of (by exact ⟨rfl, rfl, rfl, trivial⟩) (by exact ⟨⟨rfl, rfl, rfl⟩, ⟨rfl, rfl, rfl⟩, ⟨rfl, rfl, rfl⟩, trivial⟩)) (eL2 B.no eN eN) c1) Bin_add) ?_)))
          · simp; omega
          · congr 1
            rw [show ((l : Int) + ((l + (m + 1) : Nat) : Int)) = ((l + l + (m + 1) : Nat) : Int) from by omega]
            have := shr_nat (l + l + (m + 1)) 1
            rw [show (((1 : Nat) : Int)) = (1 : Int) from rfl] at this
            rw [this]
            congr 1
            rw [hp]; omega
          · refine mul_ok ?_
            rw [show (((l + p : Nat) : Int) - (l : Int)) = (p : Int) from by omega]
            exact Nat.lt_of_le_of_lt (show p ≤ 8 by omega) (by decide)
          · congr 1
            rw [show (((l + p : Nat) : Int) - (l : Int)) = (p : Int) from by omega, Nat.mul_comm n p]; simp
          · omega
          · omega
          · rw [Int.natAbs_natCast]; exact hb2
          · rw [shl_nat]
            have e1 : (ds.drop l).take (m + 1) = (ds.drop l).take p ++ (ds.drop (l + p)).take q := by
              rw [show m + 1 = p + q from by omega, List.take_add, List.drop_drop]
            have e2 : ((ds.drop l).take p).length = p := by simp; omega
            rw [e1, und_append, e2]
            congr 1
            have : und n ((ds.drop (l + p)).take q) * 2 ^ (n * p) = 2 ^ (n * p) * und n ((ds.drop (l + p)).take q) := Nat.mul_comm _ _
            omega
    · intro f fd hN hcl
      by_cases h0 : ds = []
      · subst h0
        exact sR (Ev_ifexp B.no (b := false) (Tr.eqv (Tr_li eN (Nat.zero_le _)) rfl) nofun (fun _ => Ev_int)) rfl
      · have hp : 1 ≤ ds.length := by cases ds with | nil => exact absurd rfl h0 | cons => simp
        have c := hN ds.length 0 hp hl (by omega)
        rw [Nat.zero_add, List.drop_zero, List.take_length] at c
        refine sR (Ev_ifexp B.no (b := true) (Tr.eqv (Tr_li eN ?_) ?_) (fun _ => eNest B.no (rm.less (show ds.length ≤ 11 by omega)) (Clo_of (by rw [hcl]; exact ⟨rfl, rfl, rfl, trivial⟩) (by rw [hcl]; exact ⟨⟨rfl, rfl, rfl⟩, ⟨rfl, rfl, rfl⟩, ⟨rfl, rfl, rfl⟩, trivial⟩)) (eL2 B.no Ev_int (Ev.eqv (eB B (eL1 B.no eN) (Bi_lenI ?_)) ?_)) c) nofun) rfl
        · rw [ci_len]; unfold sizeLine; omega
        · simpa [ci] using h0
        · rw [ci_len]; omega
        · rw [ci_len]

theorem div2n1n_fn (B : Bs (KK w) hb mg mb) (a b n : Nat) (ha : a < 2 ^ 64) (hb0 : b ≠ 0) (hb1 : b < 2 ^ 20) : Fn prog w hb 38 true 1 [.int a, .int b, .int n] (.tu [((a / b : Nat) : Int), ((a % b : Nat) : Int)]) := by
  refine Fn_intro B (f := 38) (ps := [Str.ofString "a", Str.ofString "b", Str.ofString "n"]) rfl rfl (code_rec B rfl rfl rfl) rfl ?_ ?_ ?_ ?_ rfl ?_ rfl rfl rfl
  · rintro (_ | ⟨c, _ | ⟨d, _ | ⟨e, _ | ⟨_, _⟩⟩⟩⟩) hl <;> simp at hl
    rfl
  · decide
  · intro x hx
    simp only [List.mem_cons, List.not_mem_nil, or_false] at hx
    rcases hx with rfl | rfl | rfl <;> exact .inl rfl
  · simp [isOwn]
  · intro A' L O h₀ rm
    refine Sx_ret (S_if (b := true) (Tr.eqv (Tr_cmp B.no (Ev_bin B.no (eM0 B.no PySem.F.plainAttrs_int PySem.F.slot_int_bit_length PySem.F.type_int_bit_length isT_int eN Bi_bitlen) eN Bin_sub) (Ev_glob (v := .int 4000) B rfl rfl (fun _ _ => ⟨_, rfl⟩) rfl) Cmp_le rfl) ?_) (fun _ => sR (eB B (eL2 B.no eN eN) (Bi_divmod ?_ ?_)) ?_) nofun)
    · have := bits_le (a := (a : Int)) (k := 64) (by simpa using ha)
      simp; omega
    · omega
    · exact PyProof.noPylong_small (by omega)
    · rw [Int.fdiv_eq_ediv_of_nonneg _ (by omega), Int.fmod_eq_emod_of_nonneg _ (by omega)]; rfl
end Mine
end

section
set_option maxRecDepth 100000
set_option linter.unusedVariables false
namespace Mine
open PySem PySem.W PySem.Calls PyProof.Rows
variable {prog : Program} {w : World} {hb h₀ : Heap} {mg mb : Str → Option Value} {K : Frag} {A : Around} {env : Env} {α β : Al} {O : Addr → Prop} {a : Option Addr}

def adp (b n r : Nat) (qs : List Int) : Al := [(Str.ofString "r", .int r), (Str.ofString "q_digits", .oi qs), (Str.ofString "n", .int n), (Str.ofString "b", .int b)]
theorem ci_snoc (qs : List Nat) (q : Nat) : ci (qs ++ [q]) = ci qs ++ [(q : Int)] := by simp [ci]
theorem Fn.up {f : Addr} {t : Bool} {n n' : Nat} {vs : List AV} {v : AV} (h : Fn prog w hb f t n vs v) (hn : n ≤ n') : Fn prog w hb f t n' vs v := .mk fun A s O cvs Q E rm => h.go A s O cvs Q E (rm.less hn)

theorem divmod_pos_fn (B : Bs (KK w) hb mg mb) (a b : Nat) (ha : a < 256) (hb0 : b ≠ 0) (hb1 : b < 256) : Fn prog w hb 66 true 13 [.int a, .int b] (.tu [((a / b : Nat) : Int), ((a % b : Nat) : Int)]) := by
  refine Fn_intro B (f := 66) (ps := [Str.ofString "a", Str.ofString "b"]) rfl rfl (code_rec B rfl rfl rfl) rfl ?_ ?_ ?_ ?_ rfl ?_ rfl rfl rfl
  · rintro (_ | ⟨c, _ | ⟨d, _ | ⟨_, _⟩⟩⟩) hl <;> simp at hl
    rfl
  · decide
  · intro x hx
    simp only [List.mem_cons, List.not_mem_nil, or_false] at hx
    rcases hx with rfl | rfl <;> exact .inl rfl
  · simp [isOwn]
  · intro A' L O h₀ rm
    obtain ⟨n, hn⟩ : ∃ n, n = Builtin.Int.intBits (b : Int) := ⟨_, rfl⟩
    have n8 : n ≤ 8 := hn ▸ bits_le (by simpa using hb1)
    have n1 : 1 ≤ n := by
      rw [hn]; unfold Builtin.Int.intBits
      rw [if_neg (by simpa using hb0)]; omega
    have bn : b < 2 ^ n := hn ▸ lt_bits b
    obtain ⟨ds, hds⟩ : ∃ ds, ds = dgn n (nd a n) a := ⟨_, rfl⟩
    have hd : ∀ d ∈ ds, d < 2 ^ n := hds ▸ dgn_lt n _ _
    have hl : ds.length ≤ 8 := by rw [hds, dgn_length]; exact nd_le ha n1
    have hu : und n ds = a := by rw [hds]; exact und_dgn n _ a (nd_lt n1)
    have e1 : dg n (nd a n) a = ci ds := by rw [hds]; exact dg_dgn n _ a
    obtain ⟨rev, hrev⟩ : ∃ rev, rev = ds.reverse := ⟨_, rfl⟩
    have hrl : rev.length = ds.length := by rw [hrev, List.length_reverse]
    have hrd : ∀ d ∈ rev, d < 2 ^ n := fun d m => hd d (by rw [hrev] at m; exact List.mem_reverse.mp m)
    have b0 : 0 < b := by omega
    have c1 := int2digits_fn (prog := prog) B a n ha ⟨n1, n8⟩
    rw [e1] at c1
    refine Sx_cons (sA (v' := .int n) (eM0 B.no PySem.F.plainAttrs_int PySem.F.slot_int_bit_length PySem.F.type_int_bit_length isT_int eN Bi_bitlen) (by rw [hn]))
      (Sx_cons (sA (eF B rm (eL2 B.no eN eN) c1) rfl) (Sx_cons (sA Ev_int rfl) (Sx_own rfl ?_ (fun bb => ?_))))
    · intro y u e
      exact AllB.get (P := fun p => isOwn p.2 = false) (β := put (Str.ofString "r") (.int 0) (put (Str.ofString "a_digits") (.li (ci ds)) (put (Str.ofString "n") (.int n) [(Str.ofString "a", .int a), (Str.ofString "b", .int b)]))) ⟨rfl, rfl, rfl, rfl, rfl, trivial⟩ e
    · refine Sx_cons (S_for (It_rev B rm.hd eN ?_) (.inl rfl) (fun i => adp b n (lo n b (rev.take i) 0) (ci (qd n b (rev.take i) 0))) (fun x v => Knows.get (by exact ⟨rfl, rfl, rfl, rfl, trivial⟩)) rev.length ?_ _ ?_ (.inl ⟨?_, rfl⟩) (fun _ => rfl)) ?_
      · rw [ci_len]; unfold sizeLine; omega
      · rw [List.length_map, List.length_reverse, ci_len, hrl]; exact Nat.le_refl _
      · intro i it hi ei
        obtain ⟨d, hdi⟩ : ∃ d, rev[i]? = some d := ⟨_, List.getElem?_eq_getElem hi⟩
        have et : rev.take (i + 1) = rev.take i ++ [d] := by rw [List.take_add_one, hdi]; rfl
        have ei' : (ci ds).reverse = ci rev := by rw [hrev]; simp [ci]
        rw [ei', List.getElem?_map, ci_get hdi] at ei
        cases ei
        rw [et, lo_snoc, qd_snoc, ci_snoc]
        have hr : lo n b (rev.take i) 0 < b := lo_lt b0 _ _ b0
        have hdn : d < 2 ^ n := hrd d (List.mem_of_getElem? hdi)
        have hql : (qd n b (rev.take i) 0).length ≤ 8 := by rw [qd_length]; simp; omega
        generalize lo n b (rev.take i) 0 = r at hr
        generalize qd n b (rev.take i) 0 = qs at hql
        have hv : r * 2 ^ n + d < 2 ^ 64 := by
          have h1 : r * 2 ^ n ≤ 255 * 2 ^ 8 := Nat.mul_le_mul (by omega) (Nat.pow_le_pow_right (by decide) n8)
          have h2 : 2 ^ n ≤ 2 ^ 8 := Nat.pow_le_pow_right (by decide) n8
          omega
        have c2 := div2n1n_fn (prog := prog) B (r * 2 ^ n + d) b n hv hb0 (by omega)
        refine Sx_post (Sx_cons (S_two rm.hd (eF B (rm.less (show 1 ≤ 12 by omega)) (eL3 B.no (Ev.eqv (Ev_bin B.no (Ev_bin B.no eN eN (Bin_shl (by omega) (by omega) ?_)) eN Bin_add) ?_) eN eN) c2) rfl rfl rfl rfl) (Sx_cons (S_append rfl rfl rfl eN ?_ rfl rfl rfl rfl) Sx_nil)) (by exact ⟨rfl, rfl, rfl, rfl, trivial⟩)
        · rw [Int.natAbs_natCast]; omega
        · rw [shl_nat]; simp
        · rw [ci_len]; unfold sizeLine; omega
      · rw [List.length_map, List.length_reverse, ci_len, hrl]
      · rw [List.take_length]
        have hr : lo n b rev 0 < b := lo_lt b0 _ _ b0
        have hq : ∀ q ∈ qd n b rev 0, q < 2 ^ n := qd_lt b0 rev 0 b0 hrd
        have hql : (qd n b rev 0).length ≤ 8 := by rw [qd_length, hrl]; exact hl
        have key := div_all (n := n) b0 ds
        rw [← hrev, hu] at key
        obtain ⟨k1, k2⟩ := div_end key hr
        have c3 := digits2int_fn (prog := prog) B (qd n b rev 0).reverse n (fun q m => hq q (List.mem_reverse.mp m)) (by rw [List.length_reverse]; exact hql) n8
        rw [k1] at c3
        have er : ci (qd n b rev 0).reverse = (ci (qd n b rev 0)).reverse := by simp [ci]
        rw [er] at c3
        rw [← k2]
        refine Sx_cons (S_reverse rfl ?_) (Sx_freezeI (x := Str.ofString "q_digits") rfl (Sx_cons (sA (eF B rm (eL2 B.no eN eN) c3) rfl) (sR (Ev_tuple (ns := [((a / b : Nat) : Int), ((lo n b rev 0 : Nat) : Int)]) (eL2 B.no eN eN) (by show 2 ≤ sizeLine; decide)) rfl)))
        rw [ci_len]; unfold sizeLine; omega

theorem int_divmod_fn (B : Bs (KK w) hb mg mb) (a b : Nat) (ha : a < 256) (hb0 : b ≠ 0) (hb1 : b < 256) : Fn prog w hb 73 true 14 [.int a, .int b] (.tu [((a / b : Nat) : Int), ((a % b : Nat) : Int)]) := by
  refine Fn_intro B (f := 73) (ps := [Str.ofString "a", Str.ofString "b"]) rfl rfl (code_rec B rfl rfl rfl) rfl ?_ ?_ ?_ ?_ rfl ?_ rfl rfl rfl
  · rintro (_ | ⟨c, _ | ⟨d, _ | ⟨_, _⟩⟩⟩) hl <;> simp at hl
    rfl
  · decide
  · intro x hx
    simp only [List.mem_cons, List.not_mem_nil, or_false] at hx
    rcases hx with rfl | rfl <;> exact .inl rfl
  · simp [isOwn]
  · intro A' L O h₀ rm
    refine Sx_ret (S_if (b := false) (Tr.eqv (Tr_cmp B.no eN Ev_int Cmp_eq rfl) ?_) nofun (fun _ => Sx_ret (S_if (b := false) (Tr.eqv (Tr_cmp B.no eN Ev_int Cmp_lt rfl) ?_) nofun (fun _ => Sx_ret (S_if (b := false) (Tr.eqv (Tr_cmp B.no eN Ev_int Cmp_lt rfl) ?_) nofun
      (fun _ => sR (eF B rm (eL2 B.no eN eN) (divmod_pos_fn B a b ha hb0 hb1)) rfl))))))
    · simpa using hb0
    · simp
    · simp
end Mine
end

section
set_option maxRecDepth 100000
set_option linter.unusedVariables false
namespace Mine
open PySem PySem.W PySem.Calls PyProof.Rows
variable {prog : Program} {w : World} {hb h₀ : Heap} {mg mb : Str → Option Value} {K : Frag} {A : Around} {env : Env} {α β : Al} {O : Addr → Prop} {a : Option Addr}

theorem dg_zero (n : Nat) : ∀ k, dg n k 0 = List.replicate k 0
  | 0 => rfl
  | k + 1 => by simp [dg, dg_zero n k, List.replicate_succ]
theorem dg_pad {n k x : Nat} (j : Nat) (h : x < 2 ^ (n * k)) : dg n k x ++ List.replicate j 0 = dg n (k + j) x := by
  rw [dg_add, Nat.mod_eq_of_lt h, Nat.div_eq_of_lt h, dg_zero]
theorem dg_bit : ∀ k x, ∀ d ∈ dg 1 k x, 0 ≤ d ∧ d < 2
  | 0, _, d, h => by cases h
  | k + 1, x, d, h => by
    simp only [dg, List.mem_cons] at h
    rcases h with rfl | h
    · have := Nat.mod_lt x (show 0 < 2 ^ 1 by decide); omega
    · exact dg_bit k _ d h
theorem rep_flat0 : ∀ k : Nat, (List.replicate k [(0 : Int)]).flatten = List.replicate k 0
  | 0 => rfl
  | k + 1 => by rw [List.replicate_succ, List.flatten_cons, List.replicate_succ, rep_flat0 k]; rfl

def lets (x : Nat) : List Str := (dg 1 7 x).map fun d => Txt.item (Str.ofString "ab") d

theorem letters_fn (B : Bs (KK w) hb mg mb) (x : Nat) (hx : x < 128) : Fn prog w hb 102 true 13 [.int x] (.ls (lets x)) := by
  refine Fn_intro B (f := 102) (ps := [Str.ofString "word"]) rfl rfl (code_rec B rfl rfl rfl) rfl ?_ ?_ ?_ ?_ rfl ?_ rfl rfl rfl
  · rintro (_ | ⟨c, _ | ⟨_, _⟩⟩) hl <;> simp at hl
    rfl
  · decide
  · intro x hx
    simp only [List.mem_cons, List.not_mem_nil, or_false] at hx
    rcases hx with rfl; exact .inl rfl
  · simp [isOwn]
  · intro A' L O h₀ rm
    obtain ⟨k, hk⟩ : ∃ k, k = nd x 1 := ⟨_, rfl⟩
    have k7 : k ≤ 7 := by
      rw [hk]; unfold nd
      have := bits_le (a := (x : Int)) (k := 7) (by simpa using hx)
      simpa using this
    have hxk : x < 2 ^ (1 * k) := hk ▸ nd_lt (Nat.le_refl 1)
    have c1 := int2digits_fn (prog := prog) B x 1 (by omega) ⟨Nat.le_refl 1, by decide⟩
    rw [← hk] at c1
    have e2 : dg 1 k x ++ (List.replicate (7 - (k : Int)).toNat [(0 : Int)]).flatten = dg 1 7 x := by
      rw [rep_flat0, show (7 - (k : Int)).toNat = 7 - k from by omega, dg_pad _ hxk, show k + (7 - k) = 7 from by omega]
    refine Sx_cons (sA (eF B rm (eL2 B.no eN Ev_int) c1) rfl) (Sx_cons (sA (v' := .li (dg 1 7 x)) (Ev_bin B.no eN (Ev_bin B.no (Ev_listI (ns := [0]) B.no (eL1 B.no Ev_int) (by decide)) (Ev_bin B.no Ev_int (Ev.eqv (eB B (eL1 B.no eN) (Bi_lenI ?_)) ?_) Bin_sub) (Bin_mulL ?_ ?_ ?_)) (Bin_addL ?_)) (congrArg AV.li e2))
      (sR (Ev_compS (f := fun v => Txt.item (Str.ofString "ab") (iOf v)) B.no rm.hd (comp_ok []) eN rfl ?_ ?_ (fun _ => rfl)) ?_))
    · rw [dg_length]; omega
    · rw [dg_length]
    · omega
    · omega
    · simp; omega
    · rw [dg_length, rep_flat0]; simp; unfold sizeLine; omega
    · rw [List.length_map, dg_length]; decide
    · intro a ha cell
      obtain ⟨d, hd, rfl⟩ := List.mem_map.mp ha
      have := dg_bit 7 x d hd
      exact Ev_sub B.no Ev_str eN (Sub_str (fun _ _ => rfl) this.1 this.2 (by show d < _; omega))
    · rw [List.map_map]; rfl

def xstep (r : List Nat) (x : Nat) : List Nat := if r.contains x then r else r ++ r.map (· ^^^ x)
def xors (ws : List Nat) : List Nat := ws.foldl xstep [0]
theorem xstep_len (r : List Nat) (x : Nat) : (xstep r x).length ≤ 2 * r.length := by
  unfold xstep; split
  · omega
  · simp; omega
theorem xors_snoc (ws : List Nat) (x : Nat) : xors (ws ++ [x]) = xstep (xors ws) x := by simp [xors]
theorem xfold_len : ∀ (ws : List Nat) (r : List Nat), (ws.foldl xstep r).length ≤ 2 ^ ws.length * r.length
  | [], r => by simp
  | x :: ws, r => by
    have h1 := xfold_len ws (xstep r x)
    have h2 := xstep_len r x
    simp only [List.foldl_cons, List.length_cons, Nat.pow_succ]
    refine Nat.le_trans h1 ?_
    rw [Nat.mul_assoc]
    exact Nat.mul_le_mul_left _ h2
theorem xors_len {ws : List Nat} (h : ws.length ≤ 7) : (xors ws).length ≤ 128 := by
  refine Nat.le_trans (xfold_len ws [0]) ?_
  simp only [List.length_singleton, Nat.mul_one]
  exact Nat.pow_le_pow_right (by decide) h
theorem ci_any (r : List Nat) (x : Nat) : (ci r).any (· == (x : Int)) = r.contains x := by
  induction r with
  | nil => rfl
  | cons d r ih =>
    rw [List.contains_cons, ← ih]
    show (((d : Int) == (x : Int)) || (ci r).any (· == (x : Int))) = _
    congr 1
    by_cases h : d = x
    · subst h; simp
    · have h1 : ((d : Int) == (x : Int)) = false := by simpa using (fun q : (d : Int) = x => h (by omega))
      have h2 : (x == d) = false := by simpa using Ne.symm h
      rw [h1, h2]

theorem xors_fn (B : Bs (KK w) hb mg mb) (ws : List Nat) (hl : ws.length ≤ 7) : Fn prog w hb 112 true 1 [.li (ci ws)] (.li (ci (xors ws))) := by
  refine Fn_intro B (f := 112) (ps := [Str.ofString "weights"]) rfl rfl (code_rec B rfl rfl rfl) rfl ?_ ?_ ?_ ?_ rfl ?_ rfl rfl rfl
  · rintro (_ | ⟨c, _ | ⟨_, _⟩⟩) hl <;> simp at hl
    rfl
  · decide
  · intro x hx
    simp only [List.mem_cons, List.not_mem_nil, or_false] at hx
    rcases hx with rfl; exact .inl rfl
  · simp [isOwn]
  · intro A' L O h₀ rm
    refine Sx_cons (sA (Ev_listI (ns := [0]) B.no (eL1 B.no Ev_int) (by decide)) rfl) (Sx_cons (S_for (It_of B.no rm.hd eN rfl ?_) (.inr ⟨rfl, rfl⟩) (fun i => [(Str.ofString "reached", .li (ci (xors (ws.take i))))]) (fun x v => Knows.get (by exact ⟨rfl, trivial⟩)) ws.length ?_ _ ?_ (.inl ⟨?_, rfl⟩) (fun _ => rfl)) (sR eN ?_))
    · rw [List.length_map, ci_len]; omega
    · rw [List.length_map, ci_len]; exact Nat.le_refl _
    · intro i it hi ei
      obtain ⟨x, hxi⟩ : ∃ x, ws[i]? = some x := ⟨_, List.getElem?_eq_getElem hi⟩
      have et : ws.take (i + 1) = ws.take i ++ [x] := by rw [List.take_add_one, hxi]; rfl
      rw [List.getElem?_map, ci_get hxi] at ei
      cases ei
      have hz := xors_len (ws := ws.take i) (by simp; omega)
      rw [et, xors_snoc]
      generalize xors (ws.take i) = r at hz
      refine Sx_cons (S_if (b := !r.contains x) (Tr.eqv (Tr_cmp B.no eN eN Cmp_notinI rfl) (by rw [ci_any])) ?_ ?_) Sx_nil
      · intro hc
        have e1 : xstep r x = r ++ r.map (· ^^^ x) := by unfold xstep; rw [if_neg (by simpa using hc)]
        rw [e1]
        refine Sx_post (Sx_cons (sA (v' := .li (ci (r ++ r.map (· ^^^ x)))) (Ev_bin B.no eN (Ev_compI (f := fun v => Builtin.bitXor (iOf v) x) B.no rm.hd (comp_ok [(Str.ofString "weight", L + 1)]) eN rfl ?_ ?_ (fun _ => rfl)) (Bin_addL ?_)) ?_) Sx_nil) (by exact ⟨rfl, trivial⟩)
        · rw [List.length_map, ci_len]; unfold sizeLine; omega
        · intro a ha cell
          obtain ⟨d, hd, rfl⟩ := List.mem_map.mp ha
          exact Ev_bin B.no eN eN Bin_xor
        · simp only [List.length_map, ci_len]; unfold sizeLine; omega
        · simp only [ci, List.map_append, List.map_map]
          congr 2
          apply List.map_congr_left
          intro d _
          exact bitXor_nat d x
      · intro hc
        have e1 : xstep r x = r := by unfold xstep; rw [if_pos (by simpa using hc)]
        rw [e1]
        exact Sx_post Sx_nil (by exact ⟨rfl, trivial⟩)
    · rw [List.length_map, ci_len]
    · rw [List.take_length]
end Mine
end

section
set_option maxRecDepth 100000
set_option linter.unusedVariables false
namespace Mine
open PySem PySem.W PySem.Calls PyProof.Rows
variable {prog : Program} {w : World} {hb h₀ : Heap} {mg mb : Str → Option Value} {K : Frag} {A : Around} {env : Env} {α β : Al} {O : Addr → Prop} {a : Option Addr}

def floop (got : Str) (e : Nat) : List Str → Nat → Bool
  | [], _ => true
  | x :: ws, s => if find4 got x s e < 0 then false else floop got e ws ((find4 got x s e).toNat + x.length)

def Turn (got : Str) (e : Nat) (ws : List Str) (f : Nat → Nat) (i : Nat) : Prop := ∃ x, ws[i]? = some x ∧ 0 ≤ find4 got x (f i) e ∧ f (i + 1) = (find4 got x (f i) e).toNat + x.length
theorem floop_runs (got : Str) (e : Nat) : ∀ (ws : List Str) (s : Nat), ∃ (f : Nat → Nat) (j : Nat), f 0 = s ∧ j ≤ ws.length ∧ (∀ i, i < j → Turn got e ws f i) ∧
    ((j = ws.length ∧ floop got e ws s = true) ∨ (∃ x, ws[j]? = some x ∧ find4 got x (f j) e < 0 ∧ floop got e ws s = false))
  | [], s => ⟨fun _ => s, 0, rfl, Nat.le_refl _, fun i hi => absurd hi (Nat.not_lt_zero _), .inl ⟨rfl, rfl⟩⟩
  | x :: ws, s => by
    by_cases hx : find4 got x s e < 0
    · exact ⟨fun _ => s, 0, rfl, Nat.zero_le _, fun i hi => absurd hi (Nat.not_lt_zero _), .inr ⟨x, rfl, hx, by simp [floop, hx]⟩⟩
    · obtain ⟨f, j, f0, hj, ht, hl⟩ := floop_runs got e ws ((find4 got x s e).toNat + x.length)
      refine ⟨fun i => match i with | 0 => s | i + 1 => f i, j + 1, rfl, by simpa using hj, ?_, ?_⟩
      · intro i hi
        cases i with
        | zero => exact ⟨x, rfl, by show 0 ≤ find4 got x s e; omega, f0⟩
        | succ i => obtain ⟨y, h1, h2, h3⟩ := ht i (by omega); exact ⟨y, by simpa using h1, h2, h3⟩
      · rcases hl with ⟨h1, h2⟩ | ⟨y, h1, h2, h3⟩
        · exact .inl ⟨by simp [h1], by simp [floop, hx, h2]⟩
        · exact .inr ⟨y, by simpa using h1, h2, by simp [floop, hx, h3]⟩

def mark : Str := Str.ofString "..."
def emF (got w0 : Str) (mids : List Str) (wl : Str) : Bool :=
  if w0.length ≠ 0 ∧ Txt.startswith got w0 = false then false
  else if Txt.endswith got wl = false then false
  else if w0.length > got.length - wl.length then false
  else floop got (got.length - wl.length) ((if w0.length = 0 then [w0] else []) ++ mids) w0.length

theorem em_plain (B : Bs (KK w) hb mg mb) (want got : Str) (hc : Txt.contains want mark = false) : Fn prog w hb 80 true 2 [.str want, .str got] (.bool (want.cps.toList == got.cps.toList)) := by
  refine Fn_intro B (f := 80) (ps := [Str.ofString "want", Str.ofString "got"]) rfl rfl (code_rec B rfl rfl rfl) rfl ?_ ?_ ?_ ?_ rfl ?_ rfl rfl rfl
  · rintro (_ | ⟨c, _ | ⟨d, _ | ⟨_, _⟩⟩⟩) hl <;> simp at hl
    rfl
  · decide
  · intro x hx
    simp only [List.mem_cons, List.not_mem_nil, or_false] at hx
    rcases hx with rfl | rfl <;> exact .inl rfl
  · simp [isOwn]
  · intro A' L O h₀ rm
    exact Sx_ret (S_if (b := true) (Tr.eqv (Tr_cmp B.no (Ev_glob (v := .str mark) B rfl rfl (fun _ _ => ⟨_, rfl⟩) rfl) eN Cmp_notinS rfl) (by rw [hc]; rfl)) (fun _ => sR (Ev_cmp B.no eN eN Cmp_eqS rfl) rfl) nofun)

theorem em_fn (B : Bs (KK w) hb mg mb) (want got w0 wl : Str) (mids : List Str) (hc : Txt.contains want mark = true) (hs : Txt.split want mark = w0 :: (mids ++ [wl])) (hwl : wl.length ≠ 0) (hw : want.length ≤ 1000) (hg : got.length ≤ 1000)
    (hlen : ∀ x ∈ w0 :: (mids ++ [wl]), x.length ≤ 1000) (hm : mids.length ≤ 1000)
    (hn : (Builtin.Str.partsBetween want (Builtin.Str.occurrences want mark 0 want.length (want.length + 1)) mark.length).length ≤ sizeLine) :
    Fn prog w hb 80 true 2 [.str want, .str got] (.bool (emF got w0 mids wl)) := by
  refine Fn_intro B (f := 80) (ps := [Str.ofString "want", Str.ofString "got"]) rfl rfl (code_rec B rfl rfl rfl) rfl ?_ ?_ ?_ ?_ rfl ?_ rfl rfl rfl
  · rintro (_ | ⟨c, _ | ⟨d, _ | ⟨_, _⟩⟩⟩) hl <;> simp at hl
    rfl
  · decide
  · intro x hx
    simp only [List.mem_cons, List.not_mem_nil, or_false] at hx
    rcases hx with rfl | rfl <;> exact .inl rfl
  · simp [isOwn]
  · intro A' L O h₀ rm
    have l0 := hlen w0 (.head _)
    have ll := hlen wl (by simp)
    refine Sx_cons (S_if (b := false) (Tr.eqv (Tr_cmp B.no (Ev_glob (v := .str mark) B rfl rfl (fun _ _ => ⟨_, rfl⟩) rfl) eN Cmp_notinS rfl) (by rw [hc]; rfl)) nofun (fun _ => Sx_nil))
      (Sx_ownSplit B.no ?_ eN (Ev_glob (v := .str mark) B rfl rfl (fun _ _ => ⟨_, rfl⟩) rfl) rfl (by unfold sizeLine; omega) hn (fun b => ?_))
    · intro y u e
      exact AllB.get (P := fun p => isOwn p.2 = false) (β := [(Str.ofString "want", .str want), (Str.ofString "got", .str got)]) ⟨rfl, rfl, trivial⟩ e
    rw [hs]
    refine Sx_cons (S_assert (Tr.eqv (Tr_cmp B.no (eB B (eL1 B.no eN) (Bi_lenO ?_)) Ev_int Cmp_ge rfl) ?_)) (Sx_cons (S_two_swapped rm.hd (Ev_tuple (ns := [0, (got.length : Int)]) (eL2 B.no Ev_int (eB B (eL1 B.no eN) (Bi_lenT ?_))) (by show 2 ≤ sizeLine; decide)) rfl rfl rfl rfl)
      (Sx_cons (sA (Ev_sub B.no eN Ev_int (Sub_ol (n := w0) (fun _ _ => rfl) (by decide) rfl (by decide))) rfl) ?_))
    · simp; omega
    · simp; omega
    · omega
    · have ws_len : ∀ ws1 : List Str, (ws1 = w0 :: (mids ++ [wl]) ∨ ws1 = mids ++ [wl]) → ws1.length ≤ 1002 := by
        rintro ws1 (rfl | rfl) <;> simp <;> omega
      by_cases hbad : w0.length ≠ 0 ∧ Txt.startswith got w0 = false
      · have e1 : emF got w0 mids wl = false := by unfold emF; rw [if_pos hbad]
        rw [e1]
        exact Sx_ret (S_if (b := true) (Tr.eqv (Tr_str eN (by unfold sizeLine; omega)) (by simpa using hbad.1)) (fun _ => Sx_ret (S_if (b := false) (Tr.eqv (Tr_bool (eM B.no PySem.F.plainAttrs_str PySem.F.slot_str_startswith PySem.F.type_str_startswith isT_str eN (eL1 B.no eN) Bi_startswith) rfl) hbad.2) nofun (fun _ => sR Ev_bool rfl))) nofun)
      obtain ⟨ws1, hws1⟩ : ∃ ws1, ws1 = (if w0.length = 0 then [w0] else []) ++ (mids ++ [wl]) := ⟨_, rfl⟩
      have hl1 : ws1.length ≤ 1002 := by rw [hws1]; split <;> simp <;> omega
      refine Sx_cons (α' := [(Str.ofString "ws", .ol ws1), (Str.ofString "startpos", .int w0.length), (Str.ofString "endpos", .int got.length), (Str.ofString "got", .str got)]) ?_ ?_
      · by_cases hz : w0.length = 0
        · rw [hws1, if_pos hz, hz]
          exact S_if (b := false) (Tr.eqv (Tr_str eN (by unfold sizeLine; omega)) (by simp [hz])) nofun (fun _ => Sx_post Sx_nil (by exact ⟨rfl, rfl, rfl, rfl, trivial⟩))
        · have hst : Txt.startswith got w0 = true := by
            cases q : Txt.startswith got w0 with
            | true => rfl
            | false => exact absurd ⟨hz, q⟩ hbad
          rw [hws1, if_neg hz]
          refine S_if (b := true) (Tr.eqv (Tr_str eN (by unfold sizeLine; omega)) (by simpa using hz)) (fun _ => Sx_cons (S_if (b := true) (Tr.eqv (Tr_bool (eM B.no PySem.F.plainAttrs_str PySem.F.slot_str_startswith PySem.F.type_str_startswith isT_str eN (eL1 B.no eN) Bi_startswith) rfl) hst)
            (fun _ => Sx_post (Sx_cons (sA (eB B (eL1 B.no eN) (Bi_lenT ?_)) rfl) (Sx_cons (S_del (k := 0) rfl Ev_int rfl ?_ ?_) Sx_nil)) (by exact ⟨rfl, rfl, rfl, rfl, trivial⟩)) nofun) Sx_nil) nofun
          · omega
          · simp [seqIndex?]; omega
          · simp; unfold sizeLine; omega
      have hlast : ws1[ws1.length - 1]? = some wl := by rw [hws1]; simp
      refine Sx_cons (sA (Ev_sub B.no eN (Ev_neg Ev_int) (Sub_ol_last (n := wl) (fun _ _ => rfl) hlast)) rfl) ?_
      by_cases hbad2 : Txt.endswith got wl = false
      · have e1 : emF got w0 mids wl = false := by unfold emF; rw [if_neg hbad, if_pos hbad2]
        rw [e1]
        exact Sx_ret (S_if (b := true) (Tr.eqv (Tr_str eN (by unfold sizeLine; omega)) (by simpa using hwl)) (fun _ => Sx_ret (S_if (b := false) (Tr.eqv (Tr_bool (eM B.no PySem.F.plainAttrs_str PySem.F.slot_str_endswith PySem.F.type_str_endswith isT_str eN (eL1 B.no eN) Bi_endswith) rfl) hbad2) nofun (fun _ => sR Ev_bool rfl))) nofun)
      have hen : Txt.endswith got wl = true := by
        cases q : Txt.endswith got wl with
        | true => rfl
        | false => exact absurd q hbad2
      have hle : wl.length ≤ got.length := by
        unfold Txt.endswith at hen
        simp at hen; exact hen.1
      obtain ⟨ws2, hws2⟩ : ∃ ws2, ws2 = (if w0.length = 0 then [w0] else []) ++ mids := ⟨_, rfl⟩
      have h12 : ws1 = ws2 ++ [wl] := by rw [hws1, hws2, List.append_assoc]
      have hdel : ws1.eraseIdx (ws1.length - 1) = ws2 := by rw [h12]; simp [List.eraseIdx_append_of_length_le]
      refine Sx_cons (α' := [(Str.ofString "ws", .ol ws2), (Str.ofString "startpos", .int w0.length), (Str.ofString "endpos", .int ((got.length - wl.length : Nat) : Int)), (Str.ofString "got", .str got)]) ?_ ?_
      · have ek : ((got.length : Int) - (wl.length : Int)) = ((got.length - wl.length : Nat) : Int) := by omega
        rw [← hdel, ← ek]
        refine S_if (b := true) (Tr.eqv (Tr_str eN (by unfold sizeLine; omega)) (by simpa using hwl)) (fun _ => Sx_cons (S_if (b := true) (Tr.eqv (Tr_bool (eM B.no PySem.F.plainAttrs_str PySem.F.slot_str_endswith PySem.F.type_str_endswith isT_str eN (eL1 B.no eN) Bi_endswith) rfl) hen)
            (fun _ => Sx_post (Sx_cons (S_aug rfl rfl (eB B (eL1 B.no eN) (Bi_lenT ?_)) (fun s t u Q E h => PyProof.Rows.isub_int h) (.inl rfl)) (Sx_cons (S_del (k := ws1.length - 1) rfl (Ev_neg Ev_int) rfl ?_ ?_) Sx_nil)) (by exact ⟨rfl, rfl, rfl, rfl, trivial⟩)) nofun) Sx_nil) nofun
        · omega
        · have : 1 ≤ ws1.length := by rw [h12]; simp
          unfold seqIndex?
          simp; omega
        · unfold sizeLine; omega
      by_cases hbad3 : w0.length > got.length - wl.length
      · have e1 : emF got w0 mids wl = false := by unfold emF; rw [if_neg hbad, if_neg hbad2, if_pos hbad3]
        rw [e1]
        exact Sx_ret (S_if (b := true) (Tr.eqv (Tr_cmp B.no eN eN Cmp_gt rfl) (by simp; omega)) (fun _ => sR Ev_bool rfl) nofun)
      have e1 : emF got w0 mids wl = floop got (got.length - wl.length) ws2 w0.length := by unfold emF; rw [if_neg hbad, if_neg hbad2, if_neg hbad3, hws2]
      rw [e1]
      refine Sx_cons (S_if (b := false) (Tr.eqv (Tr_cmp B.no eN eN Cmp_gt rfl) (by simp; omega)) nofun (fun _ => Sx_nil)) ?_
      have hl2 : ws2.length ≤ 1002 := by rw [h12] at hl1; simp at hl1; omega
      have hx2 : ∀ x ∈ ws2, x.length ≤ 1000 := fun x hx => hlen x (by
        rw [hws2] at hx
        rcases List.mem_append.mp hx with hx | hx
        · split at hx
          · rw [List.mem_singleton.mp hx]; exact .head _
          · cases hx
        · exact .tail _ (List.mem_append_left _ hx))
      generalize got.length - wl.length = e
      refine Sx_freezeS (x := Str.ofString "ws") rfl ?_
      obtain ⟨f, j, f0, hj, ht, hl⟩ := floop_runs got e ws2 w0.length
      rw [← f0]
      refine Sx_for (It_of B.no rm.hd eN rfl ?_) (fun i => [(Str.ofString "startpos", .int (f i)), (Str.ofString "endpos", .int e), (Str.ofString "got", .str got)]) (by exact ⟨rfl, rfl, rfl, trivial⟩) j ?_ ?_ ?_
      · rw [List.length_map]; omega
      · rw [List.length_map]; exact hj
      · intro i it hi ei
        obtain ⟨x, hx, hp, hf⟩ := ht i hi
        rw [List.getElem?_map, hx] at ei
        cases ei
        have hx' := hx2 x (List.mem_of_getElem? hx)
        rw [hf]
        refine Sx_post (Sx_cons (sA (v' := .int ((find4 got x (f i) e).toNat : Nat)) (eM B.no PySem.F.plainAttrs_str PySem.F.slot_str_find PySem.F.type_str_find isT_str eN (eL3 B.no eN eN eN) Bi_find4) ?_) (Sx_cons (S_if (b := false) (Tr.eqv (Tr_cmp B.no eN Ev_int Cmp_lt rfl) ?_) nofun (fun _ => Sx_nil)) (Sx_cons (S_aug rfl rfl (eB B (eL1 B.no eN) (Bi_lenT ?_)) (fun s t u Q E h => PyProof.Rows.iadd_int h) (.inl rfl)) Sx_nil))) (by exact ⟨rfl, rfl, rfl, trivial⟩)
        · congr 1; omega
        · simp; omega
        · omega
      · rcases hl with ⟨h1, h2⟩ | ⟨x, hx, hp, h2⟩
        · rw [f0, h2]
          exact .inl ⟨by rw [List.length_map]; exact h1, sR Ev_bool rfl⟩
        · rw [f0, h2]
          refine .inr ⟨.str x, by rw [List.getElem?_map, hx]; rfl, Sx_cons (sA (eM B.no PySem.F.plainAttrs_str PySem.F.slot_str_find PySem.F.type_str_find isT_str eN (eL3 B.no eN eN eN) Bi_find4) rfl) (Sx_ret (S_if (b := true) (Tr.eqv (Tr_cmp B.no eN Ev_int Cmp_lt rfl) ?_) (fun _ => sR Ev_bool rfl) nofun))⟩
          simpa using hp
end Mine
end

section
set_option maxRecDepth 100000
set_option linter.unusedVariables false
namespace Mine
open PySem PySem.Sre
theorem lit_acc {code : Array Nat} {i c : Nat} {sn : Seen} (h : ops[code.getD i 0]? = some .LITERAL) : accepts code i c sn = .ok (c == code.getD (i + 1) 0, sn) := by
  unfold accepts; rw [h]
theorem lit_width {code : Array Nat} {i : Nat} (h : ops[code.getD i 0]? = some .LITERAL) : itemWidth code i = 2 := by
  unfold itemWidth; rw [h]
/-- one step at a literal -/
theorem step_lit {m : M} (h1 : m.outcome = none) (h2 : m.answer = none) (h3 : m.pc < m.code.size) (h4 : ops[m.code.getD m.pc 0]? = some .LITERAL) :
    m.step = if m.pos < m.lim ∧ m.text.getD m.pos 0 = m.code.getD (m.pc + 1) 0 then { m with seen := m.seen.add (m.code.getD m.pc 0), pc := m.pc + 2, pos := m.pos + 1 } else { m with seen := m.seen.add (m.code.getD m.pc 0), answer := some false } := by
  obtain ⟨code, text, lim, start, ls, wt, ma, pc, pos, hd, om, mk, lm, li, lp, inn, fr, we, an, sn, oc⟩ := m
  simp only at h1 h2 h3 h4
  subst h1 h2
  unfold M.step
  simp only [Option.isSome_none, Bool.false_eq_true, if_false, h3, if_true]
  unfold M.exec M.word
  simp only [Nat.add_zero, h4]
  by_cases hl : pos < lim
  · rw [if_neg (by omega), lit_acc h4]
    cases hc : (text.getD pos 0 == code.getD (pc + 1) 0) with
    | true => simp only [lit_width h4]; rw [if_pos ⟨hl, by simpa using hc⟩]
    | false => simp only; rw [if_neg (fun q => by simp [q.2] at hc)]; rfl
  · rw [if_pos (by omega), if_neg (fun q => hl q.1)]; rfl
def code1 : Array Nat := #[14, 4, 0, 1, 1, 6, 1, 16, 46, 1]
def P1 (text : Array Nat) (lim s : Nat) (fst : Bool) (sn : Seen) : M :=
  { code := code1, text, lim, start := s, lastStart := lim, pc := 5, pos := s, handed := s, outermost := fst, marks := #[], frames := [{ wait := .nextStart, pc := 5, pos := s, outermost := fst }], weight := 1, seen := sn }
section
variable {text : Array Nat} {lim s : Nat} {fst : Bool} {sn : Seen}
theorem p1_at : M.step (P1 text lim s fst sn) = (if (s == 0 || text.getD (s - 1) 0 == 10) = true then { P1 text lim s fst sn with pc := 7, seen := (sn.add 6).add 44 } else { P1 text lim s fst sn with seen := (sn.add 6).add 44, answer := some false }) := rfl
/-- a full stop that begins a line -/
def Dot (text : Array Nat) (lim s : Nat) : Prop := (s = 0 ∨ text.getD (s - 1) 0 = 10) ∧ s < lim ∧ text.getD s 0 = 46

theorem run_step {m : M} {n : Nat} (h : m.outcome = none) : M.runFor (n + 1) m = M.runFor n m.step := by
  rw [M.runFor, h]; rfl
theorem p1_hit (h : Dot text lim s) : ∃ m', M.runFor 5 (P1 text lim s fst sn) = m' ∧ m'.outcome = some .matched ∧ m'.start = s ∧ m'.handed = s + 1 := by
  obtain ⟨h1, h2, h3⟩ := h
  have ha : (s == 0 || text.getD (s - 1) 0 == 10) = true := by
    rcases h1 with h1 | h1
    · simp [h1]
    · rw [h1]; simp
  refine ⟨_, rfl, ?_⟩
  rw [run_step rfl, p1_at, if_pos ha, run_step rfl, step_lit rfl rfl (by show 7 < 10; decide) rfl, if_pos ⟨h2, h3⟩]
  cases fst <;> exact ⟨rfl, rfl, rfl⟩
theorem p1_no {m : M} (hm : m = { P1 text lim s fst sn with pc := m.pc, seen := m.seen, answer := some false }) (hl : s < lim) : ∃ sn', M.runFor 1 m = P1 text lim (s + 1) false sn' := by
  rw [hm]
  refine ⟨m.seen, ?_⟩
  rw [run_step rfl]
  show M.runFor 0 (M.step _) = _
  unfold M.runFor M.step M.resume
  simp only [P1, Option.isSome_none, Bool.false_eq_true, if_false]
  simp only [hl, if_true]
  rfl
theorem p1_miss (h : ¬ Dot text lim s) (hl : s < lim) : ∃ k sn', k ≤ 3 ∧ M.runFor k (P1 text lim s fst sn) = P1 text lim (s + 1) false sn' := by
  by_cases ha : (s == 0 || text.getD (s - 1) 0 == 10) = true
  · have hc : ¬ (s < lim ∧ text.getD s 0 = 46) := fun q => h ⟨by
      rcases Bool.or_eq_true _ _ ▸ ha with q | q
      · exact .inl (by simpa using q)
      · exact .inr (beq_iff_eq.mp q), q⟩
    obtain ⟨sn', e⟩ := p1_no (text := text) (lim := lim) (s := s) (fst := fst) (sn := sn) (m := { P1 text lim s fst sn with pc := 7, seen := ((sn.add 6).add 44).add 16, answer := some false }) rfl hl
    refine ⟨3, sn', Nat.le_refl _, ?_⟩
    rw [run_step rfl, p1_at, if_pos ha, run_step rfl, step_lit rfl rfl (by show 7 < 10; decide) rfl, if_neg (fun q => hc ⟨q.1, q.2⟩)]
    exact e
  · obtain ⟨sn', e⟩ := p1_no (text := text) (lim := lim) (s := s) (fst := fst) (sn := sn) (m := { P1 text lim s fst sn with seen := (sn.add 6).add 44, answer := some false }) rfl hl
    refine ⟨2, sn', by omega, ?_⟩
    rw [run_step rfl, p1_at, if_neg ha]
    exact e
theorem p1_end : ∃ k m', k ≤ 4 ∧ M.runFor k (P1 text lim lim fst sn) = m' ∧ m'.outcome = some .failed := by
  by_cases ha : (lim == 0 || text.getD (lim - 1) 0 == 10) = true
  · refine ⟨4, _, Nat.le_refl _, rfl, ?_⟩
    rw [run_step rfl, p1_at, if_pos ha, run_step rfl, step_lit rfl rfl (by show 7 < 10; decide) rfl, if_neg (fun q => Nat.lt_irrefl _ q.1), run_step rfl]
    unfold M.step M.resume
    simp only [P1, Option.isSome_none, Bool.false_eq_true, if_false, Nat.lt_irrefl]
    rfl
  · refine ⟨3, _, by omega, rfl, ?_⟩
    rw [run_step rfl, p1_at, if_neg ha, run_step rfl]
    unfold M.step M.resume
    simp only [P1, Option.isSome_none, Bool.false_eq_true, if_false, Nat.lt_irrefl]
    rfl
end
end Mine
end

section
set_option maxRecDepth 100000
set_option linter.unusedVariables false
namespace Mine
open PySem PySem.Sre
theorem run_done {m : M} (h : m.outcome.isSome = true) : ∀ n, M.runFor n m = m
  | 0 => rfl
  | n + 1 => by rw [M.runFor, if_pos h]
theorem run_add : ∀ (a b : Nat) (m : M), M.runFor (a + b) m = M.runFor b (M.runFor a m)
  | 0, b, m => by rw [Nat.zero_add]; rfl
  | a + 1, b, m => by
    rw [show a + 1 + b = (a + b) + 1 from by omega]
    by_cases h : m.outcome.isSome = true
    · rw [run_done h, run_done h, run_done h]
    · rw [M.runFor, if_neg h, M.runFor, if_neg h, run_add a b]
section
variable {text : Array Nat} {lim s : Nat} {fst : Bool} {sn : Seen}
/-- what a search comes to -/
def Found (P : Nat → Prop) (s : Nat) (m' : M) : Prop :=
  (∃ p, s ≤ p ∧ P p ∧ (∀ q, s ≤ q → q < p → ¬ P q) ∧ m'.outcome = some .matched ∧ m'.start = p ∧ m'.handed = p + 1) ∨ ((∀ q, s ≤ q → ¬ P q) ∧ m'.outcome = some .failed)
theorem p1_search : ∀ (d s : Nat) (fst : Bool) (sn : Seen), s + d = lim → ∃ k m', k ≤ 3 * d + 5 ∧ M.runFor k (P1 text lim s fst sn) = m' ∧ Found (Dot text lim) s m'
  | 0, s, fst, sn, h => by
    have : s = lim := by omega
    subst this
    obtain ⟨k, m', hk, e, ho⟩ := p1_end (text := text) (lim := s) (fst := fst) (sn := sn)
    exact ⟨k, m', by omega, e, .inr ⟨fun q hq hd => by have := hd.2.1; omega, ho⟩⟩
  | d + 1, s, fst, sn, h => by
    by_cases hd : Dot text lim s
    · obtain ⟨m', e, h1, h2, h3⟩ := p1_hit (fst := fst) (sn := sn) hd
      exact ⟨5, m', by omega, e, .inl ⟨s, Nat.le_refl _, hd, fun q h1 h2 => by omega, h1, h2, h3⟩⟩
    · obtain ⟨k, sn', hk, e⟩ := p1_miss (fst := fst) (sn := sn) hd (by omega)
      obtain ⟨k', m', hk', e', hf⟩ := p1_search d (s + 1) false sn' (by omega)
      refine ⟨k + k', m', by omega, by rw [run_add, e, e'], ?_⟩
      rcases hf with ⟨p, h1, h2, h3, h4⟩ | ⟨h1, h2⟩
      · refine .inl ⟨p, by omega, h2, fun q q1 q2 => ?_, h4⟩
        by_cases hq : q = s
        · exact hq ▸ hd
        · exact h3 q (by omega) q2
      · refine .inr ⟨fun q q1 => ?_, h2⟩
        by_cases hq : q = s
        · exact hq ▸ hd
        · exact h1 q (by omega)
theorem s1_search (hs : s ≤ lim) : ∃ k m', k ≤ 3 * lim + 5 ∧ M.runFor k (forSearch code1 text 0 s lim false) = m' ∧ Found (Dot text lim) s m' := by
  by_cases h : s = lim
  · subst h
    have e : forSearch code1 text 0 s s false = { P1 text s s true (({} : Seen).add 14) with lastStart := 0, frames := [], weight := 0, answer := some false } := by
      unfold forSearch
      rw [if_pos (by simp [header, code1, ops])]
      rfl
    refine ⟨1, _, by omega, rfl, .inr ⟨fun q hq hd => by have := hd.2.1; omega, ?_⟩⟩
    rw [e]; rfl
  · have e : forSearch code1 text 0 s lim false = P1 text lim s true (({} : Seen).add 14) := by
      unfold forSearch
      rw [if_neg (by simp [header, code1, ops]; omega)]
      rfl
    obtain ⟨k, m', hk, e', hf⟩ := p1_search (text := text) (lim := lim) (lim - s) s true (({} : Seen).add 14) (by omega)
    exact ⟨k, m', by omega, by rw [e, e'], hf⟩

def code2 : Array Nat := #[14, 9, 4, 1, 2, 16, 10, 16, 13, 0, 7, 7, 16, 13, 16, 10, 15, 18, 5, 16, 10, 15, 13, 11, 16, 13, 5, 5, 0, 16, 10, 1, 15, 2, 0, 1]
def P2 (text : Array Nat) (lim s : Nat) (fst : Bool) (sn : Seen) : M :=
  { code := code2, text, lim, start := s, lastStart := lim, pc := 10, pos := s, handed := s, outermost := fst, marks := #[], frames := [{ wait := .nextStart, pc := 10, pos := s, outermost := fst }], weight := 1, seen := sn }
def Z2 (text : Array Nat) (lim s : Nat) (om : Bool) (pc pos hd : Nat) (fr : List PySem.Sre.Frame) (we : Nat) (an : Option Bool) (sn : Seen) : M :=
  { code := code2, text, lim, start := s, lastStart := lim, pc, pos, handed := hd, outermost := om, marks := #[], frames := fr, weight := we, answer := an, seen := sn }
def F0 (s : Nat) (fst : Bool) : PySem.Sre.Frame := { wait := .nextStart, pc := 10, pos := s, outermost := fst }
def FB (s : Nat) (fst : Bool) (a : Nat) : PySem.Sre.Frame := { wait := .nextBranch, pc := a, pos := s, outermost := fst }
def FL (s : Nat) (fst : Bool) : PySem.Sre.Frame := { wait := .lookNot, pc := 26, pos := s + 1, outermost := fst }
variable {om : Bool} {pc pos hd we : Nat} {fr : List PySem.Sre.Frame} {an : Option Bool}
theorem z_branch : M.step (P2 text lim s fst sn) = Z2 text lim s fst 12 s s [FB s fst 11, F0 s fst] 2 none (sn.add 7) := rfl
theorem z_lit {c : Nat} (h1 : pc < 36) (h2 : code2.getD pc 0 = 16) (h3 : code2.getD (pc + 1) 0 = c) : M.step (Z2 text lim s om pc pos hd fr we none sn) =
    if pos < lim ∧ text.getD pos 0 = c then Z2 text lim s om (pc + 2) (pos + 1) hd fr we none (sn.add 16) else Z2 text lim s om pc pos hd fr we (some false) (sn.add 16) := by
  have := step_lit (m := Z2 text lim s om pc pos hd fr we none sn) rfl rfl h1 (by show ops[code2.getD pc 0]? = _; rw [h2]; rfl)
  rw [this]
  show (if pos < lim ∧ text.getD pos 0 = code2.getD (pc + 1) 0 then Z2 text lim s om (pc + 2) (pos + 1) hd fr we none (sn.add (code2.getD pc 0)) else Z2 text lim s om pc pos hd fr we (some false) (sn.add (code2.getD pc 0))) = _
  rw [h2, h3]
theorem z_r11 : M.step (Z2 text lim s om pc pos hd [FB s fst 11, F0 s fst] 2 (some false) sn) = Z2 text lim s fst 19 s s [FB s fst 18, F0 s fst] 2 none sn := rfl
theorem z_r18 : M.step (Z2 text lim s om pc pos hd [FB s fst 18, F0 s fst] 2 (some false) sn) = Z2 text lim s fst 24 s s [FB s fst 23, F0 s fst] 2 none sn := rfl
theorem z_not : M.step (Z2 text lim s fst 26 (s + 1) hd fr 2 none sn) = Z2 text lim s false 29 (s + 1) (s + 1) (FL s fst :: fr) 3 none (sn.add 5) := rfl
theorem z_rl : M.step (Z2 text lim s om pc pos hd (FL s fst :: fr) 3 (some false) sn) = Z2 text lim s fst 32 (s + 1) hd fr 2 none sn := rfl
theorem z_jump32 : M.step (Z2 text lim s om 32 pos hd fr we none sn) = Z2 text lim s om 35 pos hd fr we none (sn.add 15) := rfl
theorem z_jump21 : M.step (Z2 text lim s om 21 pos hd fr we none sn) = Z2 text lim s om 35 pos hd fr we none (sn.add 15) := rfl
theorem z_ok : M.step (Z2 text lim s om 35 pos hd fr we none sn) = Z2 text lim s om 35 pos pos fr we (some true) (sn.add 1) := by cases om <;> rfl
theorem z_rb {a : Nat} : M.step (Z2 text lim s om pc pos hd [FB s fst a, F0 s fst] 2 (some true) sn) = Z2 text lim s fst a s hd [F0 s fst] 1 (some true) sn := rfl
theorem z_rs : M.step (Z2 text lim s om pc pos hd [F0 s fst] 1 (some true) sn) = Z2 text lim s fst 10 s hd [] 0 (some true) sn := rfl
theorem z_run {n : Nat} : M.runFor (n + 1) (Z2 text lim s om pc pos hd fr we an sn) = M.runFor n (M.step (Z2 text lim s om pc pos hd fr we an sn)) := rfl
theorem p2_lf (hl : s < lim) (h : text.getD s 0 = 10) : ∃ m', M.runFor 9 (P2 text lim s fst sn) = m' ∧ m'.outcome = some .matched ∧ m'.start = s ∧ m'.handed = s + 1 := by
  refine ⟨_, rfl, ?_⟩
  rw [run_step rfl, z_branch, z_run, z_lit (c := 13) (by decide) rfl rfl, if_neg (fun q => by have := q.2; omega), z_run, z_r11, z_run, z_lit (c := 10) (by decide) rfl rfl, if_pos ⟨hl, h⟩, z_run, z_jump21, z_run, z_ok, z_run, z_rb, z_run, z_rs]
  exact ⟨rfl, rfl, rfl⟩
theorem p2_cr (hl : s < lim) (h : text.getD s 0 = 13) (hn : ¬ (s + 1 < lim ∧ text.getD (s + 1) 0 = 10)) : ∃ m', M.runFor 16 (P2 text lim s fst sn) = m' ∧ m'.outcome = some .matched ∧ m'.start = s ∧ m'.handed = s + 1 := by
  refine ⟨_, rfl, ?_⟩
  rw [run_step rfl, z_branch, z_run, z_lit (c := 13) (by decide) rfl rfl, if_pos ⟨hl, h⟩, z_run, z_lit (c := 10) (by decide) rfl rfl, if_neg hn, z_run, z_r11, z_run, z_lit (c := 10) (by decide) rfl rfl, if_neg (fun q => by have := q.2; omega),
    z_run, z_r18, z_run, z_lit (c := 13) (by decide) rfl rfl, if_pos ⟨hl, h⟩, z_run, z_not, z_run, z_lit (c := 10) (by decide) rfl rfl, if_neg hn, z_run, z_rl, z_run, z_jump32, z_run, z_ok, z_run, z_rb, z_run, z_rs]
  exact ⟨rfl, rfl, rfl⟩
end
end Mine
end

section
set_option maxRecDepth 100000
set_option linter.unusedVariables false
namespace Mine
open PySem PySem.Sre
section
variable {text : Array Nat} {lim s : Nat} {fst : Bool} {sn : Seen}
def Brk (text : Array Nat) (lim s : Nat) : Prop := s < lim ∧ (text.getD s 0 = 10 ∨ text.getD s 0 = 13)
def NoPair (text : Array Nat) (lim : Nat) : Prop := ∀ s, text.getD s 0 = 13 → ¬ (s + 1 < lim ∧ text.getD (s + 1) 0 = 10)
theorem set2 (c : Nat) (sn : Seen) : ∃ sn', inSet code2 c 36 5 true sn = .ok (c == 10 || c == 13, sn') := by
  by_cases h1 : c = 10
  · subst h1; exact ⟨_, rfl⟩
  · by_cases h2 : c = 13
    · subst h2; exact ⟨_, rfl⟩
    · have e1 : (c == 10) = false := by simpa using h1
      have e2 : (c == 13) = false := by simpa using h2
      rw [e1, e2]
      refine ⟨((sn.add 16).add 16).add 0, ?_⟩
      show (if (c == 10) = true then _ else _) = _
      rw [e1]
      show (if (c == 13) = true then _ else _) = _
      rw [e2]
      rfl
theorem adm2 {m : M} (hc : m.code = code2) : ∀ (fuel s : Nat) (sn : Seen), m.lim + 1 ≤ s + fuel → ∃ sn', (∃ p, s ≤ p ∧ Brk m.text m.lim p ∧ (∀ q, s ≤ q → q < p → ¬ Brk m.text m.lim q) ∧ M.admitted m fuel s sn = .ok (some p, sn')) ∨ ((∀ q, s ≤ q → ¬ Brk m.text m.lim q) ∧ M.admitted m fuel s sn = .ok (none, sn'))
  | 0, s, sn, h => ⟨sn, .inr ⟨fun q hq hb => by have := hb.1; omega, rfl⟩⟩
  | fuel + 1, s, sn, h => by
    rw [M.admitted]
    by_cases hs : s ≥ m.lim
    · rw [if_pos hs]
      exact ⟨sn, .inr ⟨fun q hq hb => by have := hb.1; omega, rfl⟩⟩
    · rw [if_neg hs]
      obtain ⟨sn', e⟩ := set2 (m.text.getD s 0) sn
      have e' : inSet m.code (m.text.getD s 0) m.code.size 5 true sn = .ok (m.text.getD s 0 == 10 || m.text.getD s 0 == 13, sn') := by rw [hc]; exact e
      rw [e']
      cases hb : (m.text.getD s 0 == 10 || m.text.getD s 0 == 13) with
      | true =>
        have : m.text.getD s 0 = 10 ∨ m.text.getD s 0 = 13 := by
          rcases Bool.or_eq_true _ _ ▸ hb with q | q
          · exact .inl (beq_iff_eq.mp q)
          · exact .inr (beq_iff_eq.mp q)
        exact ⟨sn', .inl ⟨s, Nat.le_refl _, ⟨by omega, this⟩, fun q q1 q2 => by omega, rfl⟩⟩
      | false =>
        have hn : ¬ Brk m.text m.lim s := fun q => by
          rcases q.2 with q | q <;> rw [q] at hb <;> simp at hb
        obtain ⟨sn2, hr⟩ := adm2 hc fuel (s + 1) sn' (by omega)
        refine ⟨sn2, ?_⟩
        rcases hr with ⟨p, h1, h2, h3, h4⟩ | ⟨h1, h2⟩
        · refine .inl ⟨p, by omega, h2, fun q q1 q2 => ?_, h4⟩
          by_cases hq : q = s
          · exact hq ▸ hn
          · exact h3 q (by omega) q2
        · refine .inr ⟨fun q q1 => ?_, h2⟩
          by_cases hq : q = s
          · exact hq ▸ hn
          · exact h1 q (by omega)
def B2 (text : Array Nat) (lim s : Nat) : M :=
  { code := code2, text, lim, start := s, lastStart := lim, pc := 10, pos := s, handed := s, marks := #[], seen := ({} : Seen).add 14 }
theorem s2_search (hs : s ≤ lim) (np : NoPair text lim) : ∃ k m', k ≤ 3 * lim + 16 ∧ M.runFor k (forSearch code2 text 0 s lim false) = m' ∧ Found (Brk text lim) s m' := by
  by_cases h : s = lim
  · subst h
    have e : forSearch code2 text 0 s s false = { B2 text s s with lastStart := 0, answer := some false } := by
      unfold forSearch
      rw [if_pos (by simp [header, code2, ops])]
      rfl
    refine ⟨1, _, by omega, rfl, .inr ⟨fun q hq hd => by have := hd.1; omega, ?_⟩⟩
    rw [e]; rfl
  · have e : forSearch code2 text 0 s lim false = (B2 text lim s).attemptFrom s true := by
      unfold forSearch
      rw [if_neg (by simp [header, code2, ops]; omega)]
      rfl
    obtain ⟨sn', hr⟩ := adm2 (m := B2 text lim s) rfl (lim + 1 - s) s (({} : Seen).add 14) (by show lim + 1 ≤ _; omega)
    have e2 : (B2 text lim s).attemptFrom s true = (match M.admitted (B2 text lim s) (lim + 1 - s) s (({} : Seen).add 14) with
      | .ok (some s', seen) => { B2 text lim s with mustAdvance := false, seen }.attemptAt s' true
      | .ok (none, seen) => { B2 text lim s with seen }.say false
      | .error why => (B2 text lim s).stick why) := rfl
    rcases hr with ⟨p, h1, h2, h3, h4⟩ | ⟨h1, h2⟩
    · have e3 : (B2 text lim s).attemptFrom s true = P2 text lim p true sn' := by rw [e2, h4]; rfl
      have key : ∃ k m', k ≤ 16 ∧ M.runFor k (P2 text lim p true sn') = m' ∧ m'.outcome = some .matched ∧ m'.start = p ∧ m'.handed = p + 1 := by
        rcases h2.2 with q | q
        · obtain ⟨m', a⟩ := p2_lf (fst := true) (sn := sn') h2.1 q; exact ⟨9, m', by omega, a⟩
        · obtain ⟨m', a⟩ := p2_cr (fst := true) (sn := sn') h2.1 q (np p q); exact ⟨16, m', by omega, a⟩
      obtain ⟨k, m', hk, a, b⟩ := key
      exact ⟨k, m', by omega, by rw [e, e3, a], .inl ⟨p, h1, h2, h3, b⟩⟩
    · have e3 : (B2 text lim s).attemptFrom s true = { B2 text lim s with seen := sn', answer := some false } := by rw [e2, h2]; rfl
      refine ⟨1, _, by omega, rfl, .inr ⟨h1, ?_⟩⟩
      rw [e, e3]; rfl
end
end Mine
end

section
set_option maxRecDepth 100000
set_option linter.unusedVariables false
namespace Mine
open PySem PySem.W PySem.Calls PyProof.Rows
open PySem.Builtin.Re
theorem pa_re : PlainAttrs "re.Pattern" :=
  ⟨⟨"object.__getattribute__", by rw [typeLookup_type, builtinLookup_eq_fast]; kernel_rfl, by decide +kernel⟩, by rw [typeLookup_type, builtinLookup_eq_fast]; kernel_rfl⟩
theorem slot_re : Slot "re.Pattern" "sub" "re.Pattern.sub" :=
  .of (owner := "re.Pattern") (n := "sub") (by rw [typeLookup_type, builtinLookup_eq_fast]; kernel_rfl) (by decide +kernel) (by decide +kernel) (by decide +kernel)
    (by first | exact .inl (by decide +kernel) | exact .inr (by decide +kernel)) (by rw [isSubtype_type]; kernel_rfl)
theorem type_re : typeOf (.builtin "re.Pattern.sub") = pure (.type "method_descriptor") := by show builtinType _ = _; rw [builtinType_eq_fast]; kernel_rfl
theorem entry_re : entryFor table "re.Pattern.sub" = some Builtin.«re.Pattern.sub» := entryFor_of_tree (by kernel_rfl)
theorem entry_loop : entryFor table "re.Pattern.sub.loop" = some Builtin.«re.Pattern.sub.loop» := entryFor_of_tree (by kernel_rfl)
theorem owner_re : Manifest.owners.lookup (String.ofList ['n', 'r', 'e', 't', 't', 'a', 'P', '.', 'e', 'r'].reverse) = some Manifest.sig_re_Pattern := by kernel_rfl
theorem args_re (a b c : Value) : argsOk "re.Pattern.sub" ⟨[a, b, c], []⟩ := by
  unfold argsOk; rw [signature?_of (id := "re.Pattern.sub") (n := ['b', 'u', 's']) (o := ['n', 'r', 'e', 't', 't', 'a', 'P', '.', 'e', 'r']) (by kernel_rfl) owner_re]; kernel_rfl
section
variable {prog : Program} {w : World} {A : Around} {E : Value → Shared → Prop} {s : Shared}
theorem drive_ok {Q : Sre.M → Shared → Prop} : ∀ (turns k : Nat) (m m' : Sre.M), Sre.M.runFor k m = m' → m'.outcome.isSome = true → k ≤ 4 * turns → 1 ≤ turns → Q m' s → wpAny (model prog w) A (reDrive turns m) Q E s
  | 0, k, m, m', e, ho, hk, h1, hq => by omega
  | turns + 1, k, m, m', e, ho, hk, h1, hq => by
    rw [reDrive]
    by_cases h : (m.runFor reTurnSteps).outcome.isSome = true
    · have e2 : m.runFor reTurnSteps = m' := by
        show Sre.M.runFor 4 m = m'
        have h' : (Sre.M.runFor 4 m).outcome.isSome = true := h
        by_cases hk4 : k ≤ 4
        · have : Sre.M.runFor 4 m = Sre.M.runFor (4 - k) (Sre.M.runFor k m) := by rw [← run_add]; congr 1; omega
          rw [this, e, run_done ho]
        · have : Sre.M.runFor k m = Sre.M.runFor (k - 4) (Sre.M.runFor 4 m) := by rw [← run_add]; congr 1; omega
          rw [← e, this, run_done h']
      simp only [h, if_true]
      rw [e2]; exact wpAny_pure hq
    · simp only [h, if_false, Bool.false_eq_true]
      have h' : ¬ (Sre.M.runFor 4 m).outcome.isSome = true := h
      have hk4 : ¬ k ≤ 4 := fun q => h' (by
        have : Sre.M.runFor 4 m = Sre.M.runFor (4 - k) (Sre.M.runFor k m) := by rw [← run_add]; congr 1; omega
        rw [this, e, run_done ho]; exact ho)
      have e3 : Sre.M.runFor (k - 4) (Sre.M.runFor 4 m) = m' := by rw [← run_add, ← e]; congr 1; omega
      refine wpAny_bind (wpAny_rule ?_)
      by_cases ht : turns = 0
      · omega
      · exact drive_ok turns (k - 4) (Sre.M.runFor 4 m) m' e3 ho (by omega) (by omega) hq
theorem rules_ok {m : Sre.M} {Q : PUnit → Shared → Prop} (l : List Nat) (h : Q ⟨⟩ s) : wpAny (model prog w) A (forIn l PUnit.unit fun i r => if m.seen.has i = true then (do rule (Sre.names.getD i ""); pure (ForInStep.yield PUnit.unit)) else pure (ForInStep.yield PUnit.unit)) Q E s := by
  refine wpAny_forIn_list _ (fun _ _ s' => s' = s) Q ?_ (fun b s' e => by subst e; exact h) l PUnit.unit rfl
  rintro x rest b s' rfl
  split
  · exact wpAny_bind (wpAny_rule (wpAny_pure rfl))
  · exact wpAny_pure rfl
theorem run_ok {m m' : Sre.M} {k : Nat} {Q : Option Sre.M → Shared → Prop} (e : Sre.M.runFor k m = m') (hk : k ≤ 2 ^ 60) (h : (m'.outcome = some .matched ∧ Q (some m') s) ∨ (m'.outcome = some .failed ∧ Q none s)) : wpAny (model prog w) A (reRunToEnd m) Q E s := by
  unfold reRunToEnd
  have ho : m'.outcome.isSome = true := by rcases h with ⟨h, _⟩ | ⟨h, _⟩ <;> rw [h] <;> rfl
  refine wpAny_bind (drive_ok (2 ^ 64) k m m' e ho (by omega) (by omega) ?_)
  refine wpAny_bind ?_
  refine wpAny_mono (rules_ok (m := m') (s := s) (E := E) (Q := fun _ s' => s' = s) _ rfl) (fun _ s' e => ?_) (fun _ _ x => x)
  subst e
  rcases h with ⟨h, hq⟩ | ⟨h, hq⟩
  · rw [h]; exact wpAny_pure hq
  · rw [h]; exact wpAny_pure hq
end
end Mine
end

section
set_option maxRecDepth 100000
set_option linter.unusedVariables false
namespace Mine
open PySem PySem.W PySem.Calls PyProof.Rows
open PySem.Builtin.Re
/-- a pattern's object in the heap -/
structure Pat (h : Heap) (p : Addr) (code : Array Nat) : Prop where
  o : ∃ o fs c oc its n t6 t2 g, h.get? p = some o ∧ o.cls = .type "re.Pattern" ∧ o.data = .fields fs ∧ fs.getD 5 .none = .ref c ∧ fs.getD 6 .none = .int 0 t6 ∧ fs.getD 2 .none = .int g t2 ∧ g = 0 ∧ h.get? c = some oc ∧ oc.cls = .type "tuple" ∧ oc.data = .seq its n ∧ (its.map reRawOf).map (·.toNat) = code
section
variable {prog : Program} {w : World} {A : Around} {E : Value → Shared → Prop} {s : Shared}
theorem target_ok {p : Addr} {code : Array Nat} {x : Str} {t : Tok} {Q : ReTarget → Shared → Prop} (hp : Pat s.heap p code)
    (h : Q { pattern := .ref p, string := .str x t, code, text := x.cps, kind := 0, groups := 0, pos := 0, lim := x.cps.size } s) : wpAny (model prog w) A (reWholeTarget (.ref p) (.str x t)) Q E s := by
  obtain ⟨o, fs, c, oc, its, n, t6, t2, g, e1, e0, e2, e3, e4, e5, rfl, e6, e8, e7, rfl⟩ := hp
  unfold reWholeTarget
  refine wpAny_bind (wpAny_fieldsOf e1 e2 ?_)
  refine wpAny_bind (wpAny_of_eq (a := (x.cps, 0)) rfl ?_)
  rw [e3, e4, e5]
  show wpAny (model prog w) A (do reNoCollectionInside (.str x t) 0; let l ← reRawItems (.ref c); pure { pattern := .ref p, string := .str x t, code := l.map (·.toNat), text := x.cps, kind := 0, groups := 0, pos := 0, lim := x.cps.size }) Q E s
  refine wpAny_bind (wpAny_pure ?_)
  unfold reRawItems
  refine wpAny_bind (wpAny_bind (wpAny_seqItems e6 e7 (wpAny_pure (wpAny_pure ?_))))
  exact h

open Classical in
/-- the text from d on, what P marks replaced -/
noncomputable def tr (P : Nat → Prop) (rp : List Nat) (text : Array Nat) (d n : Nat) : List Nat := (List.range' d n).flatMap fun i => if P i then rp else [text.getD i 0]
theorem tr_none {P : Nat → Prop} {rp : List Nat} {text : Array Nat} : ∀ {n d : Nat}, d + n ≤ text.size → (∀ q, d ≤ q → q < d + n → ¬ P q) → tr P rp text d n = (text.toList.drop d).take n
  | 0, d, _, _ => by simp [tr]
  | n + 1, d, hl, h => by
    have ih := tr_none (P := P) (rp := rp) (text := text) (n := n) (d := d + 1) (by omega) (fun q q1 q2 => h q (by omega) (by omega))
    unfold tr at ih ⊢
    rw [List.range'_succ, List.flatMap_cons, if_neg (h d (Nat.le_refl _) (by omega)), ih]
    rw [List.drop_eq_getElem_cons (i := d) (by simp; omega)]
    simp [Array.getD, show d < text.size from by omega]
theorem tr_at {P : Nat → Prop} {rp : List Nat} {text : Array Nat} {d n p : Nat} (h1 : d ≤ p) (h2 : p < d + n) (hl : d + n ≤ text.size) (hp : P p) (h : ∀ q, d ≤ q → q < p → ¬ P q) :
    tr P rp text d n = (text.toList.drop d).take (p - d) ++ rp ++ tr P rp text (p + 1) (d + n - (p + 1)) := by
  have e0 := tr_none (P := P) (rp := rp) (text := text) (n := p - d) (d := d) (by omega) (fun q q1 q2 => h q q1 (by omega))
  rw [← e0]
  unfold tr
  have e1 : List.range' d n = List.range' d (p - d) ++ (p :: List.range' (p + 1) (d + n - (p + 1))) := by
    have : p :: List.range' (p + 1) (d + n - (p + 1)) = List.range' (d + (p - d)) (d + n - p) := by
      rw [show d + (p - d) = p from by omega, show d + n - p = (d + n - (p + 1)) + 1 from by omega, List.range'_succ]
    rw [this, List.range'_append_1]
    congr 1; omega
  rw [e1, List.flatMap_append, List.flatMap_cons, if_pos hp, List.append_assoc]
end
end Mine
end

section
set_option maxRecDepth 100000
set_option linter.unusedVariables false
namespace Mine
open PySem PySem.W PySem.Calls PyProof.Rows
open PySem.Builtin.Re
section
variable {prog : Program} {w : World} {A B : Around} {s : Shared}
/-- what a search over a text comes to -/
def Srch (P : Nat → Prop) (code : Array Nat) (x : Str) : Prop := ∀ d, d ≤ x.cps.size → ∃ k m', k ≤ 2 ^ 60 ∧ Sre.M.runFor k (Sre.forSearch code x.cps 0 d x.cps.size false) = m' ∧ Found P d m'
def loopArgs (p : Addr) (x : Str) (t : Tok) (rp : Str) (u : Tok) (n : Int) (d : Nat) (l : Addr) : List Value :=
  [.ref p, .str x t, .str rp u, rawInt 0, rawInt 0, rawInt n, rawInt d, rawInt d, .bool false, .ref l, .bool false]
theorem quiet_loop (as : Args) : (Code.builtin "re.Pattern.sub.loop" as).quiet = true := Code.quiet_builtin as (by decide +kernel)
theorem loop_tree (p : Addr) (x : Str) (t : Tok) (rp : Str) (u : Tok) (n : Int) (d : Nat) (l : Addr) : Builtin.«re.Pattern.sub.loop» ⟨loopArgs p x t rp u n d l, []⟩ = (do
    let tg ← reWholeTarget (.ref p) (.str x t)
    let r ← reNextFound tg d false
    match r with
    | some m => do
      if d < m.start then do
        let v ← reSlice tg.text tg.kind d m.start
        updateSeq l (·.push v)
        updateSeq l (·.push (.str rp u))
        again (.builtin "re.Pattern.sub.loop" ⟨[.ref p, .str x t, .str rp u, rawInt 0, rawInt 0, rawInt (n + 1), rawInt m.handed, rawInt m.handed, .bool (m.handed == m.start), .ref l, .bool false], []⟩)
      else do
        updateSeq l (·.push (.str rp u))
        again (.builtin "re.Pattern.sub.loop" ⟨[.ref p, .str x t, .str rp u, rawInt 0, rawInt 0, rawInt (n + 1), rawInt m.handed, rawInt m.handed, .bool (m.handed == m.start), .ref l, .bool false], []⟩)
    | none => do
      let fin : Sem Fin := do
        let joiner ← reSlice tg.text tg.kind 0 0
        let its ← seqItems? (.ref l)
        if (its.getD #[]).isEmpty then ret joiner else do
          let text ← call (.builtin (if tg.kind == 0 then "str.join" else "bytes.join")) [joiner, .ref l]
          ret text
      if d < tg.lim then do
        let v ← reSlice tg.text tg.kind d tg.lim
        updateSeq l (·.push v)
        fin
      else fin) := by
  unfold Builtin.«re.Pattern.sub.loop» loopArgs
  simp only [rawInt]
  rfl

theorem Pat.keep {h h' : Heap} {p l : Addr} {code : Array Nat} {its : Array Value} (x : Pat h p code) (pl : h.PlainList l its) (k : ∀ b o, b ≠ l → h.get? b = some o → h'.get? b = some o) : Pat h' p code := by
  obtain ⟨o, fs, c, oc, it, n, t6, t2, g, e1, e0, e2, e3, e4, e5, e5', e6, e8, e7, e9⟩ := x
  obtain ⟨nn, ep⟩ := pl
  refine ⟨o, fs, c, oc, it, n, t6, t2, g, k _ _ (fun q => ?_) e1, e0, e2, e3, e4, e5, e5', k _ _ (fun q => ?_) e6, e8, e7, e9⟩
  · subst q; rw [ep] at e1; cases e1; cases e2
  · subst q; rw [ep] at e6; cases e6; exact absurd (show Value.type "list" = Value.type "tuple" from e8) (by decide)

theorem push_ok {l : Addr} {vs : List Value} {v : Value} {Q : Unit → Shared → Prop} {E : Value → Shared → Prop} (pl : s.heap.PlainList l (List.toArray vs)) (hz : vs.length ≤ 1000)
    (h : ∀ h', h'.PlainList l (List.toArray (vs ++ [v])) → (∀ b o, b ≠ l → s.heap.get? b = some o → h'.get? b = some o) → Q () { s with heap := h' }) : wpAny (model prog w) A (updateSeq l (·.push v)) Q E s := by
  obtain ⟨n, e⟩ := id pl
  refine wpAny_updateSeq e rfl (h _ ?_ ?_) (by simp; unfold sizeLine; omega) (by simp; unfold sizeLine; omega)
  · have := IsL.update (n := n) e (·.push v)
    rw [show (List.toArray vs).push v = List.toArray (vs ++ [v]) from by simp] at this
    exact ⟨_, this⟩
  · intro b o nb eb
    exact (Heap.get?_update_other _ _ (Ne.symm nb)).trans eb

def flat (ss : List Str) : List Nat := ss.flatMap fun x => x.cps.toList
theorem flat_snoc (ss : List Str) (x : Str) : flat (ss ++ [x]) = flat ss ++ x.cps.toList := by simp [flat]
theorem strs_snoc {vs : List Value} {ss : List Str} (h : StrsAre vs ss) (x : Str) (t : Tok) : StrsAre (vs ++ [.str x t]) (ss ++ [x]) := by
  induction h with
  | nil => exact .cons _ _ .nil
  | cons y u r ih => exact .cons _ _ ih

theorem fin_ok {l : Addr} {vs : List Value} {ss : List Str} {x : Array Nat} {R : Result → Shared → Prop} (pl : s.heap.PlainList l (List.toArray vs)) (hi : StrsAre vs ss)
    (hj : JoinOk ⟨#[]⟩ ss = true ∧ (Txt.join ⟨#[]⟩ ss).cps.toList = flat ss) (h : ∀ (r : Str) t' tk, r.cps.toList = flat ss → R (.ok (.ret (.str r t'))) { s with toks := tk }) :
    wpAny (model prog w) A (do
        let joiner ← reSlice x 0 0 0
        let its ← seqItems? (.ref l)
        if (its.getD #[]).isEmpty then ret joiner else do
          let text ← call (.builtin (if 0 == 0 then "str.join" else "bytes.join")) [joiner, .ref l]
          ret text) (fun fin s' => match fin with | .done f => R (.ok f) s' | .again c' => c'.quiet = true ∧ codeAny (model prog w) B c' R s') (fun e s' => R (.error e) s') s := by
  have e0 : (⟨x.extract 0 0⟩ : Str) = ⟨#[]⟩ := by simp
  refine wpAny_bind ?_
  show wpAny _ _ (mkStr ⟨x.extract 0 0⟩) _ _ s
  rw [e0]
  refine wpAny_mkStr ?_ (by decide)
  obtain ⟨n, ep⟩ := id pl
  refine wpAny_bind (wpAny_seqItems (s := { s with toks := s.toks + 1 }) ep rfl ?_)
  obtain ⟨l', e1, e2⟩ := strs_values hi
  cases hv : ((some (List.toArray vs)).getD #[]).isEmpty with
  | true =>
    have : vs = [] := by simpa using hv
    subst this
    cases hi
    simp only [if_true]
    exact wpAny_pure (h ⟨#[]⟩ _ _ rfl)
  | false =>
    simp only [Bool.false_eq_true, if_false]
    refine wpAny_bind ?_
    refine SC.join (l := l') (s := { s with toks := s.toks + 1 }) (e1 ▸ pl.isList) e2 hj.1 fun t' k => wpAny_pure (h _ t' k hj.2)
theorem loop_ok {P : Nat → Prop} {p : Addr} {code : Array Nat} {x : Str} {t : Tok} {rp : Str} {u : Tok} {l : Addr} (hS : Srch P code x) (hP : ∀ q, P q → q < x.cps.size) (hx : x.cps.size ≤ 200) (hr : rp.length ≤ 10)
    (hj : ∀ ss : List Str, flat ss = tr P rp.cps.toList x.cps 0 x.cps.size → JoinOk ⟨#[]⟩ ss = true ∧ (Txt.join ⟨#[]⟩ ss).cps.toList = flat ss) :
    ∀ (k d : Nat) (n : Int) (ss : List Str) (vs : List Value) (s : Shared) (R : Result → Shared → Prop), x.cps.size - d = k → d ≤ x.cps.size → s.heap.PlainList l (List.toArray vs) → StrsAre vs ss → ss.length ≤ 2 * d → Pat s.heap p code →
      flat ss ++ tr P rp.cps.toList x.cps d (x.cps.size - d) = tr P rp.cps.toList x.cps 0 x.cps.size →
      (∀ (r : Str) t' h' tk, (∀ b o, b ≠ l → s.heap.get? b = some o → h'.get? b = some o) → r.cps.toList = tr P rp.cps.toList x.cps 0 x.cps.size → R (.ok (.ret (.str r t'))) { s with heap := h', toks := tk }) →
      codeAny (model prog w) A (.builtin "re.Pattern.sub.loop" ⟨loopArgs p x t rp u n d l, []⟩) R s := by
  intro k
  induction k using Nat.strongRecOn with
  | _ k ih =>
    intro d n ss vs s R hk hd pl hi hl hp hf hR
    have hvs : vs.length ≤ 2 * d := by rw [strs_len hi]; exact hl
    refine codeAny_builtin entry_loop ?_
    rw [loop_tree]
    refine wpAny_bind (target_ok hp ?_)
    obtain ⟨kk, m', hkk, e, hF⟩ := hS d hd
    refine wpAny_bind (run_ok (m' := m') e hkk ?_)
    rcases hF with ⟨q, q1, q2, q3, o1, o2, o3⟩ | ⟨q1, o1⟩
    · refine .inl ⟨o1, ?_⟩
      have hq := hP q q2
      have ht := tr_at (rp := rp.cps.toList) (text := x.cps) (d := d) (n := x.cps.size - d) (p := q) q1 (by omega) (by omega) q2 q3
      rw [show d + (x.cps.size - d) - (q + 1) = x.cps.size - (q + 1) from by omega] at ht
      show wpAny _ _ (if d < m'.start then _ else _) _ _ s
      rw [o2]
      have again_ok : ∀ (ss' : List Str) (vs' : List Value) (s' : Shared), s'.heap.PlainList l (List.toArray vs') → StrsAre vs' ss' → ss'.length ≤ 2 * (q + 1) → (∀ b o, b ≠ l → s.heap.get? b = some o → s'.heap.get? b = some o) →
          (∃ h' tk, s' = { s with heap := h', toks := tk }) → flat ss' = flat ss ++ ((x.cps.toList.drop d).take (q - d) ++ rp.cps.toList) →
          codeAny (model prog w) A (.builtin "re.Pattern.sub.loop" ⟨[.ref p, .str x t, .str rp u, rawInt 0, rawInt 0, rawInt (n + 1), rawInt m'.handed, rawInt m'.handed, .bool (m'.handed == q), .ref l, .bool false], []⟩) R s' := by
        intro ss' vs' s' pl' hi' hl' kp' es' ef
        obtain ⟨h', tk, rfl⟩ := es'
        rw [o3, show (q + 1 == q) = false from by simp]
        refine ih (x.cps.size - (q + 1)) (by omega) (q + 1) (n + 1) ss' vs' { s with heap := h', toks := tk } R rfl (by omega) pl' hi' hl' (hp.keep pl kp') ?_ ?_
        · rw [← hf, ef, ht]; simp only [List.append_assoc]
        · intro r t' h2 tk2 k2 er
          exact hR r t' h2 tk2 (fun b o nb eb => k2 b o nb (kp' b o nb eb)) er
      by_cases hdq : d < q
      · rw [if_pos hdq]
        refine wpAny_bind (wpAny_mkStr ?_ (by show (x.cps.extract d q).size ≤ sizeLine; simp; unfold sizeLine; omega))
        refine wpAny_bind (push_ok (s := { s with toks := s.toks + 1 }) pl (by omega) fun h1 p1 k1 => ?_)
        refine wpAny_bind (push_ok (s := { s with heap := h1, toks := s.toks + 1 }) p1 (by simp; omega) fun h2 p2 k2 => wpAny_pure ⟨quiet_loop _, ?_⟩)
        refine again_ok (ss ++ [⟨x.cps.extract d q⟩] ++ [rp]) _ { s with heap := h2, toks := s.toks + 1 } p2 (strs_snoc (strs_snoc hi _ _) _ _) (by simp; omega) (fun b o nb eb => k2 b o nb (k1 b o nb eb)) ⟨h2, s.toks + 1, rfl⟩ ?_
        rw [flat_snoc, flat_snoc]
        simp [List.append_assoc]
      · rw [if_neg hdq]
        have : q = d := by omega
        subst this
        refine wpAny_bind (push_ok pl (by omega) fun h2 p2 k2 => wpAny_pure ⟨quiet_loop _, ?_⟩)
        refine again_ok (ss ++ [rp]) _ { s with heap := h2 } p2 (strs_snoc hi _ _) (by simp; omega) k2 ⟨h2, s.toks, rfl⟩ ?_
        rw [flat_snoc]; simp
    · refine .inr ⟨o1, ?_⟩
      have ht := tr_none (P := P) (rp := rp.cps.toList) (text := x.cps) (d := d) (n := x.cps.size - d) (by omega) (fun q h1 _ => q1 q h1)
      show wpAny _ _ (if d < x.cps.size then _ else _) _ _ s
      by_cases hdl : d < x.cps.size
      · rw [if_pos hdl]
        refine wpAny_bind (wpAny_mkStr ?_ (by show (x.cps.extract d x.cps.size).size ≤ sizeLine; simp; unfold sizeLine; omega))
        refine wpAny_bind (push_ok (s := { s with toks := s.toks + 1 }) pl (by omega) fun h1 p1 k1 => ?_)
        have ef : flat (ss ++ [⟨x.cps.extract d x.cps.size⟩]) = tr P rp.cps.toList x.cps 0 x.cps.size := by
          rw [flat_snoc, ← hf, ht]; simp
        refine fin_ok (s := { s with heap := h1, toks := s.toks + 1 }) p1 (strs_snoc hi _ _) (hj _ ef) fun r t' tk er => hR r t' h1 tk k1 (er.trans ef)
      · rw [if_neg hdl]
        have ef : flat ss = tr P rp.cps.toList x.cps 0 x.cps.size := by
          rw [← hf, show x.cps.size - d = 0 from by omega]; simp [tr]
        refine fin_ok pl hi (hj _ ef) fun r t' tk er => hR r t' s.heap tk (fun _ _ _ e => e) (er.trans ef)
end
end Mine
end

section
set_option maxRecDepth 100000
set_option linter.unusedVariables false
namespace Mine
open PySem PySem.W PySem.Calls PyProof.Rows
open PySem.Builtin.Re
theorem flat_cons (x : Str) (ss : List Str) : flat (x :: ss) = x.cps.toList ++ flat ss := rfl
theorem glue_fold : ∀ (ss : List Str) (acc : Array Nat), (ss.foldl (fun acc p => acc ++ (#[] : Array Nat) ++ p.cps) acc).toList = acc.toList ++ flat ss
  | [], acc => by simp [flat]
  | x :: ss, acc => by rw [List.foldl_cons, glue_fold ss, flat_cons]; simp
theorem join_flat (ss : List Str) : (Txt.join ⟨#[]⟩ ss).cps.toList = flat ss := by
  cases ss with
  | nil => rfl
  | cons x ss => exact glue_fold ss x.cps
theorem joinok_fold : ∀ (ss : List Str) (n : Nat), ss.foldl (fun a (x : Str) => a + x.length + 0) n = n + (flat ss).length
  | [], n => by simp [flat]
  | x :: ss, n => by rw [List.foldl_cons, joinok_fold ss, flat_cons, List.length_append]; simp [Str.length]; omega
theorem joinok_flat {ss : List Str} (h : (flat ss).length ≤ 100000) : JoinOk ⟨#[]⟩ ss = true := by
  unfold JoinOk
  have e : ss.toArray.foldl (fun a (x : Str) => a + x.length + (⟨#[]⟩ : Str).length) 0 = (flat ss).length := by
    rw [List.foldl_toArray']
    · exact (joinok_fold ss 0).trans (Nat.zero_add _)
    · simp
  rw [e]
  have : ¬ (flat ss).length > sizeLine := by unfold sizeLine; omega
  simp [Builtin.Str.tooLong]; omega
section
variable {prog : Program} {w : World} {A : Around} {s : Shared}
theorem named_ok (a b : Value) : reNamed "re.Pattern.sub" "sub" ["repl", "string", "count"] 2 [a, b] [] = pure [some a, some b, none] := rfl
theorem nocall_str : typeLookup (.type "str") "__call__" = pure none := by rw [typeLookup_type, builtinLookup_eq_fast]; kernel_rfl
theorem sub_ok {P : Nat → Prop} {p : Addr} {code : Array Nat} {x : Str} {t : Tok} {rp : Str} {u : Tok} {Q E : Value → Shared → Prop} (hp : Pat s.heap p code) (hS : Srch P code x) (hP : ∀ q, P q → q < x.cps.size) (hx : x.cps.size ≤ 200) (hr : rp.length ≤ 10) (h92 : rp.cps.contains 92 = false)
    (hz : (tr P rp.cps.toList x.cps 0 x.cps.size).length ≤ 100000)
    (h : ∀ t' h' tk, (∀ b o, s.heap.get? b = some o → h'.get? b = some o) → Q (.str ⟨(tr P rp.cps.toList x.cps 0 x.cps.size).toArray⟩ t') { s with heap := h', toks := tk }) :
    wpAny (model prog w) A (call (.builtin "re.Pattern.sub") [.ref p, .str rp u, .str x t]) Q E s := by
  have hT : s.TypeIs (.ref p) "re.Pattern" := by
    obtain ⟨o, fs, c, oc, it, n, t6, t2, g, e1, e0, _⟩ := hp
    exact ⟨o, e1, e0⟩
  refine wpAny_call (codeAny_call_builtin slot_re.plain entry_re (slot_re.check _ _ _ _ _ _ _ _ hT (args_re _ _ _) ?_))
  unfold Builtin.«re.Pattern.sub» reSubstitute
  dsimp only
  rw [named_ok]
  refine wpAny_bind (wpAny_pure ?_)
  dsimp only
  refine wpAny_bind (wpAny_pure ?_)
  refine wpAny_bind (wpAny_specialOf_val (T := "str") rfl nocall_str ?_)
  show wpAny _ _ (if (!rp.cps.contains 92) = true then (do let _ ← holding [.str rp u] (reWholeTarget (.ref p) (.str x t)); let l ← newList []; again (.builtin "re.Pattern.sub.loop" ⟨[.ref p, .str x t, .str rp u, rawInt 0, rawInt 0, rawInt 0, rawInt 0, rawInt 0, .bool false, l, .bool false], []⟩)) else _) _ _ s
  rw [h92]
  show wpAny _ _ (do let _ ← holding [.str rp u] (reWholeTarget (.ref p) (.str x t)); let l ← newList []; again (.builtin "re.Pattern.sub.loop" ⟨[.ref p, .str x t, .str rp u, rawInt 0, rawInt 0, rawInt 0, rawInt 0, rawInt 0, .bool false, l, .bool false], []⟩)) _ _ s
  refine wpAny_bind (wpAny_holding (target_ok hp ?_))
  refine wpAny_bind (wpAny_newList ?_ (Nat.zero_le _))
  refine wpAny_pure ⟨quiet_loop _, ?_⟩
  have up : ∀ b o, s.heap.get? b = some o → (s.heap.push { cls := .type "list", data := .seq ([] : List Value).toArray }).get? b = some o := fun _ _ e => Heap.get?_push_of_some _ e
  have hp' : Pat (s.heap.push { cls := .type "list", data := .seq ([] : List Value).toArray }) p code := by
    obtain ⟨o, fs, c, oc, it, n, t6, t2, g, e1, e0, e2, e3, e4, e5, e5', e6, e8, e7, e9⟩ := hp
    exact ⟨o, fs, c, oc, it, n, t6, t2, g, up _ _ e1, e0, e2, e3, e4, e5, e5', up _ _ e6, e8, e7, e9⟩
  refine loop_ok (P := P) (l := s.heap.objs.size) hS hP hx hr ?_ _ 0 0 [] [] { s with heap := s.heap.push { cls := .type "list", data := .seq ([] : List Value).toArray } } _ rfl (Nat.zero_le _) ⟨_, Heap.get?_push_size _ rfl⟩ .nil (Nat.le_refl _) hp' ?_ ?_
  · intro ss e
    exact ⟨joinok_flat (by rw [e]; exact hz), join_flat ss⟩
  · simp [flat]
  · intro r t' h' tk k er
    have e : r = ⟨(tr P rp.cps.toList x.cps 0 x.cps.size).toArray⟩ := by
      cases r with
      | mk c => simp only at er; rw [← er]
    rw [e]
    exact h t' h' tk (fun b o eb => k b o (Nat.ne_of_lt (Heap.lt_size eb)) (up b o eb))
end
end Mine
end

section
set_option maxRecDepth 100000
set_option linter.unusedVariables false
namespace Mine
open PySem PySem.W PySem.Calls PyProof.Rows
open PySem.Builtin.Re
section
variable {prog : Program} {w : World} {K : Frag} {hb h₀ hM : Heap} {mg mb : Str → Option Value} {A : Around} {env : Env} {t tt : Bool} {α β : Al} {O : Addr → Prop} {a : Option Addr} {h h' : Heap} {m cm : Str → Option Value}
/-- a method's answer over the base -/
structure BiB (prog : Program) (w : World) (hb : Heap) (A : Around) (f : Value) (args : List AV) (v : AV) : Prop where
  go : ∀ (s : Shared) (O : Addr → Prop) (cvs : List Value), (∀ b o, hb.get? b = some o → s.heap.get? b = some o) → Owned O s.heap → VAll s.heap O cvs args → Mk prog w A (call f cvs) s O v
theorem eMB (no : hb.get? 47 = none ∧ hb.get? 54 = none) {o e : Expr} {es : List Expr} {name : Str} {apos pos : Pos} {T id : String} {ov v : AV} {vs : List AV} (pa : PlainAttrs T) (sl : Slot T name id)
    (ty : typeOf (.builtin id) = pure (.type "method_descriptor")) (hT : IsT hb ov T) (ho : Ev prog w hb A env t α o ov) (ha : EvL prog w hb A env t α (e :: es) vs) (hc : BiB prog w hb A (.builtin id) (ov :: vs) v)
    (hbase : attributeBase o name env (eval o env) = eval o env := by rfl)
    (hfew : ((backTo pos (starEach (e :: es) env)).all (fun x => !x.1) && (backToKw pos (keywordEach [] env)).all (fun x => x.1.isSome)
      && decide ((e :: es).length + ([] : List Keyword).length + (if ([] : List Keyword).isEmpty then 0 else 1) < 30)) = true := by rfl)
    (hline : (apos.endLine == pos.line) = true := by rfl) (he : starEach (e :: es) env = (false, eval e env) :: starEach es env := by rfl) (hst : (backTo pos (starEach es env)).any (·.1) = false := by rfl) : Ev prog w hb A env t α (.Call (.Attribute o name apos) (e :: es) [] pos) v := .mk fun s m cm O Q E R h => by
  refine wpAny_Call_method_lateS hbase hfew hline (ho.go s m cm O _ E R fun cv h₁ tk₁ k₁ T₁ r => ?_)
  have R₁ := R.keep k₁ T₁ no
  obtain ⟨hTy, hD⟩ := hT { s with heap := h₁, toks := tk₁ } O cv R₁.base r
  refine ⟨T, id, pa, sl, ty, hTy, hD, callWith_method1 (ha.go pos { s with heap := h₁, toks := tk₁ } m cm O _ E R₁ fun cvs h₂ tk₂ k₂ T₂ rs => ?_) he hst⟩
  have R₂ := R₁.keep k₂ T₂ no
  refine (hc.go { s with heap := h₂, toks := tk₂ } O (cv :: cvs) R₂.base R₂.own ⟨keep_v k₂ T₁ r, rs⟩).go Q E fun cv h₃ tk₃ k₃ rv => ?_
  exact h cv h₃ tk₃ (k₁.trans (k₂.trans (.of k₃))) (T₂.keeps k₃) rv
/-- a text, what P marks replaced -/
noncomputable def subst (P : Nat → Prop) (rp : Str) (x : Str) : Str := ⟨(tr P rp.cps.toList x.cps 0 x.cps.size).toArray⟩
theorem tr_len {P : Nat → Prop} {rp : List Nat} {text : Array Nat} (hr : 1 ≤ rp.length) : ∀ (n d : Nat), (tr P rp text d n).length ≤ rp.length * n
  | 0, d => by simp [tr]
  | n + 1, d => by
    have ih := tr_len (P := P) (text := text) hr n (d + 1)
    unfold tr at ih ⊢
    rw [List.range'_succ, List.flatMap_cons, List.length_append, Nat.mul_succ]
    split
    · omega
    · simp only [List.length_singleton]; omega
theorem BiB_sub {P : Nat → Prop} {p : Addr} {code : Array Nat} {x rp : Str} (hp : Pat hb p code) (hS : Srch P code x) (hP : ∀ q, P q → q < x.cps.size) (hx : x.cps.size ≤ 200) (h1 : 1 ≤ rp.length) (hr : rp.length ≤ 10) (h92 : rp.cps.contains 92 = false) :
    BiB prog w hb A (.builtin "re.Pattern.sub") [.raw (.ref p), .str rp, .str x] (.str (subst P rp x)) := by
  refine .mk ?_
  rintro s O (_ | ⟨_, _ | ⟨_, _ | ⟨_, _ | ⟨_, _⟩⟩⟩⟩) hbs ow r <;> simp only [VAll, and_true, and_false] at r
  obtain ⟨rfl, ⟨u, rfl⟩, ⟨u', rfl⟩⟩ := r
  refine .mk fun Q E h => ?_
  have hp' : Pat s.heap p code := by
    obtain ⟨o, fs, c, oc, it, n, t6, t2, g, e1, e0, e2, e3, e4, e5, e5', e6, e8, e7, e9⟩ := hp
    exact ⟨o, fs, c, oc, it, n, t6, t2, g, hbs _ _ e1, e0, e2, e3, e4, e5, e5', hbs _ _ e6, e8, e7, e9⟩
  refine sub_ok hp' hS hP hx hr h92 ?_ fun t' h' tk k => h _ h' tk k ⟨_, rfl⟩
  refine Nat.le_trans (tr_len (by simpa [Str.length] using h1) _ _) ?_
  refine Nat.le_trans (Nat.mul_le_mul (show rp.cps.toList.length ≤ 10 by simpa [Str.length] using hr) hx) (by decide)
theorem isT_pat {p : Addr} {o : Obj} (ho : hb.get? p = some o) (hc : o.cls = .type "re.Pattern") (hd : o.dict = none) : IsT hb (.raw (.ref p)) "re.Pattern" := fun s O cv hbs r => by
  obtain rfl : cv = .ref p := r
  exact ⟨⟨o, hbs _ _ ho, hc⟩, fun _ e => by cases e; exact ⟨o, hbs _ _ ho, hd⟩⟩
theorem srch1 (x : Str) (hx : x.cps.size ≤ 200) : Srch (Dot x.cps x.cps.size) code1 x := fun d hd => by
  obtain ⟨k, m', hk, e, hF⟩ := s1_search (text := x.cps) hd
  exact ⟨k, m', by omega, e, hF⟩
theorem srch2 (x : Str) (hx : x.cps.size ≤ 200) (np : NoPair x.cps x.cps.size) : Srch (Brk x.cps x.cps.size) code2 x := fun d hd => by
  obtain ⟨k, m', hk, e, hF⟩ := s2_search (text := x.cps) hd np
  exact ⟨k, m', by omega, e, hF⟩
noncomputable def sub2 (x : Str) : Str := subst (Brk x.cps x.cps.size) (Str.ofString "\r\n") x
noncomputable def sub1 (x : Str) : Str := subst (Dot x.cps x.cps.size) (Str.ofString "..") x
theorem pat1 (B : Bs (KK w) hb mg mb) : Pat hb 85 code1 := ⟨_, _, _, _, _, _, _, _, _, B.X 85 _ rfl, rfl, rfl, rfl, rfl, rfl, rfl, B.X 84 _ rfl, rfl, rfl, by decide +kernel⟩
theorem pat2 (B : Bs (KK w) hb mg mb) : Pat hb 90 code2 := ⟨_, _, _, _, _, _, _, _, _, B.X 90 _ rfl, rfl, rfl, rfl, rfl, rfl, rfl, B.X 89 _ rfl, rfl, rfl, by decide +kernel⟩
theorem quotedata_fn (B : Bs (KK w) hb mg mb) (x : Str) (hx : x.cps.size ≤ 100) (np : NoPair x.cps x.cps.size) : Fn prog w hb 97 true 1 [.str x] (.str (sub1 (sub2 x))) := by
  refine Fn_intro B (f := 97) (ps := [Str.ofString "data"]) rfl rfl (code_rec B rfl rfl rfl) rfl ?_ ?_ ?_ ?_ rfl ?_ rfl rfl rfl
  · rintro (_ | ⟨c, _ | ⟨_, _⟩⟩) hl <;> simp at hl
    rfl
  · decide
  · intro x hx
    simp only [List.mem_cons, List.not_mem_nil, or_false] at hx
    rcases hx with rfl; exact .inl rfl
  · simp [isOwn]
  · intro A' L O h₀ rm
    have h2 : (sub2 x).cps.size ≤ 200 := by
      show (tr _ _ _ _ _).toArray.size ≤ 200
      rw [List.size_toArray]
      have := tr_len (P := Brk x.cps x.cps.size) (rp := (Str.ofString "\r\n").cps.toList) (text := x.cps) (by decide) x.cps.size 0
      have e : (Str.ofString "\r\n").cps.toList.length = 2 := rfl
      rw [e] at this
      omega
    refine sR (eMB B.no pa_re slot_re type_re (isT_pat (B.X 85 _ rfl) rfl rfl) (Ev_glob (v := .raw (.ref 85)) B rfl rfl (fun _ _ => rfl) rfl) (eL2 B.no Ev_str
      (eMB B.no pa_re slot_re type_re (isT_pat (B.X 90 _ rfl) rfl rfl) (Ev_glob (v := .raw (.ref 90)) B rfl rfl (fun _ _ => rfl) rfl) (eL2 B.no (Ev_glob (v := .str (Str.ofString "\r\n")) B rfl rfl (fun _ _ => ⟨_, rfl⟩) rfl) eN)
        (BiB_sub (pat2 B) (srch2 x (by omega) np) (fun q h => h.1) (by omega) (by decide) (by decide) (by decide +kernel))))
      (BiB_sub (pat1 B) (srch1 (sub2 x) h2) (fun q h => h.2.1) h2 (by decide) (by decide) (by decide +kernel))) rfl
end
end Mine
end

section
set_option maxRecDepth 100000
set_option linter.unusedVariables false
namespace Mine
open PySem
def crlf (c : Nat) : List Nat := if c = 10 ∨ c = 13 then [13, 10] else [c]
def dotL : Nat → List Nat → List Nat
  | _, [] => []
  | p, c :: r => (if p = 10 ∧ c = 46 then [46, 46] else [c]) ++ dotL c r
theorem getD_append (pre : List Nat) (c : Nat) (r : List Nat) : (List.toArray (pre ++ c :: r)).getD pre.length 0 = c := by simp [Array.getD]
theorem tr_brk (rp : List Nat) : ∀ (r pre : List Nat), tr (Brk (List.toArray (pre ++ r)) (pre ++ r).length) rp (List.toArray (pre ++ r)) pre.length r.length = r.flatMap fun c => if c = 10 ∨ c = 13 then rp else [c]
  | [], pre => by simp [tr]
  | c :: r, pre => by
    have ih := tr_brk rp r (pre ++ [c])
    rw [show (pre ++ [c]).length = pre.length + 1 from by simp, List.append_assoc, List.singleton_append] at ih
    unfold tr at ih ⊢
    rw [List.length_cons, List.range'_succ, List.flatMap_cons, List.flatMap_cons, ih, getD_append]
    congr 1
    by_cases h : c = 10 ∨ c = 13
    · rw [if_pos h, if_pos ⟨by simp, by rw [getD_append]; exact h⟩]
    · rw [if_neg h, if_neg (fun q => h (by have := q.2; rwa [getD_append] at this))]
theorem tr_dot : ∀ (r pre : List Nat), tr (Dot (List.toArray (pre ++ r)) (pre ++ r).length) [46, 46] (List.toArray (pre ++ r)) pre.length r.length = dotL (pre.getLast?.getD 10) r
  | [], pre => by simp [tr, dotL]
  | c :: r, pre => by
    have ih := tr_dot r (pre ++ [c])
    rw [show (pre ++ [c]).length = pre.length + 1 from by simp, List.append_assoc, List.singleton_append] at ih
    unfold tr at ih ⊢
    rw [List.length_cons, List.range'_succ, List.flatMap_cons, ih, getD_append, dotL]
    have hl : ((pre ++ [c]).getLast?).getD 10 = c := by simp
    rw [hl]
    congr 1
    have key : Dot (List.toArray (pre ++ c :: r)) (pre ++ c :: r).length pre.length ↔ (pre.getLast?.getD 10 = 10 ∧ c = 46) := by
      unfold Dot
      rw [getD_append]
      constructor
      · rintro ⟨h1, h2, h3⟩
        refine ⟨?_, h3⟩
        rcases List.eq_nil_or_concat pre with rfl | ⟨q, e, rfl⟩
        · rfl
        · rcases h1 with h1 | h1
          · simp at h1
          · simpa [Array.getD] using h1
      · rintro ⟨h1, h3⟩
        refine ⟨?_, by simp, h3⟩
        rcases List.eq_nil_or_concat pre with rfl | ⟨q, e, rfl⟩
        · exact .inl rfl
        · right; simpa [Array.getD] using h1
    by_cases h : pre.getLast?.getD 10 = 10 ∧ c = 46
    · rw [if_pos h, if_pos (key.mpr h)]
    · rw [if_neg h, if_neg (fun q => h (key.mp q))]
/-- rows with ends -/
def ended (e : List Nat) (rows : List (List Nat)) : List Nat := rows.flatMap (· ++ e)
def dotted : List Nat → List Nat
  | 46 :: r => 46 :: 46 :: r
  | r => r
theorem crlf_ended {e : Nat} (he : e = 10 ∨ e = 13) : ∀ {rows : List (List Nat)}, (∀ r ∈ rows, ∀ c ∈ r, c ≠ 10 ∧ c ≠ 13) → (ended [e] rows).flatMap crlf = ended [13, 10] rows
  | [], _ => rfl
  | r :: rows, h => by
    have ih := crlf_ended he (rows := rows) fun x m => h x (.tail _ m)
    have hr := h r (.head _)
    unfold ended at ih ⊢
    rw [List.flatMap_cons, List.flatMap_cons, List.flatMap_append, ih, List.flatMap_append]
    congr 1
    have e1 : r.flatMap crlf = r := by
      clear h ih
      induction r with
      | nil => rfl
      | cons c r ih =>
        rw [List.flatMap_cons, ih fun x m => hr x (.tail _ m)]
        have := hr c (.head _)
        unfold crlf
        rw [if_neg (by omega)]; rfl
    rw [e1]
    congr 1
    simp [crlf, he]
theorem dotL_row : ∀ (r : List Nat) (p : Nat) (t : List Nat), (∀ c ∈ r, c ≠ 10) → p ≠ 10 → dotL p (r ++ (13 :: 10 :: t)) = r ++ (13 :: 10 :: dotL 10 t)
  | [], p, t, _, hp => by simp [dotL]
  | c :: r, p, t, h, hp => by
    rw [List.cons_append, dotL, if_neg (fun q => hp q.1), dotL_row r c t (fun x m => h x (.tail _ m)) (h c (.head _))]; rfl
theorem dotL_ended : ∀ {rows : List (List Nat)}, (∀ r ∈ rows, ∀ c ∈ r, c ≠ 10) → dotL 10 (ended [13, 10] rows) = ended [13, 10] (rows.map dotted)
  | [], _ => rfl
  | r :: rows, h => by
    have ih := dotL_ended (rows := rows) fun x m => h x (.tail _ m)
    have hr := h r (.head _)
    have e0 : ∀ x : List (List Nat), ∀ y, ended [13, 10] (y :: x) = y ++ (13 :: 10 :: ended [13, 10] x) := fun x y => by simp [ended]
    rw [e0, List.map_cons, e0, ← ih]
    cases r with
    | nil => simp [dotL, dotted]
    | cons c r =>
      rw [List.cons_append, dotL, dotL_row r c _ (fun x m => hr x (.tail _ m)) (hr c (.head _))]
      by_cases hc : c = 46
      · subst hc; rfl
      · rw [if_neg (fun q => hc q.2)]
        have : dotted (c :: r) = c :: r := by
          unfold dotted
          split
          · rename_i e; cases e; exact absurd rfl hc
          · rfl
        rw [this]; rfl
end Mine
end

section
set_option maxRecDepth 100000
set_option linter.unusedVariables false
namespace Mine
open PySem PySem.Builtin.Str PySem.StrLaws
/-- pieces with a separator between -/
def jn (sep : List Nat) : List (List Nat) → List Nat
  | [] => []
  | [p] => p
  | p :: q :: r => p ++ sep ++ jn sep (q :: r)
def cuts (m : Nat) : Nat → List (List Nat) → List Nat
  | _, [] => []
  | _, [_] => []
  | off, p :: q :: r => (off + p.length) :: cuts m (off + p.length + m) (q :: r)
section
variable {s sub : Str} {hi limit : Nat}
theorem occ_skip : ∀ (l l' : List Nat) (st : Array Nat × Nat), (∀ i ∈ l, st.snd ≤ i → ¬ At s sub hi i) → forIn (m := Id) (l ++ l') st (occBody s sub hi limit) = forIn (m := Id) l' st (occBody s sub hi limit)
  | [], l', st, _ => rfl
  | a :: l, l', st, h => by
    rw [List.cons_append, List.forIn_cons]
    have e : occBody s sub hi limit a st = pure (ForInStep.yield (st.fst, st.snd)) := by
      unfold occBody
      rw [if_neg (fun q => h a (.head _) q.1.1.2 ⟨q.1.2, q.2⟩)]
    rw [e]
    exact occ_skip l l' st fun i m => h i (.tail _ m)
theorem occ_hit {i : Nat} {l : List Nat} {st : Array Nat × Nat} (h1 : st.fst.size < limit) (h2 : st.snd ≤ i) (h3 : At s sub hi i) : forIn (m := Id) (i :: l) st (occBody s sub hi limit) = forIn (m := Id) l (st.fst.push i, i + sub.length) (occBody s sub hi limit) := by
  rw [List.forIn_cons]
  have e : occBody s sub hi limit i st = pure (ForInStep.yield (st.fst.push i, i + sub.length)) := by
    unfold occBody
    rw [if_pos ⟨⟨⟨h1, h2⟩, h3.1⟩, h3.2⟩]
  rw [e]; rfl
theorem at_first {i c0 : Nat} {sr : List Nat} (hs : sub.cps.toList = c0 :: sr) (h : At s sub hi i) : s.cps.toList[i]? = some c0 := by
  have := h.2
  rw [subAt_eq, hs] at this
  have e := eq_of_beq this
  have e1 := congrArg (fun l : List Nat => l[0]?) e
  have hl : 0 < sub.length := by unfold Str.length; rw [← Array.length_toList, hs]; simp
  simp only [List.getElem?_cons_zero] at e1
  rw [List.getElem?_take_of_lt hl, List.getElem?_drop] at e1
  simpa using e1
theorem occ_pieces {c0 : Nat} {sr : List Nat} (hs : sub.cps.toList = c0 :: sr) (hh : hi = s.length) : ∀ (ps : List (List Nat)) (pre : List Nat) (found : Array Nat), ps ≠ [] → s.cps.toList = pre ++ jn (c0 :: sr) ps → (∀ p ∈ ps, c0 ∉ p) → found.size + ps.length ≤ limit →
    ∃ fr, forIn (m := Id) (List.range' pre.length ((jn (c0 :: sr) ps).length + 1)) (found, pre.length) (occBody s sub hi limit) = (found ++ (cuts (sr.length + 1) pre.length ps).toArray, fr)
  | [], _, _, h, _, _, _ => absurd rfl h
  | [p], pre, found, _, e, hp, hl => by
    refine ⟨pre.length, ?_⟩
    have hlen : s.length = pre.length + p.length := by
      show s.cps.size = _
      rw [← Array.length_toList, e]; simp [jn]
    have := occ_skip (s := s) (sub := sub) (hi := hi) (limit := limit) (List.range' pre.length (p.length + 1)) [] (found, pre.length) (fun i hi' _ ha => by
      have h1 := at_first hs ha
      rw [e] at h1
      have h2 := ha.1
      have hl : 0 < sub.length := by unfold Str.length; rw [← Array.length_toList, hs]; simp
      obtain ⟨h3, h4⟩ := List.mem_range'_1.mp hi'
      rw [List.getElem?_append_right h3] at h1
      exact hp p (.head _) (List.mem_of_getElem? h1))
    rw [List.append_nil] at this
    show forIn (m := Id) (List.range' pre.length (p.length + 1)) _ _ = _
    rw [this]
    simp [cuts]
    rfl
  | p :: q :: r, pre, found, _, e, hp, hl => by
    have hsub : sub.length = sr.length + 1 := by unfold Str.length; rw [← Array.length_toList, hs]; simp
    have e' : s.cps.toList = (pre ++ p ++ (c0 :: sr)) ++ jn (c0 :: sr) (q :: r) := by rw [e]; simp [jn]
    have hlen : s.length = pre.length + p.length + (sr.length + 1) + (jn (c0 :: sr) (q :: r)).length := by
      show s.cps.size = _
      rw [← Array.length_toList, e']; simp; omega
    obtain ⟨fr, ih⟩ := occ_pieces hs hh (q :: r) (pre ++ p ++ (c0 :: sr)) (found.push (pre.length + p.length)) (by simp) e' (fun x m => hp x (.tail _ m)) (by simp at hl ⊢; omega)
    have el : (pre ++ p ++ (c0 :: sr)).length = pre.length + p.length + (sr.length + 1) := by simp; omega
    rw [el] at ih
    refine ⟨fr, ?_⟩
    have er : List.range' pre.length ((jn (c0 :: sr) (p :: q :: r)).length + 1) = List.range' pre.length p.length ++ ((pre.length + p.length) :: (List.range' (pre.length + p.length + 1) sr.length ++ List.range' (pre.length + p.length + (sr.length + 1)) ((jn (c0 :: sr) (q :: r)).length + 1))) := by
      have a1 : List.range' (pre.length + p.length + 1) sr.length ++ List.range' (pre.length + p.length + (sr.length + 1)) ((jn (c0 :: sr) (q :: r)).length + 1) = List.range' (pre.length + p.length + 1) (sr.length + ((jn (c0 :: sr) (q :: r)).length + 1)) := by
        rw [show pre.length + p.length + (sr.length + 1) = (pre.length + p.length + 1) + sr.length from by omega, List.range'_append_1]
      rw [a1, ← List.range'_succ, List.range'_append_1]
      congr 1
      simp [jn]; omega
    rw [er, occ_skip, occ_hit, occ_skip, hsub, ih]
    · simp [cuts, Nat.add_assoc]
    · intro i hi' hf ha
      obtain ⟨h3, h4⟩ := List.mem_range'_1.mp hi'
      simp only [hsub] at hf
      omega
    · simp at hl ⊢; omega
    · simp
    · refine ⟨by rw [hh, hlen, hsub]; omega, ?_⟩
      rw [subAt_eq, e', hs, hsub]
      have : (pre ++ p ++ c0 :: sr ++ jn (c0 :: sr) (q :: r)).drop (pre.length + p.length) = (c0 :: sr) ++ jn (c0 :: sr) (q :: r) := by
        rw [show pre.length + p.length = (pre ++ p).length from by simp, List.append_assoc (pre ++ p), List.drop_left]
      rw [this, List.take_append_of_le_length (by simp), List.take_of_length_le (by simp)]
      exact beq_self_eq_true _
    · intro i hi' _ ha
      have h1 := at_first hs ha
      obtain ⟨h3, h4⟩ := List.mem_range'_1.mp hi'
      rw [e, List.getElem?_append_right h3] at h1
      have : (jn (c0 :: sr) (p :: q :: r))[i - pre.length]? = p[i - pre.length]? := by
        show (p ++ (c0 :: sr) ++ jn (c0 :: sr) (q :: r))[i - pre.length]? = _
        rw [List.append_assoc, List.getElem?_append_left (by omega)]
      rw [this] at h1
      exact hp p (.head _) (List.mem_of_getElem? h1)
end
end Mine
end

section
set_option maxRecDepth 100000
set_option linter.unusedVariables false
namespace Mine
open PySem PySem.Builtin.Str PySem.StrLaws
/-- a text of code points -/
def mk (l : List Nat) : Str := ⟨l.toArray⟩
theorem mk_len (l : List Nat) : (mk l).length = l.length := by simp [mk, Str.length]
theorem mk_cps (l : List Nat) : (mk l).cps.toList = l := by simp [mk]
theorem str_mk (x : Str) : x = mk x.cps.toList := by cases x; simp [mk]
theorem parts_pieces {x : Str} {sep : List Nat} : ∀ (ps : List (List Nat)) (pre : List Nat), ps ≠ [] → x.cps.toList = pre ++ jn sep ps → partsFrom x sep.length pre.length (cuts sep.length pre.length ps) = ps.map mk
  | [], _, h, _ => absurd rfl h
  | [p], pre, _, e => by
    show [strSub x pre.length x.length] = [mk p]
    congr 1
    have h1 := strSub_toList x pre.length x.length
    have hl : x.length = pre.length + p.length := by
      show x.cps.size = _
      rw [← Array.length_toList, e]; simp [jn]
    rw [e, hl] at h1
    rw [str_mk (strSub x pre.length x.length), hl, h1]
    simp [jn]
  | p :: q :: r, pre, _, e => by
    have e' : x.cps.toList = (pre ++ p ++ sep) ++ jn sep (q :: r) := by rw [e]; simp [jn]
    have ih := parts_pieces (q :: r) (pre ++ p ++ sep) (by simp) e'
    have el : (pre ++ p ++ sep).length = pre.length + p.length + sep.length := by simp; omega
    rw [el] at ih
    show strSub x pre.length (pre.length + p.length) :: partsFrom x sep.length (pre.length + p.length + sep.length) (cuts sep.length (pre.length + p.length + sep.length) (q :: r)) = _
    rw [ih]
    have h1 := strSub_toList x pre.length (pre.length + p.length)
    rw [e'] at h1
    have : strSub x pre.length (pre.length + p.length) = mk p := by
      rw [str_mk (strSub x pre.length (pre.length + p.length)), h1]
      congr 1
      simp
    rw [this]; rfl
theorem kind_pos (x : Str) : 1 ≤ Builtin.Str.strKind x := by
  unfold Builtin.Str.strKind
  split
  · exact Nat.le_refl _
  · split <;> decide
theorem cuts_len {m : Nat} : ∀ (ps : List (List Nat)) (off : Nat), ps ≠ [] → (cuts m off ps).length + 1 = ps.length
  | [], _, h => absurd rfl h
  | [p], _, _ => rfl
  | p :: q :: r, off, _ => by
    have := cuts_len (m := m) (q :: r) (off + p.length + m) (by simp)
    simp only [cuts, List.length_cons] at this ⊢
    omega
theorem jn_len {sep : List Nat} : ∀ ps : List (List Nat), ps ≠ [] → ps.length - 1 ≤ (jn sep ps).length ∨ sep = []
  | [], h => absurd rfl h
  | [p], _ => .inl (by simp)
  | p :: q :: r, _ => by
    rcases jn_len (sep := sep) (q :: r) (by simp) with h | h
    · by_cases hs : sep = []
      · exact .inr hs
      · left
        have : 1 ≤ sep.length := by cases sep with | nil => exact absurd rfl hs | cons => simp
        simp only [jn, List.length_append, List.length_cons] at h ⊢
        omega
    · exact .inr h
theorem occ_all {c0 : Nat} {sr : List Nat} (ps : List (List Nat)) (h0 : ps ≠ []) (hp : ∀ p ∈ ps, c0 ∉ p) {limit : Nat} (hl : ps.length ≤ limit) :
    occurrences (mk (jn (c0 :: sr) ps)) (mk (c0 :: sr)) 0 (mk (jn (c0 :: sr) ps)).length limit = cuts (sr.length + 1) 0 ps := by
  rw [occ_eq]
  obtain ⟨fr, e⟩ := occ_pieces (s := mk (jn (c0 :: sr) ps)) (sub := mk (c0 :: sr)) (hi := (mk (jn (c0 :: sr) ps)).length) (limit := limit) (mk_cps _) rfl ps [] #[] h0 (by rw [mk_cps]; rfl) hp (by simpa using hl)
  have : (mk (jn (c0 :: sr) ps)).length + 1 - 0 = (jn (c0 :: sr) ps).length + 1 := by rw [mk_len]; rfl
  rw [this]
  have e' : forIn (m := Id) (List.range' 0 ((jn (c0 :: sr) ps).length + 1)) ((#[] : Array Nat), 0) (occBody (mk (jn (c0 :: sr) ps)) (mk (c0 :: sr)) (mk (jn (c0 :: sr) ps)).length limit) = (#[] ++ (cuts (sr.length + 1) 0 ps).toArray, fr) := e
  rw [e']
  show (#[] ++ (cuts (sr.length + 1) 0 ps).toArray : Array Nat).toList = _
  simp
theorem split_pieces {c0 : Nat} {sr : List Nat} (hk : Builtin.Str.strKind (mk (c0 :: sr)) = 1) (ps : List (List Nat)) (h0 : ps ≠ []) (hp : ∀ p ∈ ps, c0 ∉ p) : Txt.split (mk (jn (c0 :: sr) ps)) (mk (c0 :: sr)) = ps.map mk ∧
    partsBetween (mk (jn (c0 :: sr) ps)) (occurrences (mk (jn (c0 :: sr) ps)) (mk (c0 :: sr)) 0 (mk (jn (c0 :: sr) ps)).length ((mk (jn (c0 :: sr) ps)).length + 1)) (mk (c0 :: sr)).length = ps.map mk := by
  have hl : ps.length ≤ (mk (jn (c0 :: sr) ps)).length + 1 := by
    rw [mk_len]
    rcases jn_len (sep := c0 :: sr) ps h0 with h | h
    · omega
    · cases h
  have e1 := occ_all (sr := sr) ps h0 hp hl
  have e2 : partsBetween (mk (jn (c0 :: sr) ps)) (cuts (sr.length + 1) 0 ps) (mk (c0 :: sr)).length = ps.map mk := by
    rw [partsBetween_eq, mk_len]
    exact parts_pieces (x := mk (jn (c0 :: sr) ps)) (sep := c0 :: sr) ps [] h0 (by rw [mk_cps]; rfl)
  refine ⟨?_, by rw [e1]; exact e2⟩
  unfold Txt.split
  match ps, h0, hp, e1, e2 with
  | [p], _, _, e1, e2 =>
    split
    · rfl
    · rw [e1]; rfl
  | p :: q :: r, _, _, e1, e2 =>
    rw [if_neg, e1, if_neg, e2]
    · simp [cuts]
    · have k1 := kind_pos (mk (jn (c0 :: sr) (p :: q :: r)))
      have : ¬ (mk (jn (c0 :: sr) (p :: q :: r))).length < (mk (c0 :: sr)).length := by rw [mk_len, mk_len]; simp [jn]; omega
      rw [hk]
      simp [this]; omega
end Mine
end

section
set_option maxRecDepth 100000
set_option linter.unusedVariables false
namespace Mine
/-- a text is the pieces, in turn, with gaps between -/
def Mt : List (List Nat) → List Nat → Prop
  | [], _ => False
  | [p], g => g = p
  | p :: q :: r, g => ∃ gap rest, g = p ++ gap ++ rest ∧ Mt (q :: r) rest
/-- the pieces of a form: none is a lost row -/
def hd1 (u : List Nat) : List (List Nat) → List (List Nat)
  | [] => [u]
  | h :: t => (u ++ h) :: t
def pc : List (Option Nat) → List (List Nat)
  | [] => [[]]
  | some c :: r => hd1 [c, 13, 10] (pc r)
  | none :: r => [] :: hd1 [13, 10] (pc r)
theorem pc_ne : ∀ fr, ∃ h t, pc fr = h :: t
  | [] => ⟨_, _, rfl⟩
  | some c :: r => by obtain ⟨h, t, e⟩ := pc_ne r; exact ⟨_, _, by rw [pc, e, hd1]⟩
  | none :: r => ⟨_, _, rfl⟩
def lets1 (ls : List Nat) : List Nat := ended [13, 10] (ls.map fun c => [c])
theorem lets1_cons (c : Nat) (ls : List Nat) : lets1 (c :: ls) = c :: 13 :: 10 :: lets1 ls := rfl
def rowOf : Option Nat → List Nat
  | some c => [c]
  | none => [46, 46, 46]
theorem jn_cons {sep : List Nat} {p : List Nat} {t : List (List Nat)} (ht : t ≠ []) : jn sep (p :: t) = p ++ sep ++ jn sep t := by
  cases t with
  | nil => exact absurd rfl ht
  | cons q r => rfl
theorem jn_hd1 {sep u : List Nat} {l : List (List Nat)} (h : l ≠ []) : jn sep (hd1 u l) = u ++ jn sep l := by
  cases l with
  | nil => exact absurd rfl h
  | cons p r => cases r with
    | nil => rfl
    | cons q r => simp [hd1, jn]
theorem form_pc : ∀ fr : List (Option Nat), jn [46, 46, 46] (pc fr) = ended [13, 10] (fr.map rowOf)
  | [] => rfl
  | some c :: r => by
    obtain ⟨h, t, e⟩ := pc_ne r
    rw [pc, jn_hd1 (by rw [e]; simp), form_pc r]; rfl
  | none :: r => by
    obtain ⟨h, t, e⟩ := pc_ne r
    rw [pc, jn_cons (by rw [e]; simp [hd1]), jn_hd1 (by rw [e]; simp), form_pc r]; rfl
theorem Mt_pre {u h g : List Nat} {t : List (List Nat)} (x : Mt (h :: t) g) : Mt ((u ++ h) :: t) (u ++ g) := by
  cases t with
  | nil => show u ++ g = u ++ h; rw [show g = h from x]
  | cons q r => obtain ⟨gap, rest, e, m⟩ := x; exact ⟨gap, rest, by rw [e]; simp, m⟩
theorem Mt_unpre {u h g : List Nat} {t : List (List Nat)} (x : Mt ((u ++ h) :: t) g) : ∃ g', g = u ++ g' ∧ Mt (h :: t) g' := by
  cases t with
  | nil => exact ⟨h, x, rfl⟩
  | cons q r => obtain ⟨gap, rest, e, m⟩ := x; exact ⟨h ++ gap ++ rest, by rw [e]; simp, gap, rest, rfl, m⟩
theorem suffix : ∀ {ls gap x : List Nat}, (∀ c ∈ ls, c ≠ 13) → lets1 ls = gap ++ 13 :: x → ∃ j, j < ls.length ∧ x = 10 :: lets1 (ls.drop (j + 1)) ∧ (j = 0 → gap.length = 1)
  | [], gap, x, _, e => by cases gap <;> cases e
  | l :: ls, gap, x, hl, e => by
    rw [lets1_cons] at e
    match gap, e with
    | [], e => cases e; exact absurd rfl (hl 13 (.head _))
    | [a], e => cases e; exact ⟨0, by simp, rfl, fun _ => rfl⟩
    | [a, b], e => cases e
    | a :: b :: c :: gap, e =>
      have e' : lets1 ls = gap ++ 13 :: x := by simp at e; exact e.2.2.2
      obtain ⟨j, h1, h2, _⟩ := suffix (ls := ls) (fun c m => hl c (.tail _ m)) e'
      exact ⟨j + 1, by simpa using h1, by simpa using h2, fun q => by omega⟩
theorem Mt_none {r : List (Option Nat)} {ls : List Nat} (hl : ∀ c ∈ ls, c ≠ 13) (x : Mt (pc (none :: r)) (lets1 ls)) : ∃ j, j < ls.length ∧ Mt (pc r) (lets1 (ls.drop (j + 1))) := by
  obtain ⟨h, t, e⟩ := pc_ne r
  rw [pc, e, hd1] at x
  obtain ⟨gap, rest, e1, m⟩ := x
  obtain ⟨g', e2, m'⟩ := Mt_unpre (u := [13, 10]) m
  rw [e2] at e1
  obtain ⟨j, h1, h2, _⟩ := suffix (ls := ls) (gap := gap) (x := 10 :: g') hl (by rw [e1]; simp)
  cases h2
  exact ⟨j, h1, by rw [e]; exact m'⟩
theorem Mt_some {c : Nat} {r : List (Option Nat)} {ls : List Nat} (x : Mt (pc (some c :: r)) (lets1 ls)) : ∃ ls', ls = c :: ls' ∧ Mt (pc r) (lets1 ls') := by
  obtain ⟨h, t, e⟩ := pc_ne r
  rw [pc, e, hd1] at x
  obtain ⟨g', e2, m'⟩ := Mt_unpre (u := [c, 13, 10]) x
  cases ls with
  | nil => cases e2
  | cons l ls => rw [lets1_cons] at e2; cases e2; exact ⟨ls, rfl, by rw [e]; exact m'⟩
theorem Mt_count : ∀ {fr : List (Option Nat)} {ls : List Nat}, (∀ c ∈ ls, c ≠ 13) → Mt (pc fr) (lets1 ls) → fr.length ≤ ls.length
  | [], ls, _, _ => Nat.zero_le _
  | some c :: r, ls, hl, x => by
    obtain ⟨ls', rfl, m⟩ := Mt_some x
    have := Mt_count (fr := r) (fun c m => hl c (.tail _ m)) m
    simpa using this
  | none :: r, ls, hl, x => by
    obtain ⟨j, h1, m⟩ := Mt_none hl x
    have := Mt_count (fr := r) (fun c m => hl c (List.mem_of_mem_drop m)) m
    simp at this ⊢; omega
/-- the known rows agree -/
def Agree : List (Option Nat) → List Nat → Prop
  | [], [] => True
  | some c :: r, l :: ls => c = l ∧ Agree r ls
  | none :: r, _ :: ls => Agree r ls
  | _, _ => False
theorem Mt_agree : ∀ {fr : List (Option Nat)} {ls : List Nat}, (∀ c ∈ ls, c ≠ 13) → fr.length = ls.length → (Mt (pc fr) (lets1 ls) ↔ Agree fr ls)
  | [], [], _, _ => ⟨fun _ => trivial, fun _ => rfl⟩
  | some c :: r, l :: ls, hl, hn => by
    have ih := Mt_agree (fr := r) (ls := ls) (fun c m => hl c (.tail _ m)) (by simpa using hn)
    constructor
    · intro x
      obtain ⟨ls', e, m⟩ := Mt_some x
      cases e
      exact ⟨rfl, ih.mp m⟩
    · rintro ⟨rfl, a⟩
      obtain ⟨h, t, e⟩ := pc_ne r
      have := ih.mpr a
      rw [e] at this
      rw [pc, e, hd1, lets1_cons]
      exact Mt_pre (u := [c, 13, 10]) this
  | none :: r, l :: ls, hl, hn => by
    have ih := Mt_agree (fr := r) (ls := ls) (fun c m => hl c (.tail _ m)) (by simpa using hn)
    constructor
    · intro x
      obtain ⟨j, h1, m⟩ := Mt_none hl x
      have hc := Mt_count (fr := r) (fun c m => hl c (List.mem_of_mem_drop m)) m
      have hn' : r.length = ls.length := by simpa using hn
      have hc' : r.length ≤ ls.length - j := by simpa using hc
      have h1' : j < ls.length + 1 := by simpa using h1
      have : j = 0 := by omega
      subst this
      exact ih.mp m
    · intro a
      obtain ⟨h, t, e⟩ := pc_ne r
      have := ih.mpr a
      rw [e] at this
      rw [pc, e, hd1, lets1_cons]
      exact ⟨[l], 13 :: 10 :: lets1 ls, rfl, Mt_pre (u := [13, 10]) this⟩
end Mine
end

section
set_option maxRecDepth 100000
set_option linter.unusedVariables false
namespace Mine
open PySem PySem.StrLaws
/-- the first of the found places, or -1 -/
def fstOr (l : List Nat) : Int := match l with | k :: _ => (k : Int) | [] => -1
theorem fstOr_of {arr : Array Nat} {a : Nat} (h : arr[0]? = some a) : fstOr arr.toList = (a : Int) := by
  obtain ⟨l⟩ := arr
  match l, h with
  | k :: _, h => exact congrArg Int.ofNat (Option.some.inj h)
theorem find4_eq {x y : Str} {i j : Nat} (hj : j ≤ x.length) : find4 x y i j = fstOr (forIn (List.range' i (j + 1 - i)) ((#[] : Array Nat), i) (occBody x y j 1)).run.fst.toList := by
  have e : min j x.length = j := by omega
  rw [← occ_eq, find4, e]; rfl
theorem find4_spec (x y : Str) (i j : Nat) (hj : j ≤ x.length) : (find4 x y i j = -1 ∧ ∀ k, i ≤ k → ¬ At x y j k) ∨ ∃ k : Nat, find4 x y i j = (k : Int) ∧ i ≤ k ∧ At x y j k ∧ ∀ q, i ≤ q → q < k → ¬ At x y j q := by
  rw [find4_eq hj]
  have low : ∀ k ∈ List.range' i (j + 1 - i), i ≤ k := fun k m => (List.mem_range'_1.mp m).1
  cases occ_first x y j 1 Nat.one_pos _ i low with
  | inl none =>
    refine .inl ⟨by rw [none.1]; rfl, fun k le at_ => none.2 k ?_ at_⟩
    have := at_.1
    exact List.mem_range'_1.mpr ⟨le, by omega⟩
  | inr one =>
    obtain ⟨_, k, _, cut, hd, at_, before⟩ := one
    have sp := range'_split_from cut
    exact .inr ⟨k, fstOr_of hd, sp.1, at_, fun q le lt => before q (sp.2 q le lt)⟩
/-- the pieces are found in turn -/
def Ch (got : Str) (e : Nat) : List Str → Nat → Prop
  | [], _ => True
  | x :: ws, s => ∃ k, s ≤ k ∧ At got x e k ∧ Ch got e ws (k + x.length)
theorem Ch.mono {got : Str} {e : Nat} : ∀ {ws : List Str} {s s' : Nat}, s' ≤ s → Ch got e ws s → Ch got e ws s'
  | [], _, _, _, _ => trivial
  | x :: ws, s, s', h, ⟨k, h1, h2, h3⟩ => ⟨k, by omega, h2, h3⟩
theorem floop_ch {got : Str} {e : Nat} (he : e ≤ got.length) : ∀ (ws : List Str) (s : Nat), floop got e ws s = true ↔ Ch got e ws s
  | [], s => ⟨fun _ => trivial, fun _ => rfl⟩
  | x :: ws, s => by
    rcases find4_spec got x s e he with ⟨h1, h2⟩ | ⟨k, h1, h2, h3, h4⟩
    · constructor
      · intro q; simp [floop, h1] at q
      · rintro ⟨k, a, b, _⟩; exact absurd b (h2 k a)
    · have ih := floop_ch he ws (k + x.length)
      have e1 : floop got e (x :: ws) s = floop got e ws (k + x.length) := by
        show (if find4 got x s e < 0 then false else floop got e ws ((find4 got x s e).toNat + x.length)) = _
        rw [h1, if_neg (by omega)]
        rfl
      rw [e1, ih]
      constructor
      · intro q; exact ⟨k, h2, h3, q⟩
      · rintro ⟨k', a, b, c⟩
        refine Ch.mono ?_ c
        have : ¬ k' < k := fun q => h4 k' a q b
        omega
theorem at_iff {got x : Str} {e k : Nat} (he : e ≤ got.length) : At got x e k ↔ k + x.length ≤ e ∧ ∃ g, got.cps.toList.drop k = x.cps.toList ++ g := by
  unfold At
  rw [subAt_eq]
  have hx : x.cps.toList.length = x.length := by simp [Str.length]
  constructor
  · rintro ⟨h1, h2⟩
    refine ⟨h1, (got.cps.toList.drop k).drop x.length, ?_⟩
    have := eq_of_beq h2
    rw [← this, List.take_append_drop]
  · rintro ⟨h1, g, h2⟩
    refine ⟨h1, ?_⟩
    rw [h2, ← hx, List.take_left]
    exact beq_self_eq_true _
theorem qmt {got wl : Str} {e : Nat} (hwl : wl.length ≠ 0) (hl : e + wl.length = got.length) (hd : got.cps.toList.drop e = wl.cps.toList) : ∀ (mids : List Str) (s : Nat), (s ≤ e ∧ Ch got e mids s) ↔ ∃ gap rest, got.cps.toList.drop s = gap ++ rest ∧ Mt ((mids ++ [wl]).map fun x => x.cps.toList) rest := by
  have hT : got.cps.toList.length = got.length := by simp [Str.length]
  have hw : wl.cps.toList.length = wl.length := by simp [Str.length]
  intro mids
  induction mids with
  | nil =>
    intro s
    constructor
    · rintro ⟨h, _⟩
      refine ⟨(got.cps.toList.drop s).take (e - s), wl.cps.toList, ?_, rfl⟩
      have : wl.cps.toList = (got.cps.toList.drop s).drop (e - s) := by rw [List.drop_drop, show s + (e - s) = e from by omega, hd]
      rw [this, List.take_append_drop]
    · rintro ⟨gap, rest, h1, h2⟩
      have h2' : rest = wl.cps.toList := h2
      subst h2'
      have := congrArg List.length h1
      simp only [List.length_drop, List.length_append, hT, hw] at this
      exact ⟨by omega, trivial⟩
  | cons x ms ih =>
    intro s
    have hx : x.cps.toList.length = x.length := by simp [Str.length]
    have hne : ∃ q r, (ms ++ [wl]).map (fun x : Str => x.cps.toList) = q :: r := by cases ms <;> simp
    obtain ⟨q, r, hqr⟩ := hne
    constructor
    · rintro ⟨h, k, k1, k2, k3⟩
      obtain ⟨b1, g, b2⟩ := (at_iff (by omega)).mp k2
      obtain ⟨gap, rest, c1, c2⟩ := (ih (k + x.length)).mp ⟨b1, k3⟩
      refine ⟨(got.cps.toList.drop s).take (k - s), got.cps.toList.drop k, ?_, ?_⟩
      · have : got.cps.toList.drop k = (got.cps.toList.drop s).drop (k - s) := by rw [List.drop_drop, show s + (k - s) = k from by omega]
        rw [this, List.take_append_drop]
      · rw [List.cons_append, List.map_cons, hqr]
        rw [hqr] at c2
        refine ⟨gap, rest, ?_, c2⟩
        have : got.cps.toList.drop (k + x.length) = g := by rw [← List.drop_drop, b2, ← hx, List.drop_left]
        rw [b2, ← this, c1]; simp
    · rintro ⟨gap, rest, h1, h2⟩
      rw [List.cons_append, List.map_cons, hqr] at h2
      obtain ⟨gap', rest', h3, h4⟩ := h2
      rw [← hqr] at h4
      have dk : got.cps.toList.drop (s + gap.length) = rest := by rw [← List.drop_drop, h1, List.drop_left]
      have dk2 : got.cps.toList.drop (s + gap.length + x.length) = gap' ++ rest' := by
        rw [← List.drop_drop, dk, h3, List.append_assoc, ← hx, List.drop_left]
      obtain ⟨b1, b2⟩ := (ih (s + gap.length + x.length)).mpr ⟨gap', rest', dk2, h4⟩
      refine ⟨by omega, s + gap.length, by omega, (at_iff (by omega)).mpr ⟨b1, gap' ++ rest', ?_⟩, b2⟩
      rw [dk, h3, List.append_assoc]
theorem ends_iff {got wl : Str} : Txt.endswith got wl = true ↔ wl.length ≤ got.length ∧ got.cps.toList.drop (got.length - wl.length) = wl.cps.toList := by
  unfold Txt.endswith
  have hT : got.cps.toList.length = got.length := by simp [Str.length]
  have hw : wl.cps.toList.length = wl.length := by simp [Str.length]
  rw [Bool.and_eq_true, subAt_eq, decide_eq_true_iff, Nat.zero_add, beq_iff_eq]
  constructor
  · rintro ⟨h1, h2⟩
    refine ⟨h1, ?_⟩
    rwa [List.take_of_length_le (by rw [List.length_drop, hT]; omega)] at h2
  · rintro ⟨h1, h2⟩
    refine ⟨h1, ?_⟩
    rw [h2, ← hw, List.take_length]
theorem starts_iff {got w0 : Str} : Txt.startswith got w0 = true ↔ ∃ g, got.cps.toList = w0.cps.toList ++ g := by
  unfold Txt.startswith
  have hT : got.cps.toList.length = got.length := by simp [Str.length]
  have hw : w0.cps.toList.length = w0.length := by simp [Str.length]
  rw [Bool.and_eq_true, subAt_eq, decide_eq_true_iff, Nat.zero_add, beq_iff_eq, List.drop_zero]
  constructor
  · rintro ⟨h1, h2⟩
    exact ⟨got.cps.toList.drop w0.length, by rw [← h2, List.take_append_drop]⟩
  · rintro ⟨g, h⟩
    have := congrArg List.length h
    rw [List.length_append, hT, hw] at this
    exact ⟨by omega, by rw [h, ← hw, List.take_left]⟩
theorem mt_last : ∀ {mids : List (List Nat)} {wl rest : List Nat}, Mt (mids ++ [wl]) rest → ∃ g, rest = g ++ wl
  | [], wl, rest, h => ⟨[], h⟩
  | [p], wl, rest, h => by obtain ⟨gap, r, e, m⟩ := h; exact ⟨p ++ gap, by rw [e, show r = wl from m]⟩
  | p :: q :: r, wl, rest, h => by
    obtain ⟨gap, r', e, m⟩ := h
    obtain ⟨g, e'⟩ := mt_last (mids := q :: r) m
    exact ⟨p ++ gap ++ g, by rw [e, e']; simp⟩
theorem emF_mt {got w0 wl : Str} {mids : List Str} (hwl : wl.length ≠ 0) : emF got w0 mids wl = true ↔ Mt ((w0 :: (mids ++ [wl])).map fun x => x.cps.toList) got.cps.toList := by
  have hT : got.cps.toList.length = got.length := by simp [Str.length]
  have hw : wl.cps.toList.length = wl.length := by simp [Str.length]
  have hw0 : w0.cps.toList.length = w0.length := by simp [Str.length]
  have hne : ∃ q r, (mids ++ [wl]).map (fun x : Str => x.cps.toList) = q :: r := by cases mids <;> simp
  obtain ⟨q, r, hqr⟩ := hne
  have hM : Mt ((w0 :: (mids ++ [wl])).map fun x => x.cps.toList) got.cps.toList ↔ (∃ g, got.cps.toList = w0.cps.toList ++ g) ∧ ∃ gap rest, got.cps.toList.drop w0.length = gap ++ rest ∧ Mt ((mids ++ [wl]).map fun x => x.cps.toList) rest := by
    rw [List.map_cons, hqr]
    constructor
    · rintro ⟨gap, rest, e, m⟩
      refine ⟨⟨gap ++ rest, by rw [e]; simp⟩, gap, rest, ?_, m⟩
      rw [e, List.append_assoc, ← hw0, List.drop_left]
    · rintro ⟨⟨g, e⟩, gap, rest, e2, m⟩
      refine ⟨gap, rest, ?_, m⟩
      rw [e, ← hw0, List.drop_left] at e2
      rw [e, e2]; simp
  rw [hM]
  by_cases hE : Txt.endswith got wl = true
  · obtain ⟨h1, h2⟩ := ends_iff.mp hE
    have key := qmt (got := got) (wl := wl) (e := got.length - wl.length) hwl (by omega) h2 mids w0.length
    rw [← key, ← starts_iff]
    unfold emF
    have hch : Ch got (got.length - wl.length) ((if w0.length = 0 then [w0] else []) ++ mids) w0.length ↔ Ch got (got.length - wl.length) mids w0.length := by
      by_cases h0 : w0.length = 0
      · rw [if_pos h0]
        constructor
        · rintro ⟨k, a, b, c⟩; exact c.mono (by omega)
        · intro c
          refine ⟨0, by omega, (at_iff (by omega)).mpr ⟨by omega, got.cps.toList, ?_⟩, ?_⟩
          · have : w0.cps.toList = [] := List.eq_nil_of_length_eq_zero (by rw [hw0]; exact h0)
            rw [this]; rfl
          · rw [Nat.zero_add]; exact c
      · rw [if_neg h0]; rfl
    by_cases hS : Txt.startswith got w0 = true
    · rw [if_neg (by rintro ⟨_, q⟩; rw [hS] at q; cases q), if_neg (by rw [hE]; simp)]
      by_cases hB : w0.length > got.length - wl.length
      · rw [if_pos hB]
        constructor
        · intro q; cases q
        · rintro ⟨_, q, _⟩; omega
      · rw [if_neg hB, floop_ch (by omega), hch]
        exact ⟨fun c => ⟨hS, by omega, c⟩, fun c => c.2.2⟩
    · have hS' : Txt.startswith got w0 = false := by simpa using hS
      have h0 : w0.length ≠ 0 := fun q => hS (starts_iff.mpr ⟨got.cps.toList, by rw [List.eq_nil_of_length_eq_zero (hw0.trans q)]; rfl⟩)
      rw [if_pos ⟨h0, hS'⟩]
      constructor
      · intro q; cases q
      · intro q; exact absurd q.1 hS
  · have hE' : Txt.endswith got wl = false := by simpa using hE
    have : ¬ emF got w0 mids wl = true := by
      unfold emF
      by_cases hq : w0.length ≠ 0 ∧ Txt.startswith got w0 = false
      · rw [if_pos hq]; simp
      · rw [if_neg hq, if_pos hE']; simp
    constructor
    · intro q; exact absurd q this
    · rintro ⟨⟨g0, e0⟩, gap, rest, e, m⟩
      exfalso
      apply hE
      rw [List.map_append] at m
      obtain ⟨g, e'⟩ := mt_last m
      have hd : got.cps.toList.drop w0.length = (gap ++ g) ++ wl.cps.toList := by rw [e, e']; simp
      have hlen := congrArg List.length hd
      simp only [List.length_drop, List.length_append, hT, hw] at hlen
      refine ends_iff.mpr ⟨by omega, ?_⟩
      have : got.length - wl.length = w0.length + (gap ++ g).length := by rw [List.length_append]; omega
      rw [this, ← List.drop_drop, hd, List.drop_left]
end Mine
end

section
set_option maxRecDepth 100000
set_option linter.unusedVariables false
namespace Mine
open PySem PySem.W PySem.Calls PyProof.Rows PySem.StrLaws
variable {prog : Program} {w : World} {hb : Heap} {mg mb : Str → Option Value}
def Lt (fr : List (Option Nat)) : Prop := ∀ o ∈ fr, o = none ∨ o = some 97 ∨ o = some 98
theorem pc_free : ∀ {fr : List (Option Nat)}, Lt fr → ∀ p ∈ pc fr, 46 ∉ p
  | [], _, p, hp => by simp [pc] at hp; subst hp; simp
  | some c :: r, h, p, hp => by
    obtain ⟨a, t, e⟩ := pc_ne r
    have ih := pc_free (fr := r) (fun o m => h o (.tail _ m))
    have hc := h (some c) (.head _)
    rw [pc, e, hd1] at hp
    rw [e] at ih
    rcases List.mem_cons.mp hp with rfl | hp
    · have := ih a (.head _)
      rcases hc with hc | hc | hc <;> cases hc <;> simp [this]
    · exact ih p (.tail _ hp)
  | none :: r, h, p, hp => by
    obtain ⟨a, t, e⟩ := pc_ne r
    have ih := pc_free (fr := r) (fun o m => h o (.tail _ m))
    rw [pc, e, hd1] at hp
    rw [e] at ih
    rcases List.mem_cons.mp hp with rfl | hp
    · simp
    rcases List.mem_cons.mp hp with rfl | hp
    · have := ih a (.head _)
      simp [this]
    · exact ih p (.tail _ hp)
theorem pc_tail : ∀ fr : List (Option Nat), ∀ p ∈ (pc fr).tail, 2 ≤ p.length
  | [], p, hp => by simp [pc] at hp
  | some c :: r, p, hp => by
    obtain ⟨a, t, e⟩ := pc_ne r
    have ih := pc_tail r
    rw [pc, e, hd1] at hp
    rw [e] at ih
    exact ih p hp
  | none :: r, p, hp => by
    obtain ⟨a, t, e⟩ := pc_ne r
    have ih := pc_tail r
    rw [pc, e, hd1] at hp
    rw [e] at ih
    rcases List.mem_cons.mp hp with rfl | hp
    · simp
    · exact ih p hp
theorem pc_size : ∀ fr : List (Option Nat), (pc fr).length ≤ fr.length + 1 ∧ ∀ p ∈ pc fr, p.length ≤ 3 * fr.length
  | [] => by simp [pc]
  | some c :: r => by
    obtain ⟨a, t, e⟩ := pc_ne r
    have ih := pc_size r
    rw [e] at ih
    rw [pc, e, hd1]
    refine ⟨by have := ih.1; simp at this ⊢; omega, fun p hp => ?_⟩
    rcases List.mem_cons.mp hp with rfl | hp
    · have := ih.2 a (.head _); simp; omega
    · have := ih.2 p (.tail _ hp); simp; omega
  | none :: r => by
    obtain ⟨a, t, e⟩ := pc_ne r
    have ih := pc_size r
    rw [e] at ih
    rw [pc, e, hd1]
    refine ⟨by have := ih.1; simp at this ⊢; omega, fun p hp => ?_⟩
    rcases List.mem_cons.mp hp with rfl | hp
    · simp
    rcases List.mem_cons.mp hp with rfl | hp
    · have := ih.2 a (.head _); simp; omega
    · have := ih.2 p (.tail _ hp); simp; omega
theorem mark_mk : mark = mk [46, 46, 46] := by decide
theorem form_len : ∀ fr : List (Option Nat), (ended [13, 10] (fr.map rowOf)).length ≤ 5 * fr.length
  | [] => by simp [ended]
  | o :: r => by
    have ih := form_len r
    have : (ended [13, 10] ((o :: r).map rowOf)).length = (rowOf o).length + 2 + (ended [13, 10] (r.map rowOf)).length := by simp [ended]; omega
    have h2 : (rowOf o).length ≤ 3 := by cases o <;> simp [rowOf]
    rw [this, List.length_cons]; omega
theorem lets_len : ∀ ls : List Nat, (lets1 ls).length = 3 * ls.length
  | [] => rfl
  | c :: ls => by rw [lets1_cons]; simp [lets_len ls]; omega
open Classical in
theorem match_fn (B : Bs (KK w) hb mg mb) (fr : List (Option Nat)) (ls : List Nat) (hfr : Lt fr) (hls : ∀ c ∈ ls, c ≠ 13) (hn : fr.length = ls.length) (h7 : fr.length ≤ 20) :
    Fn prog w hb 80 true 2 [.str (mk (ended [13, 10] (fr.map rowOf))), .str (mk (lets1 ls))] (.bool (decide (Agree fr ls))) := by
  have hma := Mt_agree (fr := fr) (ls := ls) hls hn
  have hkind : Builtin.Str.strKind (mk (46 :: [46, 46])) = 1 := by decide +kernel
  have hlen := form_len fr
  have hlen2 := lets_len ls
  obtain ⟨p, t, e⟩ := pc_ne fr
  have hfree := pc_free hfr
  obtain ⟨hs1, hs2⟩ := split_pieces (sr := [46, 46]) hkind (pc fr) (by rw [e]; simp) hfree
  have hsz := pc_size fr
  rw [form_pc] at hs1 hs2
  cases t with
  | nil =>
    have hc : Txt.contains (mk (ended [13, 10] (fr.map rowOf))) mark = false := by
      have := occ_all (c0 := 46) (sr := [46, 46]) (pc fr) (by rw [e]; simp) hfree (limit := 1) (by rw [e]; simp)
      rw [form_pc] at this
      unfold Txt.contains
      rw [mark_mk, this, e]; rfl
    have h := em_plain (prog := prog) B (mk (ended [13, 10] (fr.map rowOf))) (mk (lets1 ls)) hc
    have eq : ((mk (ended [13, 10] (fr.map rowOf))).cps.toList == (mk (lets1 ls)).cps.toList) = decide (Agree fr ls) := by
      rw [mk_cps, mk_cps, Bool.eq_iff_iff, beq_iff_eq, decide_eq_true_iff, ← hma, e, ← form_pc, e]
      exact eq_comm
    rw [eq] at h; exact h
  | cons q r =>
    obtain ⟨mids, wl, hm⟩ : ∃ mids wl, q :: r = mids ++ [wl] := by
      rcases List.eq_nil_or_concat (q :: r) with h | ⟨a, b, h⟩
      · cases h
      · exact ⟨a, b, by simpa using h⟩
    have hwl : 2 ≤ wl.length := pc_tail fr wl (by rw [e]; show wl ∈ q :: r; rw [hm]; simp)
    rw [e, hm] at hs1 hs2
    have hc : Txt.contains (mk (ended [13, 10] (fr.map rowOf))) mark = true := by
      unfold Txt.contains
      rcases occ_head (mk (ended [13, 10] (fr.map rowOf))) mark 1 (Nat.le_refl _) with ⟨h1, h2⟩ | ⟨i, rr, h1, _⟩
      · exfalso
        have h3 := occ_all (c0 := 46) (sr := [46, 46]) (pc fr) (by rw [e]; simp) hfree (limit := (pc fr).length) (Nat.le_refl _)
        rw [form_pc] at h3
        rcases occ_head (mk (ended [13, 10] (fr.map rowOf))) mark (pc fr).length (by rw [e]; simp) with ⟨h4, _⟩ | ⟨i, rr, _, h5, _⟩
        · rw [mark_mk] at h4
          rw [h4, e] at h3
          simp [cuts] at h3
        · exact h2 i h5
      · rw [h1]; rfl
    have h := em_fn (prog := prog) B (mk (ended [13, 10] (fr.map rowOf))) (mk (lets1 ls)) (mk p) (mk wl) (mids.map mk) hc (by rw [mark_mk, hs1]; simp) (by rw [mk_len]; omega) (by rw [mk_len]; omega) (by rw [mk_len]; omega) ?_ ?_ ?_
    · have eq : emF (mk (lets1 ls)) (mk p) (mids.map mk) (mk wl) = decide (Agree fr ls) := by
        rw [Bool.eq_iff_iff, emF_mt (by rw [mk_len]; omega), decide_eq_true_iff, ← hma, e, hm, mk_cps]
        simp [mk_cps, Function.comp_def]
      rw [eq] at h; exact h
    · intro x hx
      have : x ∈ (pc fr).map mk := by rw [e, hm]; simpa using hx
      obtain ⟨y, hy, rfl⟩ := List.mem_map.mp this
      have := hsz.2 y hy
      rw [mk_len]; omega
    · have := hsz.1
      rw [e, hm] at this
      simp at this ⊢; omega
    · rw [mark_mk, hs2]
      have := hsz.1
      rw [e, hm] at this
      simp at this ⊢; unfold sizeLine; omega
end Mine
end

section
set_option maxRecDepth 100000
set_option linter.unusedVariables false
namespace Mine
open PySem PySem.W PySem.Calls PyProof.Rows PySem.StrLaws
variable {prog : Program} {w : World} {hb : Heap} {mg mb : Str → Option Value}
theorem sub2_mk (l : List Nat) : sub2 (mk l) = mk (l.flatMap crlf) := by
  unfold sub2 subst
  have h := tr_brk [13, 10] l []
  simp only [List.nil_append, List.length_nil] at h
  have e1 : (mk l).cps = l.toArray := rfl
  have e2 : (mk l).cps.size = l.length := by simp [mk]
  rw [e2, e1, show (Str.ofString "\r\n").cps.toList = [13, 10] from rfl, h]
  rfl
theorem sub1_mk (l : List Nat) : sub1 (mk l) = mk (dotL 10 l) := by
  unfold sub1 subst
  have h := tr_dot l []
  simp only [List.nil_append, List.length_nil, List.getLast?_nil, Option.getD_none] at h
  have e1 : (mk l).cps = l.toArray := rfl
  have e2 : (mk l).cps.size = l.length := by simp [mk]
  rw [e2, e1, show (Str.ofString "..").cps.toList = [46, 46] from rfl, h]
  rfl
/-- rows without ends of lines in them -/
def Plain (rows : List (List Nat)) : Prop := ∀ r ∈ rows, ∀ c ∈ r, c ≠ 10 ∧ c ≠ 13
theorem ended_mem {e : List Nat} {rows : List (List Nat)} {c : Nat} (h : c ∈ ended e rows) : (∃ r ∈ rows, c ∈ r) ∨ c ∈ e := by
  obtain ⟨r, hr, hc⟩ := List.mem_flatMap.mp h
  rcases List.mem_append.mp hc with h | h
  · exact .inl ⟨r, hr, h⟩
  · exact .inr h
theorem getD_mem {l : List Nat} {s c : Nat} (hc : c ≠ 0) (h : (mk l).cps.getD s 0 = c) : c ∈ l := by
  have : (mk l).cps.getD s 0 = l.getD s 0 := by simp [mk, Array.getD, List.getD, List.getElem?_eq_some_iff]; split <;> simp_all
  rw [this] at h
  rw [List.getD] at h
  cases q : l[s]? with
  | none => rw [q] at h; exact absurd h.symm hc
  | some d => rw [q] at h; simp at h; subst h; exact List.mem_of_getElem? q
theorem nopair {e : Nat} (he : e = 10 ∨ e = 13) {rows : List (List Nat)} (h : Plain rows) : NoPair (mk (ended [e] rows)).cps (mk (ended [e] rows)).cps.size := by
  intro s h1 ⟨_, h2⟩
  have m1 := getD_mem (by decide) h1
  have m2 := getD_mem (by decide) h2
  rcases ended_mem m1 with ⟨r, hr, hc⟩ | hc
  · exact (h r hr 13 hc).2 rfl
  · rcases ended_mem m2 with ⟨r, hr, hc'⟩ | hc'
    · exact (h r hr 10 hc').1 rfl
    · simp at hc hc'; omega
theorem quote_rows (B : Bs (KK w) hb mg mb) {e : Nat} (he : e = 10 ∨ e = 13) (rows : List (List Nat)) (h : Plain rows) (hl : (ended [e] rows).length ≤ 100) : Fn prog w hb 97 true 1 [.str (mk (ended [e] rows))] (.str (mk (ended [13, 10] (rows.map dotted)))) := by
  have := quotedata_fn (prog := prog) B (mk (ended [e] rows)) (by simpa [mk] using hl) (nopair he h)
  rw [sub2_mk, crlf_ended he h, sub1_mk, dotL_ended (fun r hr c hc => (h r hr c hc).1)] at this
  exact this
theorem ended_jn : ∀ rs : List (List Nat), ended [13, 10] rs = jn [13, 10] (rs ++ [[]])
  | [] => rfl
  | r :: rs => by
    rw [List.cons_append, jn_cons (by simp), ← ended_jn rs]
    simp [ended]
theorem split_rows (rs : List (List Nat)) (h : ∀ r ∈ rs, 13 ∉ r) : Txt.split (mk (ended [13, 10] rs)) (Str.ofString "\r\n") = rs.map mk ++ [mk []] ∧
    (Builtin.Str.partsBetween (mk (ended [13, 10] rs)) (Builtin.Str.occurrences (mk (ended [13, 10] rs)) (Str.ofString "\r\n") 0 (mk (ended [13, 10] rs)).length ((mk (ended [13, 10] rs)).length + 1)) (Str.ofString "\r\n").length).length = rs.length + 1 := by
  have hk : Builtin.Str.strKind (mk (13 :: [10])) = 1 := by decide +kernel
  have e : Str.ofString "\r\n" = mk (13 :: [10]) := by decide
  obtain ⟨h1, h2⟩ := split_pieces (sr := [10]) hk (rs ++ [[]]) (by simp) (fun p hp => by
    rcases List.mem_append.mp hp with q | q
    · exact h p q
    · rw [List.mem_singleton.mp q]; simp)
  rw [← ended_jn] at h1 h2
  rw [e, h1, h2]
  simp
end Mine
end

section
set_option maxRecDepth 100000
set_option linter.unusedVariables false
namespace Mine
/-- the number of choices among ws whose xor is d -/
def nch : List Nat → Nat → Nat
  | [], d => if d = 0 then 1 else 0
  | x :: ws, d => nch ws d + nch ws (d ^^^ x)
theorem nch_snoc : ∀ (ws : List Nat) (x d : Nat), nch (ws ++ [x]) d = nch ws d + nch ws (d ^^^ x)
  | [], x, d => rfl
  | y :: ws, x, d => by
    simp only [List.cons_append, nch]
    rw [nch_snoc ws x d, nch_snoc ws x (d ^^^ y)]
    rw [Nat.xor_assoc, Nat.xor_comm y x, ← Nat.xor_assoc]
    omega
theorem xor_cancel (d x : Nat) : d ^^^ x ^^^ x = d := by rw [Nat.xor_assoc, Nat.xor_self, Nat.xor_zero]
theorem mem_xstep {r : List Nat} {x d : Nat} (hx : x ∉ r) : d ∈ xstep r x ↔ d ∈ r ∨ d ^^^ x ∈ r := by
  unfold xstep
  rw [if_neg (by simpa using hx), List.mem_append, List.mem_map]
  constructor
  · rintro (h | ⟨a, h1, rfl⟩)
    · exact .inl h
    · right; rw [xor_cancel]; exact h1
  · rintro (h | h)
    · exact .inl h
    · exact .inr ⟨d ^^^ x, h, xor_cancel d x⟩
/-- a row closed under xor -/
structure Grp (r : List Nat) : Prop where
  zero : 0 ∈ r
  xor : ∀ a ∈ r, ∀ b ∈ r, a ^^^ b ∈ r
theorem Grp.step {r : List Nat} (g : Grp r) (x : Nat) : Grp (xstep r x) := by
  by_cases hx : x ∈ r
  · have : xstep r x = r := by unfold xstep; rw [if_pos (by simpa using hx)]
    rw [this]; exact g
  · refine ⟨(mem_xstep hx).mpr (.inl g.zero), fun a ha b hb => (mem_xstep hx).mpr ?_⟩
    rcases (mem_xstep hx).mp ha with ha | ha <;> rcases (mem_xstep hx).mp hb with hb | hb
    · exact .inl (g.xor a ha b hb)
    · right; rw [Nat.xor_assoc]; exact g.xor _ ha _ hb
    · right
      have := g.xor _ ha _ hb
      rwa [Nat.xor_assoc, Nat.xor_comm x b, ← Nat.xor_assoc] at this
    · left
      have := g.xor _ ha _ hb
      rwa [Nat.xor_assoc, Nat.xor_comm b x, ← Nat.xor_assoc x, Nat.xor_self, Nat.zero_xor] at this
theorem xors_grp (ws : List Nat) : Grp (xors ws) := by
  have : ∀ (ws : List Nat) (r : List Nat), Grp r → Grp (ws.foldl xstep r) := by
    intro ws
    induction ws with
    | nil => intro r g; exact g
    | cons x ws ih => intro r g; exact ih _ (g.step x)
  exact this ws [0] ⟨by simp, by simp⟩
theorem grp_shift {r : List Nat} (g : Grp r) {x d : Nat} (hx : x ∈ r) : d ^^^ x ∈ r ↔ d ∈ r :=
  ⟨fun h => by have := g.xor _ h _ hx; rwa [xor_cancel] at this, fun h => g.xor _ h _ hx⟩
theorem nch_xors (ws : List Nat) : ∀ d, (d ∈ xors ws → nch ws d * (xors ws).length = 2 ^ ws.length) ∧ (d ∉ xors ws → nch ws d = 0) := by
  induction h : ws.length generalizing ws with
  | zero =>
    intro d
    have : ws = [] := List.eq_nil_of_length_eq_zero h
    subst this
    constructor
    · intro hd; simp [xors] at hd; subst hd; rfl
    · intro hd; simp [xors] at hd; simp [nch, hd]
  | succ n ih =>
    obtain ⟨us, x, rfl⟩ : ∃ us x, ws = us ++ [x] := by
      rcases List.eq_nil_or_concat ws with rfl | ⟨a, b, e⟩
      · simp at h
      · exact ⟨a, b, by simpa using e⟩
    have ih := ih us (by simpa using h)
    have hl : us.length = n := by simpa using h
    have g := xors_grp us
    intro d
    rw [xors_snoc, nch_snoc]
    by_cases hx : x ∈ xors us
    · have e : xstep (xors us) x = xors us := by unfold xstep; rw [if_pos (by simpa using hx)]
      rw [e]
      have hs := grp_shift g (d := d) hx
      constructor
      · intro hd
        rw [Nat.add_mul, (ih d).1 hd, (ih (d ^^^ x)).1 (hs.mpr hd), Nat.pow_succ]; omega
      · intro hd
        rw [(ih d).2 hd, (ih (d ^^^ x)).2 (fun q => hd (hs.mp q))]
    · have el : (xstep (xors us) x).length = 2 * (xors us).length := by
        unfold xstep; rw [if_neg (by simpa using hx)]; simp; omega
      rw [mem_xstep hx, el]
      constructor
      · rintro (hd | hd)
        · have hn : d ^^^ x ∉ xors us := fun q => hx (by
            have := g.xor _ hd _ q
            rwa [← Nat.xor_assoc, Nat.xor_self, Nat.zero_xor] at this)
          rw [(ih (d ^^^ x)).2 hn, Nat.add_zero, Nat.mul_comm 2, ← Nat.mul_assoc, (ih d).1 hd, Nat.pow_succ]
        · have hn : d ∉ xors us := fun q => hx (by
            have := g.xor _ q _ hd
            rwa [← Nat.xor_assoc, Nat.xor_self, Nat.zero_xor] at this)
          rw [(ih d).2 hn, Nat.zero_add, Nat.mul_comm 2, ← Nat.mul_assoc, (ih (d ^^^ x)).1 hd, Nat.pow_succ]
      · intro hd
        rw [(ih d).2 (fun q => hd (.inl q)), (ih (d ^^^ x)).2 (fun q => hd (.inr q))]
end Mine
end

section
set_option maxRecDepth 100000
set_option linter.unusedVariables false
namespace Mine
/-- the number of choices at the lost places, the known fixed -/
def cnt : List (Bool × Bool × Nat) → Nat → Nat
  | [], x => if x = 0 then 1 else 0
  | (lost, l, v) :: r, x => (if (lost || !l) = true then cnt r x else 0) + (if (lost || l) = true then cnt r (x ^^^ v) else 0)
def lw (l : List (Bool × Bool × Nat)) : List Nat := (l.filter (·.1)).map (·.2.2)
def du : List (Bool × Bool × Nat) → Nat
  | [] => 0
  | (lost, l, v) :: r => (if (!lost && l) = true then v else 0) ^^^ du r
theorem cnt_nch : ∀ (l : List (Bool × Bool × Nat)) (x : Nat), cnt l x = nch (lw l) (x ^^^ du l)
  | [], x => by simp [cnt, lw, nch, du]
  | (lost, b, v) :: r, x => by
    have h1 := cnt_nch r x
    have h2 := cnt_nch r (x ^^^ v)
    cases lost with
    | true =>
      have e1 : lw ((true, b, v) :: r) = v :: lw r := by simp [lw]
      have e2 : du ((true, b, v) :: r) = du r := by simp [du]
      rw [e1, e2]
      simp only [cnt, nch, Bool.true_or, if_true, h1, h2]
      rw [Nat.xor_assoc x v, Nat.xor_comm v, ← Nat.xor_assoc]
    | false =>
      have e1 : lw ((false, b, v) :: r) = lw r := by simp [lw]
      rw [e1]
      cases b with
      | true =>
        have e2 : du ((false, true, v) :: r) = v ^^^ du r := by simp [du]
        rw [e2]
        simp [cnt, h2, Nat.xor_assoc]
      | false =>
        have e2 : du ((false, false, v) :: r) = du r := by simp [du]
        rw [e2]
        simp [cnt, h1]
def b3 (o4 o5 o6 l4 l5 l6 : Bool) (x : Nat) : Bool := (o4 || (x.testBit 0 == l4)) && (o5 || (x.testBit 1 == l5)) && (o6 || (x.testBit 2 == l6))
theorem cnt3 : ∀ (o4 o5 o6 l4 l5 l6 : Bool) (x : Fin 8), cnt [(o4, l4, 1), (o5, l5, 2), (o6, l6, 4)] x.val = if b3 o4 o5 o6 l4 l5 l6 x.val = true then 1 else 0 := by decide
theorem ifadd (a : Bool) (x y : Nat) : (if a = true then x + y else 0) = (if a = true then x else 0) + (if a = true then y else 0) := by cases a <;> simp
theorem ifif (a b : Bool) (x : Nat) : (if a = true then (if b = true then x else 0) else 0) = if (a && b) = true then x else 0 := by cases a <;> cases b <;> simp
def chk (w0 w1 w2 w3 n : Nat) : Nat := (if n.testBit 0 then w0 else 0) ^^^ (if n.testBit 1 then w1 else 0) ^^^ (if n.testBit 2 then w2 else 0) ^^^ (if n.testBit 3 then w3 else 0)
theorem count16 (F : Bool → Bool → Bool → Bool → Bool) : (List.range 16).countP (fun n => F (n.testBit 0) (n.testBit 1) (n.testBit 2) (n.testBit 3)) = (if F true true true true = true then 1 else 0) + (if F false true true true = true then 1 else 0) + (if F true false true true = true then 1 else 0) + (if F false false true true = true then 1 else 0) + (if F true true false true = true then 1 else 0) + (if F false true false true = true then 1 else 0) + (if F true false false true = true then 1 else 0) + (if F false false false true = true then 1 else 0) + (if F true true true false = true then 1 else 0) + (if F false true true false = true then 1 else 0) + (if F true false true false = true then 1 else 0) + (if F false false true false = true then 1 else 0) + (if F true true false false = true then 1 else 0) + (if F false true false false = true then 1 else 0) + (if F true false false false = true then 1 else 0) + (if F false false false false = true then 1 else 0) := by
  show List.countP _ [0, 1, 2, 3, 4, 5, 6, 7, 8, 9, 10, 11, 12, 13, 14, 15] = _
  simp only [List.countP_cons, List.countP_nil, Nat.zero_add, show Nat.testBit 0 0 = false from rfl, show Nat.testBit 0 1 = false from rfl, show Nat.testBit 0 2 = false from rfl, show Nat.testBit 0 3 = false from rfl, show Nat.testBit 1 0 = true from rfl, show Nat.testBit 1 1 = false from rfl, show Nat.testBit 1 2 = false from rfl, show Nat.testBit 1 3 = false from rfl, show Nat.testBit 2 0 = false from rfl, show Nat.testBit 2 1 = true from rfl, show Nat.testBit 2 2 = false from rfl, show Nat.testBit 2 3 = false from rfl, show Nat.testBit 3 0 = true from rfl, show Nat.testBit 3 1 = true from rfl, show Nat.testBit 3 2 = false from rfl, show Nat.testBit 3 3 = false from rfl, show Nat.testBit 4 0 = false from rfl, show Nat.testBit 4 1 = false from rfl, show Nat.testBit 4 2 = true from rfl, show Nat.testBit 4 3 = false from rfl, show Nat.testBit 5 0 = true from rfl, show Nat.testBit 5 1 = false from rfl, show Nat.testBit 5 2 = true from rfl, show Nat.testBit 5 3 = false from rfl, show Nat.testBit 6 0 = false from rfl, show Nat.testBit 6 1 = true from rfl, show Nat.testBit 6 2 = true from rfl, show Nat.testBit 6 3 = false from rfl, show Nat.testBit 7 0 = true from rfl, show Nat.testBit 7 1 = true from rfl, show Nat.testBit 7 2 = true from rfl, show Nat.testBit 7 3 = false from rfl, show Nat.testBit 8 0 = false from rfl, show Nat.testBit 8 1 = false from rfl, show Nat.testBit 8 2 = false from rfl, show Nat.testBit 8 3 = true from rfl, show Nat.testBit 9 0 = true from rfl, show Nat.testBit 9 1 = false from rfl, show Nat.testBit 9 2 = false from rfl, show Nat.testBit 9 3 = true from rfl, show Nat.testBit 10 0 = false from rfl, show Nat.testBit 10 1 = true from rfl, show Nat.testBit 10 2 = false from rfl, show Nat.testBit 10 3 = true from rfl, show Nat.testBit 11 0 = true from rfl, show Nat.testBit 11 1 = true from rfl, show Nat.testBit 11 2 = false from rfl, show Nat.testBit 11 3 = true from rfl, show Nat.testBit 12 0 = false from rfl, show Nat.testBit 12 1 = false from rfl, show Nat.testBit 12 2 = true from rfl, show Nat.testBit 12 3 = true from rfl, show Nat.testBit 13 0 = true from rfl, show Nat.testBit 13 1 = false from rfl, show Nat.testBit 13 2 = true from rfl, show Nat.testBit 13 3 = true from rfl, show Nat.testBit 14 0 = false from rfl, show Nat.testBit 14 1 = true from rfl, show Nat.testBit 14 2 = true from rfl, show Nat.testBit 14 3 = true from rfl, show Nat.testBit 15 0 = true from rfl, show Nat.testBit 15 1 = true from rfl, show Nat.testBit 15 2 = true from rfl, show Nat.testBit 15 3 = true from rfl]
theorem cnt_cons (o l : Bool) (v : Nat) (r : List (Bool × Bool × Nat)) (x : Nat) : cnt ((o, l, v) :: r) x = (if (o || !l) = true then cnt r x else 0) + (if (o || l) = true then cnt r (x ^^^ v) else 0) := rfl
def bx (b : Bool) (v : Nat) : Nat := if b = true then v else 0
def chkb (w0 w1 w2 w3 : Nat) (a b c d : Bool) : Nat := bx a w0 ^^^ bx b w1 ^^^ bx c w2 ^^^ bx d w3
theorem cnt_four {w0 w1 w2 w3 : Nat} (h0 : w0 < 8) (h1 : w1 < 8) (h2 : w2 < 8) (h3 : w3 < 8) (T : List (Bool × Bool × Nat)) (B : Nat → Bool) (key : ∀ x, x < 8 → cnt T x = if B x = true then 1 else 0) (o0 o1 o2 o3 l0 l1 l2 l3 : Bool) :
    (List.range 16).countP (fun n => (o0 || (n.testBit 0 == l0)) && ((o1 || (n.testBit 1 == l1)) && ((o2 || (n.testBit 2 == l2)) && ((o3 || (n.testBit 3 == l3)) && B (chkb w0 w1 w2 w3 (n.testBit 0) (n.testBit 1) (n.testBit 2) (n.testBit 3)))))) =
      cnt ((o0, l0, w0) :: (o1, l1, w1) :: (o2, l2, w2) :: (o3, l3, w3) :: T) 0 := by
  have x8 : ∀ {a b : Nat}, a < 8 → b < 8 → a ^^^ b < 8 := fun {a b} ha hb => Nat.xor_lt_two_pow (n := 3) ha hb
  have e := count16 (fun a b c d => (o0 || (a == l0)) && ((o1 || (b == l1)) && ((o2 || (c == l2)) && ((o3 || (d == l3)) && B (chkb w0 w1 w2 w3 a b c d)))))
  rw [e]
  simp only [cnt_cons, Nat.zero_xor]
  rw [key 0 (by omega), key w3 h3, key w2 h2, key (w2 ^^^ w3) (x8 h2 h3), key w1 h1, key (w1 ^^^ w3) (x8 h1 h3), key (w1 ^^^ w2) (x8 h1 h2), key (w1 ^^^ w2 ^^^ w3) (x8 (x8 h1 h2) h3),
    key w0 h0, key (w0 ^^^ w3) (x8 h0 h3), key (w0 ^^^ w2) (x8 h0 h2), key (w0 ^^^ w2 ^^^ w3) (x8 (x8 h0 h2) h3), key (w0 ^^^ w1) (x8 h0 h1), key (w0 ^^^ w1 ^^^ w3) (x8 (x8 h0 h1) h3), key (w0 ^^^ w1 ^^^ w2) (x8 (x8 h0 h1) h2), key (w0 ^^^ w1 ^^^ w2 ^^^ w3) (x8 (x8 (x8 h0 h1) h2) h3)]
  simp only [ifadd, ifif, chkb, bx, Bool.false_eq_true, if_false, if_true, Nat.zero_xor, Nat.xor_zero, Bool.true_beq, Bool.false_beq, Bool.and_assoc]
  omega
end Mine
end

section
set_option maxRecDepth 100000
set_option linter.unusedVariables false
namespace Mine
open PySem PySem.W PySem.Calls PyProof.Rows
variable {prog : Program} {w : World} {hb : Heap} {mg mb : Str → Option Value}
def W4 (ns : List Int) : List Nat := ((ns.take 4).map fun x => (x % 8).toNat) ++ [3, 5, 6, 7].drop (ns.take 4).length
def WW (ns : List Int) : List Nat := W4 ns ++ [1, 2, 4]
def MO (ns : List Int) : List Int := ((ns.take 7).drop 4) ++ [9, 0, 157590].drop ((ns.take 7).drop 4).length
theorem eL4 {A : Around} {env : Env} {t : Bool} {α : Al} (no : hb.get? 47 = none ∧ hb.get? 54 = none) {e e' e'' e3 : Expr} {v v' v'' v3 : AV} (he : Ev prog w hb A env t α e v) (he' : Ev prog w hb A env t α e' v') (he'' : Ev prog w hb A env t α e'' v'') (he3 : Ev prog w hb A env t α e3 v3)
    (hs : starEach [e, e', e'', e3] env = (false, eval e env) :: starEach [e', e'', e3] env := by rfl)
    (hs' : starEach [e', e'', e3] env = (false, eval e' env) :: starEach [e'', e3] env := by rfl) (hs'' : starEach [e'', e3] env = (false, eval e'' env) :: starEach [e3] env := by rfl) (hs3 : starEach [e3] env = (false, eval e3 env) :: starEach [] env := by rfl) : EvL prog w hb A env t α [e, e', e'', e3] [v, v', v'', v3] :=
  EvL_cons no he (eL3 no he' he'' he3 hs' hs'' hs3) hs
theorem WW_len (ns : List Int) : (WW ns).length = 7 := by
  unfold WW W4
  simp; omega
theorem MO_len (ns : List Int) : (MO ns).length = 3 := by
  unfold MO
  simp; omega
def chkp (W : List Nat) (n : Nat) : Nat → Nat
  | 0 => 0
  | j + 1 => if n / 2 ^ j % 2 = 1 then chkp W n j ^^^ W.getD j 0 else chkp W n j
def wordOf (W : List Nat) (n : Nat) : Nat := n + 16 * chkp W n 4
theorem bit_val (n j : Nat) : Int.fmod (Int.fdiv (n : Int) (2 ^ (j : Int).toNat)) 2 = ((n / 2 ^ j % 2 : Nat) : Int) := by
  rw [shr_nat, Int.fmod_eq_emod_of_nonneg _ (by decide)]; rfl
theorem bit_eq (n j : Nat) : (Int.fmod (Int.fdiv (n : Int) (2 ^ (j : Int).toNat)) 2 == (1 : Int)) = decide (n / 2 ^ j % 2 = 1) := by
  rw [bit_val]
  by_cases h : n / 2 ^ j % 2 = 1
  · rw [h]; rfl
  · rw [decide_eq_false h]
    have : ((n / 2 ^ j % 2 : Nat) : Int) ≠ 1 := fun q => h (by omega)
    exact beq_false_of_ne this
theorem ci_getD {W : List Nat} {j : Nat} (h : j < W.length) : (ci W)[j]? = some ((W.getD j 0 : Nat) : Int) := ci_get (by simp [List.getD, h])
theorem chkp_lt {W : List Nat} (n : Nat) (hW : ∀ x ∈ W, x < 8) : ∀ j, chkp W n j < 8
  | 0 => by simp [chkp]
  | j + 1 => by
    have ih := chkp_lt n hW j
    unfold chkp
    split
    · refine Nat.xor_lt_two_pow (n := 3) ih ?_
      by_cases hj : j < W.length
      · have : W.getD j 0 = W[j] := by simp [List.getD, hj]
        rw [this]; exact hW _ (List.getElem_mem _)
      · have : W.getD j 0 = 0 := by simp [List.getD, hj]
        rw [this]; decide
    · exact ih
theorem WW_lt (ns : List Int) : ∀ x ∈ WW ns, x < 8 := by
  intro x hx
  unfold WW W4 at hx
  rcases List.mem_append.mp hx with hx | hx
  · rcases List.mem_append.mp hx with hx | hx
    · obtain ⟨y, _, rfl⟩ := List.mem_map.mp hx
      have := Int.emod_nonneg y (show (8 : Int) ≠ 0 by decide)
      have := Int.emod_lt_of_pos y (show (0 : Int) < 8 by decide)
      omega
    · have := List.mem_of_mem_drop hx
      simp at this; omega
  · simp at hx; omega
theorem WW_tail (ns : List Int) : (WW ns).drop 4 = [1, 2, 4] := by
  unfold WW
  have h : (W4 ns).length = 4 := by unfold W4; simp; omega
  rw [List.drop_append, h]
  simp [h]
theorem law_front (B : Bs (KK w) hb mg mb) (ns : List Int) (hn : ns.length ≤ 63) {o : Obj} {name : Str} {params : Arguments} {body : List Stmt} {scope : Scope} {pm cd' doc : Value} (ho : (KK w).lookup 117 = some o) (hd : o.data = .func (docDef name params body scope pm cd' doc))
    (A' : Around) (rm : Room A' 40) (L f : Addr) (cd : Value) (O : Addr → Prop) (h₀ : Heap)
    (tail : ∀ (W : List Nat) (M : List Int), W.length = 7 → (∀ x ∈ W, x < 8) → W.drop 4 = [1, 2, 4] → M.length = 3 → Sx true prog w hb h₀ A' (envOfC name scope L f cd) O none [(Str.ofString "words", .li (ci ((List.range 16).map (wordOf W)))), (Str.ofString "weights", .li (ci W)), (Str.ofString "more", .li M)] (body.drop 5) (.rt (.bool true))) : Sx true prog w hb h₀ A' (envOfC name scope L f cd) O none [(Str.ofString "script", .li ns)] body (.rt (.bool true)) := by
  have ho' : (KK w).lookup 117 = some _ := rfl
  rw [ho'] at ho
  cases ho
  cases hd
  clear ho'
  have tail := fun h8 h1 h2 h3 => tail (WW ns) (MO ns) h1 h8 h2 h3
  have e8 : ∀ x : Int, x.fmod 8 = ((x % 8).toNat : Nat) := fun x => by rw [Int.fmod_eq_emod_of_nonneg _ (by decide)]; omega
  refine Sx_cons (S_comp (v := .li (ci ((ns.take 4).map fun x => (x % 8).toNat))) (f := fun v => .int ((iOf v).fmod 8)) (p := fun _ => true) rm.hd (comp_ok []) rfl rfl (Ev_slice_to B.no eN Ev_int ?_ (by decide)) rfl ?_ (fun _ _ _ => Ts_nil) ?_ (fun _ _ _ _ _ r => r) ?_ rfl (fun _ => rfl)) ?_
  · unfold sizeLine; omega
  · rw [List.length_map, List.length_take]; unfold sizeLine; omega
  · intro a ha _ cell
    obtain ⟨x, hx, rfl⟩ := List.mem_map.mp ha
    exact Ev_bin B.no eN Ev_int (Bin_mod (by decide))
  · intro h O D ys nD l sa
    refine ⟨D, ys, rfl, nD, l, sall_ints ?_⟩
    rw [List.filter_eq_self.mpr (fun _ _ => rfl)] at sa
    have e : ((ci ((ns.take 4).map fun x => (x % 8).toNat)).map AV.int) = ((ns.take (4 : Int).toNat).map AV.int).map (fun v => .int ((iOf v).fmod 8)) := by
      simp only [ci, List.map_map]
      apply List.map_congr_left
      intro x _
      exact congrArg AV.int (e8 x).symm
    rw [e]; exact sa
  refine Sx_cons (sA (v' := .li (ci (WW ns))) (Ev_bin B.no (Ev_bin B.no eN (Ev_slice_from B.no (Ev_listI (ns := [3, 5, 6, 7]) B.no (eL4 B.no Ev_int Ev_int Ev_int Ev_int) (by decide)) (eB B (eL1 B.no eN) (Bi_lenI ?_)) (by decide) ?_) (Bin_addL ?_)) (Ev_listI (ns := [1, 2, 4]) B.no (eL3 B.no Ev_int Ev_int Ev_int) (by decide)) (Bin_addL ?_)) ?_) ?_
  · rw [ci_len]; simp; omega
  · omega
  · simp [ci_len]; unfold sizeLine; omega
  · simp [ci_len]; unfold sizeLine; omega
  · unfold WW W4
    simp [ci, Function.comp_def]
  refine Sx_cons (sA (v' := .li (MO ns)) (Ev_bin B.no (Ev_slice_both (a := 4) (b := 7) B.no eN Ev_int Ev_int ?_) (Ev_slice_from B.no (Ev_listI (ns := [9, 0, 157590]) B.no (eL3 B.no Ev_int Ev_int Ev_int) (by decide)) (eB B (eL1 B.no (Ev_slice_both (a := 4) (b := 7) B.no eN Ev_int Ev_int ?_)) (Bi_lenI ?_)) (by decide) ?_) (Bin_addL ?_)) ?_) ?_
  · unfold sizeLine; omega
  · unfold sizeLine; omega
  · simp; omega
  · omega
  · simp; unfold sizeLine; omega
  · unfold MO; simp
  have hWl := WW_len ns
  have hMl := MO_len ns
  have hW8 := WW_lt ns
  have hWt := WW_tail ns
  generalize hWW : WW ns = W at hWl hW8 hWt tail
  generalize hMO : MO ns = M at hMl tail
  have tail := tail hW8 hWl hWt hMl
  refine Sx_own rfl ?_ fun b => ?_
  · intro y u e
    exact AllB.get (P := fun p => isOwn p.2 = false) (β := put (Str.ofString "more") (.li M) (put (Str.ofString "weights") (.li (ci W)) (put (Str.ofString "front") (.li (ci ((ns.take 4).map fun x => (x % 8).toNat))) [(Str.ofString "script", .li ns)]))) ⟨rfl, rfl, rfl, rfl, trivial⟩ e
  refine Sx_for (It_of B.no rm.hd (eT B (eL1 B.no Ev_int) (Bi_range (n := 16))) rfl ?_) (fun i => [(Str.ofString "words", .oi (ci ((List.range i).map (wordOf W)))), (Str.ofString "weights", .li (ci W)), (Str.ofString "more", .li M)]) (by exact ⟨rfl, rfl, rfl, trivial⟩) 16 ?_ ?_ (.inl ⟨?_, ?_⟩)
  · simp
  · simp
  · intro i it hi ei
    have : it = .int (i : Nat) := by simp [hi] at ei; exact ei.symm
    subst this
    have hc := chkp_lt i hW8
    refine Sx_post (Sx_cons (sA Ev_int rfl) (Sx_cons (S_for (It_of B.no rm.hd (eT B (eL1 B.no Ev_int) (Bi_range (n := 4))) rfl ?_) (.inr ⟨rfl, rfl⟩) (fun j => [(Str.ofString "check", .int (chkp W i j : Nat)), (Str.ofString "number", .int i), (Str.ofString "words", .oi (ci ((List.range i).map (wordOf W)))), (Str.ofString "weights", .li (ci W)), (Str.ofString "more", .li M)])
        (fun x v => Knows.get (by exact ⟨rfl, rfl, rfl, rfl, rfl, trivial⟩)) 4 ?_ _ ?_ (.inl ⟨?_, rfl⟩) (fun _ => rfl)) (Sx_cons (S_append (n := ((wordOf W i : Nat) : Int)) rfl rfl rfl (Ev.eqv (Ev_bin B.no eN (Ev_bin B.no Ev_int eN (Bin_mul ?_)) Bin_add) ?_) ?_ rfl rfl rfl rfl) Sx_nil))) ?_
    · simp
    · simp
    · intro j it hj ej
      have : it = .int (j : Nat) := by simp [hj] at ej; exact ej.symm
      subst this
      refine Sx_cons (S_if (b := decide (i / 2 ^ j % 2 = 1)) (Tr.eqv (Tr_cmp B.no (Ev_bin B.no (Ev_bin B.no eN eN (Bin_shr (by omega))) Ev_int (Bin_mod (by decide))) Ev_int Cmp_eq rfl) (bit_eq i j)) ?_ ?_) Sx_nil
      · intro hb
        have e : chkp W i (j + 1) = chkp W i j ^^^ W.getD j 0 := by rw [chkp, if_pos (by simpa using hb)]
        rw [e]
        refine Sx_post (Sx_cons (sA (v' := .int ((chkp W i j ^^^ W.getD j 0 : Nat) : Int)) (Ev_bin B.no eN (Ev_sub B.no eN eN (Sub_li (n := ((W.getD j 0 : Nat) : Int)) (fun _ _ => rfl) (by omega) ?_ (by omega))) Bin_xor) ?_) Sx_nil) (by exact ⟨rfl, rfl, rfl, rfl, rfl, trivial⟩)
        · rw [show (j : Int).toNat = j from by omega]; exact ci_getD (by omega)
        · rw [bitXor_nat]
      · intro hb
        have e : chkp W i (j + 1) = chkp W i j := by rw [chkp, if_neg (by simpa using hb)]
        rw [e]
        exact Sx_post Sx_nil (by exact ⟨rfl, rfl, rfl, rfl, rfl, trivial⟩)
    · simp
    · refine mul_ok (by decide)
    · unfold wordOf; simp
    · rw [ci_len]; simp; unfold sizeLine; omega
    · have e : ci ((List.range (i + 1)).map (wordOf W)) = ci ((List.range i).map (wordOf W)) ++ [((wordOf W i : Nat) : Int)] := by
        rw [List.range_succ, List.map_append]; exact ci_snoc _ _
      rw [e]
      exact ⟨rfl, rfl, rfl, trivial⟩
  · simp
  exact Sx_freezeI (x := Str.ofString "words") rfl (Sx_pre tail (by exact ⟨rfl, rfl, rfl, trivial⟩))
end Mine
end

section
set_option maxRecDepth 100000
set_option linter.unusedVariables false
namespace Mine
open PySem PySem.W PySem.Calls PyProof.Rows
open PySem.Builtin.Re
variable {prog : Program} {w : World} {hb : Heap} {mg mb : Str → Option Value}
theorem mk_app (a b : List Nat) : mk a ++ mk b = mk (a ++ b) := by
  show Str.append _ _ = _
  simp [mk, Str.append]
theorem flat_ended (e : List Nat) : ∀ rs : List (List Nat), flat ((rs.map mk).map (· ++ mk e)) = ended e rs
  | [] => rfl
  | r :: rs => by
    rw [List.map_cons, List.map_cons, flat_cons, flat_ended e rs, mk_app, mk_cps]
    rfl
theorem join_ended (e : List Nat) (rs : List (List Nat)) : Txt.join (Str.ofString "") ((rs.map mk).map (· ++ mk e)) = mk (ended e rs) := by
  have := join_flat ((rs.map mk).map (· ++ mk e))
  rw [flat_ended] at this
  rw [str_mk (Txt.join (Str.ofString "") ((rs.map mk).map (· ++ mk e)))]
  exact congrArg mk this
theorem ended_le {e : List Nat} (he : e.length ≤ 10) : ∀ {rs : List (List Nat)}, (∀ r ∈ rs, r.length ≤ 10) → (ended e rs).length ≤ 20 * rs.length
  | [], _ => by simp [ended]
  | r :: rs, h => by
    have ih := ended_le he (rs := rs) fun x m => h x (.tail _ m)
    have := h r (.head _)
    have e1 : ended e (r :: rs) = r ++ e ++ ended e rs := rfl
    rw [e1]; simp; omega
theorem ended_rows (B : Bs (KK w) hb mg mb) (rs : List (List Nat)) (e : List Nat) (he : e.length ≤ 10) (hr : ∀ r ∈ rs, r.length ≤ 10) (hn : rs.length ≤ 10) : Fn prog w hb 107 false 1 [.ls (rs.map mk), .str (mk e)] (.str (mk (ended e rs))) := by
  have h := ended_fn (prog := prog) B (rs.map mk) (mk e) (by rw [mk_len]; omega) ?_ (by simp; omega) ?_
  · rw [join_ended] at h; exact h
  · intro r m
    obtain ⟨x, hx, rfl⟩ := List.mem_map.mp m
    have := hr x hx
    rw [mk_len]; omega
  · refine joinok_flat ?_
    rw [flat_ended]
    have := ended_le he hr
    omega
def lc (x j : Nat) : Nat := 97 + x / 2 ^ j % 2
theorem lets_mk : ∀ x : Fin 128, lets x.val = (List.range 7).map fun j => mk [lc x.val j] := by decide +kernel
theorem item_ab (x j : Nat) : Txt.item (Str.ofString "ab") ((x / 2 ^ j % 2 : Nat) : Int) = mk [lc x j] := by
  unfold lc
  rcases Nat.mod_two_eq_zero_or_one (x / 2 ^ j) with h | h <;> rw [h] <;> decide
theorem lc_or (x j : Nat) : lc x j = 97 ∨ lc x j = 98 := by unfold lc; omega
/-- the row of a place with the fate f and the letter c ahead of the hop h -/
def rz : Nat → Nat → Nat → List Nat
  | 0, _, c => [c]
  | h + 1, f, c => if h < 2 then dotted (if f = h then List.replicate (h + 1) 46 else rz h f c) else if f = h then List.replicate (h + 1) 46 else rz h f c
def md (h f c : Nat) : List Nat := if f = h then List.replicate (h + 1) 46 else rz h f c
theorem dotted_c {c : Nat} (h : c = 97 ∨ c = 98) : dotted [c] = [c] := by rcases h with rfl | rfl <;> rfl
theorem rz_three {f c : Nat} (hc : c = 97 ∨ c = 98) : rz 3 f c = if f < 3 then [46, 46, 46] else [c] := by
  rcases f with _ | _ | _ | f
  · rfl
  · rcases hc with rfl | rfl <;> rfl
  · rcases hc with rfl | rfl <;> rfl
  · rcases hc with rfl | rfl <;> simp [rz, dotted]
theorem rz_ok {c : Nat} (hc : c = 97 ∨ c = 98) (f : Nat) : ∀ h, h ≤ 3 → (rz h f c).length ≤ h + 1 ∧ ∀ d ∈ rz h f c, d = 46 ∨ d = 97 ∨ d = 98
  | 0, _ => by simp [rz]; omega
  | h + 1, hh => by
    obtain ⟨h1, h2⟩ := rz_ok hc f h (by omega)
    have m1 : (md h f c).length ≤ h + 1 := by unfold md; split <;> simp_all
    have m2 : ∀ d ∈ md h f c, d = 46 ∨ d = 97 ∨ d = 98 := by
      unfold md; split
      · intro d hd; exact .inl (List.eq_of_mem_replicate hd)
      · exact h2
    have e : rz (h + 1) f c = if h < 2 then dotted (md h f c) else md h f c := rfl
    rw [e]
    split
    · generalize md h f c = r at m1 m2
      unfold dotted
      split
      · rename_i r'
        simp at m1 m2 ⊢
        refine ⟨by omega, fun d hd => m2 d hd⟩
      · exact ⟨by omega, m2⟩
    · exact ⟨by omega, m2⟩
theorem md_ok {c : Nat} (hc : c = 97 ∨ c = 98) (f h : Nat) (hh : h ≤ 3) : (md h f c).length ≤ h + 1 ∧ ∀ d ∈ md h f c, d = 46 ∨ d = 97 ∨ d = 98 := by
  obtain ⟨h1, h2⟩ := rz_ok hc f h hh
  unfold md; split
  · exact ⟨by simp, fun d hd => .inl (List.eq_of_mem_replicate hd)⟩
  · exact ⟨h1, h2⟩
def RZ (h : Nat) (fs : List Nat) (l : Nat) : List (List Nat) := (List.range 7).map fun j => rz h (fs.getD j 0) (lc l j)
def MD (h : Nat) (fs : List Nat) (l : Nat) : List (List Nat) := (List.range 7).map fun j => md h (fs.getD j 0) (lc l j)
def xt (h : Nat) : List (List Nat) := if h = 1 ∨ h = 2 then [[]] else []
theorem RZ_succ {h : Nat} (hh : h < 2) (fs : List Nat) (l : Nat) : RZ (h + 1) fs l = (MD h fs l).map dotted := by
  unfold RZ MD
  rw [List.map_map]
  apply List.map_congr_left
  intro j _
  show rz (h + 1) _ _ = dotted (md h _ _)
  rw [rz, if_pos hh]; rfl
theorem RZ_last (fs : List Nat) (l : Nat) : RZ 3 fs l = MD 2 fs l := rfl
theorem MD_mem {h : Nat} (hh : h ≤ 3) {fs : List Nat} {l : Nat} : ∀ r ∈ MD h fs l, r.length ≤ h + 1 ∧ ∀ d ∈ r, d = 46 ∨ d = 97 ∨ d = 98 := by
  intro r hr
  obtain ⟨j, _, rfl⟩ := List.mem_map.mp hr
  exact md_ok (lc_or l j) _ _ hh
theorem RZ_mem {h : Nat} (hh : h ≤ 3) {fs : List Nat} {l : Nat} : ∀ r ∈ RZ h fs l, r.length ≤ h + 1 ∧ ∀ d ∈ r, d = 46 ∨ d = 97 ∨ d = 98 := by
  intro r hr
  obtain ⟨j, _, rfl⟩ := List.mem_map.mp hr
  exact rz_ok (lc_or l j) _ _ hh
theorem dots_mk : ∀ h : Fin 3, Txt.mul (Str.ofString ".") (((h.val : Nat) : Int) + 1) = mk (List.replicate (h.val + 1) 46) := by decide
/-- the forms -/
def frm (fs : List Nat) (l : Nat) : List (Option Nat) := (List.range 7).map fun j => if fs.getD j 0 < 3 then none else some (lc l j)
theorem RZ_form (fs : List Nat) (l : Nat) : RZ 3 fs l = (frm fs l).map rowOf := by
  unfold RZ frm
  rw [List.map_map]
  apply List.map_congr_left
  intro j _
  show rz 3 _ _ = rowOf (if fs.getD j 0 < 3 then none else some (lc l j))
  rw [rz_three (lc_or l j)]
  split <;> rfl
end Mine
end

section
set_option maxRecDepth 100000
set_option linter.unusedVariables false
namespace Mine
open PySem PySem.W PySem.Calls PyProof.Rows
variable {prog : Program} {w : World} {hb : Heap} {mg mb : Str → Option Value}
theorem Fn.upT {f : Addr} {n : Nat} {vs : List AV} {v : AV} (h : Fn prog w hb f false n vs v) : Fn prog w hb f true n vs v := .mk fun A s O cvs Q E rm hbs T ow r hq => h.go A s O cvs Q E rm hbs T ow r fun cv h' tk k T' r' => hq cv h' tk k.up T' r'
theorem wordOf_lt {W : List Nat} (hW8 : ∀ x ∈ W, x < 8) {n : Nat} (hn : n < 16) : wordOf W n < 128 := by
  have := chkp_lt n hW8 4
  unfold wordOf; omega
theorem fmod_nat (m : Int) (k : Nat) (hk : 0 < k) : m.fmod (k : Int) = (((m % (k : Int)).toNat : Nat) : Int) := by
  rw [Int.fmod_eq_emod_of_nonneg _ (by omega)]
  have := Int.emod_nonneg m (show (k : Int) ≠ 0 by omega)
  omega
def WS (W : List Nat) : List Nat := (List.range 16).map (wordOf W)
theorem WS_get {W : List Nat} {n : Nat} (hn : n < 16) : (WS W)[n]? = some (wordOf W n) := by simp [WS, hn]
theorem fate_val (q j : Nat) : Int.fmod (Int.fdiv (q : Int) (6 ^ ((j : Int)).toNat)) 6 = ((q / 6 ^ j % 6 : Nat) : Int) := by
  rw [Int.toNat_natCast, Int.fdiv_eq_ediv_of_nonneg _ (Int.pow_nonneg (by decide)), Int.fmod_eq_emod_of_nonneg _ (by decide)]
  norm_cast
theorem law_letter (B : Bs (KK w) hb mg mb) {o : Obj} {name : Str} {params : Arguments} {body : List Stmt} {scope : Scope} {pm cd' doc : Value} (ho : (KK w).lookup 117 = some o) (hd : o.data = .func (docDef name params body scope pm cd' doc))
    (A' : Around) (rm : Room A' 40) (L f : Addr) (cd : Value) (O : Addr → Prop) (h₀ : Heap) (W : List Nat) (M : List Int) (hWl : W.length = 7) (hW8 : ∀ x ∈ W, x < 8) (hMl : M.length = 3)
    (tail : ∀ (l : Nat) (fs : List Nat), l < 128 → fs.length = 7 → Sx true prog w hb h₀ A' (envOfC name scope L f cd) O none [(Str.ofString "rows", .ls ((RZ 0 fs l).map mk)), (Str.ofString "fates", .li (ci fs)), (Str.ofString "letter", .int l), (Str.ofString "words", .li (ci (WS W))), (Str.ofString "weights", .li (ci W))] (body.drop 8) (.rt (.bool true))) :
    Sx true prog w hb h₀ A' (envOfC name scope L f cd) O none [(Str.ofString "words", .li (ci (WS W))), (Str.ofString "weights", .li (ci W)), (Str.ofString "more", .li M)] (body.drop 5) (.rt (.bool true)) := by
  have ho' : (KK w).lookup 117 = some _ := rfl
  rw [ho'] at ho
  cases ho
  cases hd
  clear ho'
  rcases M with _ | ⟨m0, _ | ⟨m1, _ | ⟨m2, _ | ⟨_, _⟩⟩⟩⟩ <;> simp at hMl
  have hn : (m0 % 16).toNat < 16 := by have := Int.emod_lt_of_pos m0 (show (0 : Int) < 16 by decide); omega
  have hk : (m1 % 128).toNat < 128 := by have := Int.emod_lt_of_pos m1 (show (0 : Int) < 128 by decide); omega
  have hq : (m2 % 279936).toNat < 279936 := by have := Int.emod_lt_of_pos m2 (show (0 : Int) < 279936 by decide); omega
  have en : m0.fmod 16 = (((m0 % 16).toNat : Nat) : Int) := fmod_nat m0 16 (by decide)
  have ek : m1.fmod 128 = (((m1 % 128).toNat : Nat) : Int) := fmod_nat m1 128 (by decide)
  have eq : m2.fmod 279936 = (((m2 % 279936).toNat : Nat) : Int) := fmod_nat m2 279936 (by decide)
  generalize (m0 % 16).toNat = n at hn en
  generalize (m1 % 128).toNat = k at hk ek
  generalize (m2 % 279936).toNat = q at hq eq
  have hl : wordOf W n ^^^ k < 128 := Nat.xor_lt_two_pow (n := 7) (wordOf_lt hW8 hn) hk
  have tail := tail (wordOf W n ^^^ k) ((List.range 7).map fun j => q / 6 ^ j % 6) hl (by simp)
  refine Sx_cons (sA (v' := .int ((wordOf W n ^^^ k : Nat) : Int)) (Ev_bin B.no (Ev_sub B.no eN (Ev_bin B.no (Ev_sub B.no eN Ev_int (Sub_li (n := m0) (fun _ _ => rfl) (by decide) rfl (by decide))) Ev_int (Bin_mod (by decide))) (Sub_li (n := ((wordOf W n : Nat) : Int)) (fun _ _ => rfl) ?_ ?_ ?_))
    (Ev_bin B.no (Ev_sub B.no eN Ev_int (Sub_li (n := m1) (fun _ _ => rfl) (by decide) rfl (by decide))) Ev_int (Bin_mod (by decide))) Bin_xor) ?_) ?_
  · rw [en]; omega
  · rw [en, Int.toNat_natCast]; exact ci_get (WS_get hn)
  · rw [en]; omega
  · rw [ek, bitXor_nat]
  generalize wordOf W n ^^^ k = l at hl tail
  refine Sx_cons (sA (v' := .li (ci ((List.range 7).map fun j => q / 6 ^ j % 6))) (Ev_compI (f := fun v => Int.fmod (Int.fdiv (m2.fmod 279936) (6 ^ (iOf v).toNat)) 6) B.no rm.hd (comp_ok [(Str.ofString "more", L + 2)]) (eT B (eL1 B.no Ev_int) (Bi_range (n := 7))) rfl ?_ ?_ (fun _ => rfl)) ?_) ?_
  · simp; unfold sizeLine; omega
  · intro a ha cell
    obtain ⟨j, hj, rfl⟩ := List.mem_map.mp ha
    have hj7 := List.mem_range.mp hj
    have hp : (0 : Int) < 6 ^ (j : Int).toNat := Int.pow_pos (by decide)
    refine Ev_bin B.no (Ev_bin B.no (Ev_bin B.no (Ev_sub B.no eN Ev_int (Sub_li (n := m2) (fun _ _ => rfl) (by decide) rfl (by decide))) Ev_int (Bin_mod (by decide))) (Ev_bin B.no Ev_int eN (Bin_pow (by show (0 : Int) ≤ (j : Int); omega) (by show (j : Int) ≤ 1000000; omega) (by decide))) (Bin_div (Int.ne_of_gt hp) ?_)) Ev_int (Bin_mod (by decide))
    refine PyProof.noPylong_small ?_
    show ((6 : Int) ^ (j : Int).toNat).natAbs < _
    rw [Int.toNat_natCast, Int.natAbs_pow]
    calc 6 ^ j ≤ 6 ^ 7 := Nat.pow_le_pow_right (by decide) (by omega)
      _ < _ := by decide
  · rw [List.map_map]
    unfold ci
    rw [List.map_map]
    congr 1
    apply List.map_congr_left
    intro j _
    show Int.fmod (Int.fdiv (m2.fmod 279936) (6 ^ (iOf (.int (j : Int))).toNat)) 6 = _
    rw [eq]
    exact fate_val q j
  generalize ((List.range 7).map fun j => q / 6 ^ j % 6) = fs at tail
  refine Sx_cons (sA (v' := .ls ((RZ 0 fs l).map mk)) (eF B (rm.less (by decide)) (eL1 B.no eN) (letters_fn B l hl)) ?_) (Sx_pre tail (by exact ⟨rfl, rfl, rfl, rfl, rfl, trivial⟩))
  rw [lets_mk ⟨l, hl⟩]
  unfold RZ
  rw [List.map_map]; rfl
end Mine
end

section
set_option maxRecDepth 100000
set_option linter.unusedVariables false
namespace Mine
open PySem PySem.W PySem.Calls PyProof.Rows
variable {prog : Program} {w : World} {hb : Heap} {mg mb : Str → Option Value}
theorem ci_getD' {W : List Nat} {j : Nat} {k : Int} (hk : k = (j : Int)) (h : j < W.length) : (ci W)[k.toNat]? = some ((W.getD j 0 : Nat) : Int) := by
  subst hk; rw [Int.toNat_natCast]; exact ci_getD h
theorem int_eq_nat (a b : Nat) : ((a : Int) == (b : Int)) = decide (a = b) := by
  by_cases h : a = b
  · subst h; simp
  · rw [decide_eq_false h]; exact beq_false_of_ne (fun q => h (by omega))
theorem strok_mk {r : List Nat} (h : ∀ d ∈ r, d < 200) : PyData.strOk (mk r) = true := by
  unfold PyData.strOk mk
  simp
  intro x hx
  have := h x hx
  omega
theorem strOks_nil : StrOks [Str.ofString ""] := by
  intro x hx
  rw [List.mem_singleton.mp hx, show Str.ofString "" = mk [] from by decide]
  exact strok_mk (by simp)
theorem ended_le2 {e : List Nat} {a b : Nat} (he : e.length ≤ b) : ∀ {rs : List (List Nat)}, (∀ r ∈ rs, r.length ≤ a) → (ended e rs).length ≤ (a + b) * rs.length
  | [], _ => by simp [ended]
  | r :: rs, h => by
    have ih := ended_le2 he (rs := rs) fun x m => h x (.tail _ m)
    have := h r (.head _)
    have e1 : ended e (r :: rs) = r ++ e ++ ended e rs := rfl
    rw [e1]; simp [Nat.mul_add]; omega
theorem RZ_len (h : Nat) (fs : List Nat) (l : Nat) : (RZ h fs l).length = 7 := by simp [RZ]
theorem MD_len (h : Nat) (fs : List Nat) (l : Nat) : (MD h fs l).length = 7 := by simp [MD]
theorem RZ_getM {h : Nat} {fs : List Nat} {l j : Nat} (hj : j < 7) : ((RZ h fs l ++ xt h).map mk)[j]? = some (mk (rz h (fs.getD j 0) (lc l j))) := by
  rw [List.map_append, List.getElem?_append_left (by rw [List.length_map, RZ_len]; exact hj)]
  simp [RZ, hj]
def endOf (h : Nat) : List Nat := [if h = 0 then 13 else 10]
theorem law_hops (B : Bs (KK w) hb mg mb) {o : Obj} {name : Str} {params : Arguments} {body : List Stmt} {scope : Scope} {pm cd' doc : Value} (ho : (KK w).lookup 117 = some o) (hd : o.data = .func (docDef name params body scope pm cd' doc))
    (A' : Around) (rm : Room A' 40) (L f : Addr) (cd : Value) (O : Addr → Prop) (h₀ : Heap) (W fs : List Nat) (l : Nat) (hl : l < 128) (hf : fs.length = 7)
    (tail : Sx true prog w hb h₀ A' (envOfC name scope L f cd) O none [(Str.ofString "rows", .ls ((RZ 3 fs l).map mk)), (Str.ofString "fates", .li (ci fs)), (Str.ofString "letter", .int l), (Str.ofString "words", .li (ci (WS W))), (Str.ofString "weights", .li (ci W))] (body.drop 9) (.rt (.bool true))) :
    Sx true prog w hb h₀ A' (envOfC name scope L f cd) O none [(Str.ofString "rows", .ls ((RZ 0 fs l).map mk)), (Str.ofString "fates", .li (ci fs)), (Str.ofString "letter", .int l), (Str.ofString "words", .li (ci (WS W))), (Str.ofString "weights", .li (ci W))] (body.drop 8) (.rt (.bool true)) := by
  have ho' : (KK w).lookup 117 = some _ := rfl
  rw [ho'] at ho
  cases ho
  cases hd
  clear ho'
  have hu : A'.units + 64 < cLine := by have := rm.u; omega
  refine Sx_for (It_of B.no rm.hd (eT B (eL1 B.no Ev_int) (Bi_range (n := 3))) rfl ?_) (fun h => [(Str.ofString "rows", .ls ((RZ h fs l ++ xt h).map mk)), (Str.ofString "fates", .li (ci fs)), (Str.ofString "letter", .int l), (Str.ofString "words", .li (ci (WS W))), (Str.ofString "weights", .li (ci W))]) ?_ 3 ?_ ?_ (.inl ⟨?_, ?_⟩)
  · simp
  · exact ⟨by simp only [xt]; simp, rfl, rfl, rfl, rfl, trivial⟩
  · simp
  · intro h it hh ei
    have : it = .int (h : Nat) := by simp [hh] at ei; exact ei.symm
    subst this
    have hmd := MD_mem (h := h) (by omega) (fs := fs) (l := l)
    refine Sx_cons (α' := put (Str.ofString "rows") (.ls ((MD h fs l).map mk)) (put (Str.ofString "hop") (.int (h : Nat)) [(Str.ofString "rows", .ls ((RZ h fs l ++ xt h).map mk)), (Str.ofString "fates", .li (ci fs)), (Str.ofString "letter", .int l), (Str.ofString "words", .li (ci (WS W))), (Str.ofString "weights", .li (ci W))])) (sA (Ev_compS (f := fun v => mk (md h (fs.getD (iOf v).toNat 0) (lc l (iOf v).toNat))) B.no rm.hd (comp_ok [(Str.ofString "rows", L + 6), (Str.ofString "hop", L + 7), (Str.ofString "fates", L + 5)]) (eT B (eL1 B.no Ev_int) (Bi_range (n := 7))) rfl ?_ ?_ (fun _ => rfl)) ?_) ?_
    · simp; unfold sizeLine; omega
    · intro a ha cell
      obtain ⟨j, hj, rfl⟩ := List.mem_map.mp ha
      have hj7 := List.mem_range.mp hj
      refine Ev_ifexp (b := decide (fs.getD j 0 = h)) B.no (Tr.eqv (Tr_cmp B.no (Ev_sub B.no eN eN (Sub_li (n := ((fs.getD j 0 : Nat) : Int)) (fun _ _ => rfl) (by omega) (ci_getD' rfl (by omega)) (by omega))) eN Cmp_eq rfl) (int_eq_nat _ _)) ?_ ?_
      · intro hb
        have hb := of_decide_eq_true hb
        refine Ev.eqv (Ev_bin B.no Ev_str (Ev_bin B.no eN Ev_int Bin_add) (Bin_mulS ?_)) ?_
        · have : h = 0 ∨ h = 1 ∨ h = 2 := by omega
          rcases this with rfl | rfl | rfl <;> exact ⟨by decide, by decide, by decide⟩
        · rw [dots_mk ⟨h, hh⟩]
          show _ = AV.str (mk (md h (fs.getD j 0) (lc l j)))
          unfold md; rw [if_pos hb]
      · intro hb
        have hb := of_decide_eq_false hb
        refine Ev.eqv (Ev_sub B.no eN eN (Sub_ls (n := mk (rz h (fs.getD j 0) (lc l j))) (fun _ _ => rfl) (by omega) (by rw [Int.toNat_natCast]; exact RZ_getM hj7) (by omega))) ?_
        show _ = AV.str (mk (md h (fs.getD j 0) (lc l j)))
        unfold md; rw [if_neg hb]
    · unfold MD
      simp only [List.map_map]
      rfl
    refine Sx_cons (S_if (b := decide (h < 2)) (Tr.eqv (Tr_cmp B.no eN Ev_int Cmp_lt rfl) ?_) ?_ ?_) Sx_nil
    · by_cases q : h < 2
      · rw [decide_eq_true q, decide_eq_true (by omega)]
      · rw [decide_eq_false q, decide_eq_false (by omega)]
    · intro hb
      have hb := of_decide_eq_true hb
      have hlen : (ended (endOf h) (MD h fs l)).length ≤ 100 := by
        have h1 : ∀ r ∈ MD h fs l, r.length ≤ 3 := fun r m => by have := (hmd r m).1; omega
        have hM := MD_len h fs l
        have := ended_le2 (e := endOf h) (a := 3) (b := 1) (by simp [endOf]) h1
        rw [hM] at this; omega
      have hsp := split_rows ((MD h fs l).map dotted) ?_
      · refine Sx_post (Sx_cons (sA (v' := .ls ((RZ (h + 1) fs l ++ [[]]).map mk)) (eM B.no PySem.F.plainAttrs_str PySem.F.slot_str_split PySem.F.type_str_split isT_str (eF B (rm.less (by decide)) (eL1 B.no (eF B (rm.less (by decide)) (eL2 B.no eN (Ev_sub B.no (Ev_listS (ns := [Str.ofString "\r", Str.ofString "\n"]) B.no (eL2 B.no Ev_str Ev_str) (by decide)) eN (Sub_ls (n := mk (endOf h)) (fun _ _ => rfl) (by omega) ?_ (by omega)))) (Fn.upT (ended_rows B (MD h fs l) (endOf h) (by simp [endOf]) ?_ ?_)))) (quote_rows B (e := if h = 0 then 13 else 10) ?_ (MD h fs l) ?_ hlen)) (eL1 B.no Ev_str) (Bi_split rfl ?_ ?_)) ?_) (Sx_cons (S_if (b := false) (Tr.eqv (Tr_cmp B.no (Ev_slice_fromS (b := 7) B.no eN Ev_int ?_) (Ev_listS (ns := [Str.ofString ""]) B.no (eL1 B.no Ev_str) (by decide)) (Cmp_neS hu ?_ strOks_nil) rfl) ?_) (fun h => nomatch h) (fun _ => Sx_nil)) Sx_nil)) ?_
        · have : h = 0 ∨ h = 1 := by omega
          rcases this with rfl | rfl <;> decide
        · intro r m; have := (hmd r m).1; omega
        · rw [MD_len]; decide
        · by_cases q : h = 0
          · rw [if_pos q]; exact .inr rfl
          · rw [if_neg q]; exact .inl rfl
        · intro r m c hc; have := (hmd r m).2 c hc; omega
        · rw [mk_len]
          have := ended_le2 (e := [13, 10]) (a := 4) (b := 2) (by simp) (rs := (MD h fs l).map dotted) (fun r m => by
            rw [← RZ_succ hb] at m
            have := (RZ_mem (h := h + 1) (by omega) r m).1; omega)
          rw [List.length_map, MD_len] at this
          unfold sizeLine; omega
        · rw [hsp.2, List.length_map, MD_len]; unfold sizeLine; omega
        · rw [hsp.1, RZ_succ hb, List.map_append]; rfl
        · simp [RZ_len]; unfold sizeLine; omega
        · rw [List.map_append, List.drop_append, List.drop_eq_nil_of_le (by rw [List.length_map, RZ_len]; exact Nat.le_refl _), List.length_map, RZ_len]
          exact strOks_nil
        · rw [List.map_append, List.drop_append, List.drop_eq_nil_of_le (by rw [List.length_map, RZ_len]; exact Nat.le_refl _), List.length_map, RZ_len]
          rfl
        · have e : xt (h + 1) = [[]] := by unfold xt; rw [if_pos (by omega)]
          rw [e]
          exact ⟨rfl, rfl, rfl, rfl, rfl, trivial⟩
      · intro r m q
        rw [← RZ_succ hb] at m
        have := (RZ_mem (h := h + 1) (by omega) r m).2 13 q
        omega
    · intro hb
      have hb := of_decide_eq_false hb
      obtain rfl : h = 2 := by omega
      exact Sx_post Sx_nil (by exact ⟨rfl, rfl, rfl, rfl, rfl, trivial⟩)
  · simp
  · exact Sx_pre tail (by exact ⟨rfl, rfl, rfl, rfl, rfl, trivial⟩)
end Mine
end

section
set_option maxRecDepth 100000
set_option linter.unusedVariables false
namespace Mine
open PySem PySem.W PySem.Calls PyProof.Rows
def kb (b : Bool) (n : Nat) : Nat := if b = true then 0 else n
def kn (o : Nat → Bool) : Nat := kb (o 0) 1 + (kb (o 1) 2 + (kb (o 2) 4 + (kb (o 3) 8 + (kb (o 4) 16 + (kb (o 5) 32 + kb (o 6) 64)))))
def lostL (o : Nat → Bool) : List Nat := (List.range 7).filter o
theorem lost_split (o : Nat → Bool) : ((lostL o).map fun j => 2 ^ j).sum + kn o = 127 := by
  have r : List.range 7 = [0, 1, 2, 3, 4, 5, 6] := rfl
  unfold lostL kn kb
  rw [r]
  simp only [List.filter_cons, List.filter_nil]
  cases o 0 <;> cases o 1 <;> cases o 2 <;> cases o 3 <;> cases o 4 <;> cases o 5 <;> cases o 6 <;> rfl
theorem kn_bits : ∀ (o0 o1 o2 o3 o4 o5 o6 : Bool) (j : Fin 7), (kb o0 1 + (kb o1 2 + (kb o2 4 + (kb o3 8 + (kb o4 16 + (kb o5 32 + kb o6 64)))))).testBit j.val = !([o0, o1, o2, o3, o4, o5, o6].getD j.val false) := by decide +kernel
theorem kn_test (o : Nat → Bool) {j : Nat} (hj : j < 7) : (kn o).testBit j = !o j := by
  have h := kn_bits (o 0) (o 1) (o 2) (o 3) (o 4) (o 5) (o 6) ⟨j, hj⟩
  have e : [o 0, o 1, o 2, o 3, o 4, o 5, o 6].getD j false = o j := by
    rcases j with _ | _ | _ | _ | _ | _ | _ | j
    all_goals first | rfl | omega
  rw [e] at h; exact h
theorem kn_lt (o : Nat → Bool) : kn o < 128 := by have := lost_split o; omega
/-- the word x agrees with the letters b at the known places -/
def fitb (o b : Nat → Bool) (x : Nat) : Bool := (List.range 7).all fun j => o j || (x.testBit j == b j)
theorem fitb_iff (o b : Nat → Bool) (x : Nat) : fitb o b x = true ↔ ∀ j, j < 7 → o j = true ∨ x.testBit j = b j := by
  unfold fitb
  simp [List.all_eq_true]
theorem fit_and (o : Nat → Bool) (l x : Nat) : ((x ^^^ l) &&& kn o = 0) ↔ fitb o (fun j => l.testBit j) x = true := by
  rw [fitb_iff]
  constructor
  · intro h j hj
    have := congrArg (fun n => n.testBit j) h
    simp only [Nat.testBit_and, Nat.testBit_xor, kn_test o hj, Nat.zero_testBit] at this
    cases ho : o j
    · rw [ho] at this
      right
      revert this
      cases x.testBit j <;> cases l.testBit j <;> simp
    · left; rfl
  · intro h
    apply Nat.eq_of_testBit_eq
    intro j
    rw [Nat.testBit_and, Nat.testBit_xor, Nat.zero_testBit]
    by_cases hj : j < 7
    · rw [kn_test o hj]
      rcases h j hj with h | h
      · rw [h]; simp
      · rw [h]; simp
    · have : (kn o).testBit j = false := Nat.testBit_lt_two_pow (Nat.lt_of_lt_of_le (kn_lt o) (show 2 ^ 7 ≤ 2 ^ j from Nat.pow_le_pow_right (by decide) (by omega)))
      rw [this]; simp
theorem lc_eq (x l j : Nat) : lc l j = lc x j ↔ x.testBit j = l.testBit j := by
  unfold lc
  rw [Nat.testBit_eq_decide_div_mod_eq, Nat.testBit_eq_decide_div_mod_eq]
  have h1 := Nat.mod_two_eq_zero_or_one (x / 2 ^ j)
  have h2 := Nat.mod_two_eq_zero_or_one (l / 2 ^ j)
  rcases h1 with h1 | h1 <;> rcases h2 with h2 | h2 <;> simp [h1, h2]
theorem Agree_map {p : Nat → Prop} [DecidablePred p] {a b : Nat → Nat} : ∀ js : List Nat, Agree (js.map fun j => if p j then none else some (a j)) (js.map b) ↔ ∀ j ∈ js, p j ∨ a j = b j
  | [] => by simp [Agree]
  | j :: js => by
    have ih := Agree_map (p := p) (a := a) (b := b) js
    rw [List.map_cons, List.map_cons]
    by_cases h : p j
    · rw [if_pos h]
      show Agree (js.map fun j => if p j then none else some (a j)) (js.map b) ↔ _
      rw [ih]; simp [h]
    · rw [if_neg h]
      show (a j = b j ∧ Agree _ _) ↔ _
      rw [ih]; simp [h]
def oF (fs : List Nat) (j : Nat) : Bool := decide (fs.getD j 0 < 3)
theorem Agree_fit (fs : List Nat) (l x : Nat) : Agree (frm fs l) ((List.range 7).map (lc x)) ↔ fitb (oF fs) (fun j => l.testBit j) x = true := by
  unfold frm
  rw [Agree_map (p := fun j => fs.getD j 0 < 3) (a := lc l) (b := lc x), fitb_iff]
  constructor
  · intro h j hj
    rcases h j (List.mem_range.mpr hj) with h | h
    · exact .inl (decide_eq_true h)
    · exact .inr ((lc_eq x l j).mp h)
  · intro h j hj
    rcases h j (List.mem_range.mp hj) with h | h
    · exact .inl (of_decide_eq_true h)
    · exact .inr ((lc_eq x l j).mpr h)
end Mine
end

section
set_option maxRecDepth 100000
set_option linter.unusedVariables false
namespace Mine
open PySem PySem.W PySem.Calls PyProof.Rows
variable {prog : Program} {w : World} {hb : Heap} {mg mb : Str → Option Value}
theorem nat_lt_int (a b : Nat) : decide ((a : Int) < (b : Int)) = decide (a < b) := by
  by_cases h : a < b
  · rw [decide_eq_true h, decide_eq_true (by omega)]
  · rw [decide_eq_false h, decide_eq_false (by omega)]
theorem bit_int (n j : Nat) : Int.fmod (Int.fdiv (n : Int) (2 ^ (j : Int).toNat)) 2 = ((n / 2 ^ j % 2 : Nat) : Int) := bit_val n j
theorem strOks_rows {rs : List (List Nat)} (h : ∀ r ∈ rs, ∀ d ∈ r, d < 200) : StrOks (rs.map mk) := by
  intro x hx
  obtain ⟨r, hr, rfl⟩ := List.mem_map.mp hx
  exact strok_mk (h r hr)
theorem lost_len (o : Nat → Bool) : (lostL o).length ≤ 7 := by
  have := List.length_filter_le o (List.range 7)
  rw [List.length_range] at this
  exact this
theorem lost_lt {o : Nat → Bool} {j : Nat} (h : j ∈ lostL o) : j < 7 ∧ o j = true := by
  unfold lostL at h
  rw [List.mem_filter, List.mem_range] at h
  exact h
theorem sum_cast : ∀ l : List Nat, (l.map fun (j : Nat) => (2 : Int) ^ (j : Int).toNat).sum = (((l.map fun j => 2 ^ j).sum : Nat) : Int)
  | [] => rfl
  | j :: l => by
    have := sum_cast l
    rw [List.map_cons, List.sum_cons, this, List.map_cons, List.sum_cons, Int.toNat_natCast, Int.natCast_add, Int.natCast_pow]
    rfl
theorem law_rows (B : Bs (KK w) hb mg mb) {o : Obj} {name : Str} {params : Arguments} {body : List Stmt} {scope : Scope} {pm cd' doc : Value} (ho : (KK w).lookup 117 = some o) (hd : o.data = .func (docDef name params body scope pm cd' doc))
    (A' : Around) (rm : Room A' 40) (L f : Addr) (cd : Value) (O : Addr → Prop) (h₀ : Heap) (W fs : List Nat) (l : Nat) (hl : l < 128) (hf : fs.length = 7)
    (tail : Sx true prog w hb h₀ A' (envOfC name scope L f cd) O none [(Str.ofString "form", .str (mk (ended [13, 10] ((frm fs l).map rowOf)))), (Str.ofString "known", .int (kn (oF fs) : Nat)), (Str.ofString "lost", .li (ci (lostL (oF fs)))), (Str.ofString "letter", .int l), (Str.ofString "words", .li (ci (WS W))), (Str.ofString "weights", .li (ci W))] (body.drop 13) (.rt (.bool true))) :
    Sx true prog w hb h₀ A' (envOfC name scope L f cd) O none [(Str.ofString "rows", .ls ((RZ 3 fs l).map mk)), (Str.ofString "fates", .li (ci fs)), (Str.ofString "letter", .int l), (Str.ofString "words", .li (ci (WS W))), (Str.ofString "weights", .li (ci W))] (body.drop 9) (.rt (.bool true)) := by
  have ho' : (KK w).lookup 117 = some _ := rfl
  rw [ho'] at ho
  cases ho
  cases hd
  clear ho'
  have hu : A'.units + 64 < cLine := by have := rm.u; omega
  have hm := RZ_mem (h := 3) (by omega) (fs := fs) (l := l)
  have so : StrOks ((RZ 3 fs l).map mk) := strOks_rows fun r hr d hd => by have := (hm r hr).2 d hd; omega
  have e1 : ((List.range 7).map fun (i : Nat) => AV.int (i : Int)).map (fun v => mk (if fs.getD (iOf v).toNat 0 < 3 then [46, 46, 46] else [lc l (iOf v).toNat])) = (RZ 3 fs l).map mk := by
    unfold RZ
    simp only [List.map_map]
    apply List.map_congr_left
    intro j _
    show mk (if fs.getD j 0 < 3 then [46, 46, 46] else [lc l j]) = mk (rz 3 (fs.getD j 0) (lc l j))
    rw [rz_three (lc_or l j)]
  refine Sx_cons (S_if (b := false) (Tr.eqv (Tr_cmp B.no eN (Ev.eqv (Ev_compS (f := fun v => mk (if fs.getD (iOf v).toNat 0 < 3 then [46, 46, 46] else [lc l (iOf v).toNat])) B.no rm.hd (comp_ok [(Str.ofString "letter", L + 4), (Str.ofString "fates", L + 5)]) (eT B (eL1 B.no Ev_int) (Bi_range (n := 7))) rfl ?_ ?_ (fun _ => rfl)) (congrArg AV.ls e1)) (Cmp_neS hu so so) rfl) (by simp)) (fun h => nomatch h) (fun _ => Sx_nil)) ?_
  · simp; unfold sizeLine; omega
  · intro a ha cell
    obtain ⟨j, hj, rfl⟩ := List.mem_map.mp ha
    have hj7 := List.mem_range.mp hj
    refine Ev_ifexp (b := decide (fs.getD j 0 < 3)) B.no (Tr.eqv (Tr_cmp B.no (Ev_sub B.no eN eN (Sub_li (n := ((fs.getD j 0 : Nat) : Int)) (fun _ _ => rfl) (by omega) (ci_getD' rfl (by omega)) (by omega))) Ev_int Cmp_lt rfl) (nat_lt_int _ 3)) ?_ ?_
    · intro hb
      have hb := of_decide_eq_true hb
      refine Ev.eqv Ev_str ?_
      show _ = AV.str (mk (if fs.getD j 0 < 3 then [46, 46, 46] else [lc l j]))
      rw [if_pos hb]; rfl
    · intro hb
      have hb := of_decide_eq_false hb
      refine Ev.eqv (Ev_sub B.no Ev_str (Ev_bin B.no (Ev_bin B.no eN eN (Bin_shr (by omega))) Ev_int (Bin_mod (by decide))) (Sub_str (fun _ _ => rfl) ?_ ?_ ?_)) ?_
      · rw [bit_val]; omega
      · rw [bit_val]; show ((l / 2 ^ j % 2 : Nat) : Int) < 2; omega
      · rw [bit_val]; omega
      · show _ = AV.str (mk (if fs.getD j 0 < 3 then [46, 46, 46] else [lc l j]))
        rw [if_neg hb, bit_val, item_ab]
  refine Sx_cons (S_comp (v := .li (ci (lostL (oF fs)))) (f := fun v => .int (iOf v)) (p := fun v => oF fs (iOf v).toNat) rm.hd (comp_ok [(Str.ofString "fates", L + 5)]) rfl rfl (eT B (eL1 B.no Ev_int) (Bi_range (n := 7))) rfl ?_ ?_ ?_ (fun _ _ _ _ _ r => r) ?_ rfl (fun _ => rfl)) ?_
  · simp; unfold sizeLine; omega
  · intro a ha cell
    obtain ⟨j, hj, rfl⟩ := List.mem_map.mp ha
    have hj7 := List.mem_range.mp hj
    exact Ts_one (Tr.eqv (Tr_cmp B.no (Ev_sub B.no eN eN (Sub_li (n := ((fs.getD j 0 : Nat) : Int)) (fun _ _ => rfl) (by omega) (ci_getD' rfl (by omega)) (by omega))) Ev_int Cmp_lt rfl) (nat_lt_int _ 3))
  · intro a ha _ cell
    obtain ⟨j, hj, rfl⟩ := List.mem_map.mp ha
    exact eN
  · intro h O D ys nD l' sa
    refine ⟨D, ys, rfl, nD, l', sall_ints ?_⟩
    have e : ((ci (lostL (oF fs))).map AV.int) = (((List.range 7).map fun (i : Nat) => AV.int (i : Int)).filter (fun v => oF fs (iOf v).toNat)).map (fun v => .int (iOf v)) := by
      rw [List.filter_map, List.map_map]
      unfold ci lostL
      rw [List.map_map]
      rfl
    rw [e]; exact sa
  refine Sx_cons (sA (v' := .int (kn (oF fs) : Nat)) (Ev_bin B.no Ev_int (eB B (eL1 B.no (Ev_compI (f := fun v => 2 ^ (iOf v).toNat) B.no rm.hd (comp_ok []) eN rfl ?_ ?_ (fun _ => rfl))) (Bi_sum rm.hd ?_)) Bin_sub) ?_) ?_
  · have := lost_len (oF fs); rw [List.length_map, ci_len]; unfold sizeLine; omega
  · intro a ha cell
    obtain ⟨x, hx, rfl⟩ := List.mem_map.mp ha
    obtain ⟨j, hj, rfl⟩ := List.mem_map.mp hx
    have hj7 := lost_lt hj
    exact Ev_bin B.no Ev_int eN (Bin_pow (by show (0 : Int) ≤ (j : Int); omega) (by show (j : Int) ≤ 1000000; omega) (by decide))
  · have := lost_len (oF fs); rw [List.length_map, List.length_map, ci_len]; omega
  · have e : ((ci (lostL (oF fs))).map AV.int).map (fun v => (2 : Int) ^ (iOf v).toNat) = (lostL (oF fs)).map fun (j : Nat) => (2 : Int) ^ (j : Int).toNat := by
      unfold ci
      rw [List.map_map, List.map_map]; rfl
    rw [e, sum_cast]
    have := lost_split (oF fs)
    congr 1
    omega
  refine Sx_cons (sA (v' := .str (mk (ended [13, 10] ((frm fs l).map rowOf)))) (eF B (rm.less (by decide)) (eL2 B.no eN Ev_str) (Fn.upT (ended_rows B (RZ 3 fs l) [13, 10] (by decide) ?_ ?_))) ?_) (Sx_pre tail (by exact ⟨rfl, rfl, rfl, rfl, rfl, rfl, trivial⟩))
  · intro r hr; have := (hm r hr).1; omega
  · rw [RZ_len]; decide
  · rw [RZ_form]
end Mine
end

section
set_option maxRecDepth 100000
set_option linter.unusedVariables false
namespace Mine
open PySem PySem.W PySem.Calls PyProof.Rows
variable {prog : Program} {w : World} {hb : Heap} {mg mb : Str → Option Value}
theorem WS_len (W : List Nat) : (WS W).length = 16 := by simp [WS]
theorem ci_snoc' (xs : List Nat) (x : Nat) : ci (xs ++ [x]) = ci xs ++ [(x : Int)] := by simp [ci]
theorem frm_lt (fs : List Nat) (l : Nat) : Lt (frm fs l) := by
  intro o ho
  obtain ⟨j, _, rfl⟩ := List.mem_map.mp ho
  split
  · exact .inl rfl
  · rcases lc_or l j with h | h
    · exact .inr (.inl (congrArg some h))
    · exact .inr (.inr (congrArg some h))
open Classical in
theorem law_taken (B : Bs (KK w) hb mg mb) {o : Obj} {name : Str} {params : Arguments} {body : List Stmt} {scope : Scope} {pm cd' doc : Value} (ho : (KK w).lookup 117 = some o) (hd : o.data = .func (docDef name params body scope pm cd' doc))
    (A' : Around) (rm : Room A' 40) (L f : Addr) (cd : Value) (O : Addr → Prop) (h₀ : Heap) (W fs : List Nat) (hW8 : ∀ x ∈ W, x < 8) (l : Nat) (hl : l < 128)
    (tail : Sx true prog w hb h₀ A' (envOfC name scope L f cd) O none [(Str.ofString "taken", .li (ci ((WS W).filter (fitb (oF fs) fun j => l.testBit j)))), (Str.ofString "lost", .li (ci (lostL (oF fs)))), (Str.ofString "letter", .int l), (Str.ofString "weights", .li (ci W))] (body.drop 15) (.rt (.bool true))) :
    Sx true prog w hb h₀ A' (envOfC name scope L f cd) O none [(Str.ofString "form", .str (mk (ended [13, 10] ((frm fs l).map rowOf)))), (Str.ofString "known", .int (kn (oF fs) : Nat)), (Str.ofString "lost", .li (ci (lostL (oF fs)))), (Str.ofString "letter", .int l), (Str.ofString "words", .li (ci (WS W))), (Str.ofString "weights", .li (ci W))] (body.drop 13) (.rt (.bool true)) := by
  have ho' : (KK w).lookup 117 = some _ := rfl
  rw [ho'] at ho
  cases ho
  cases hd
  clear ho'
  have hu : A'.units + 64 < cLine := by have := rm.u; omega
  generalize hfit : (fitb (oF fs) fun j => l.testBit j) = fit at tail
  refine Sx_own rfl ?_ fun b => ?_
  · intro y u e
    exact AllB.get (P := fun p => isOwn p.2 = false) (β := [(Str.ofString "form", .str (mk (ended [13, 10] ((frm fs l).map rowOf)))), (Str.ofString "known", .int (kn (oF fs) : Nat)), (Str.ofString "lost", .li (ci (lostL (oF fs)))), (Str.ofString "letter", .int l), (Str.ofString "words", .li (ci (WS W))), (Str.ofString "weights", .li (ci W))]) ⟨rfl, rfl, rfl, rfl, rfl, rfl, trivial⟩ e
  refine Sx_for (It_of B.no rm.hd eN rfl ?_) (fun i => [(Str.ofString "taken", .oi (ci (((WS W).take i).filter fit))), (Str.ofString "form", .str (mk (ended [13, 10] ((frm fs l).map rowOf)))), (Str.ofString "known", .int (kn (oF fs) : Nat)), (Str.ofString "lost", .li (ci (lostL (oF fs)))), (Str.ofString "letter", .int l), (Str.ofString "weights", .li (ci W))]) ?_ 16 ?_ ?_ (.inl ⟨?_, ?_⟩)
  · rw [List.length_map, ci_len, WS_len]; decide
  · exact ⟨rfl, rfl, rfl, rfl, rfl, rfl, trivial⟩
  · rw [List.length_map, ci_len, WS_len]; decide
  · intro i it hi ei
    obtain ⟨x, hxi⟩ : ∃ x, (WS W)[i]? = some x := ⟨_, List.getElem?_eq_getElem (by rw [WS_len]; exact hi)⟩
    have et : (WS W).take (i + 1) = (WS W).take i ++ [x] := by rw [List.take_add_one, hxi]; rfl
    rw [List.getElem?_map, ci_get hxi] at ei
    cases ei
    have hx : x < 128 := by
      have := List.mem_of_getElem? hxi
      obtain ⟨n, hn, rfl⟩ := List.mem_map.mp this
      exact wordOf_lt hW8 (List.mem_range.mp hn)
    have efit : decide (Agree (frm fs l) ((List.range 7).map (lc x))) = fit x := by
      rw [Bool.eq_iff_iff, decide_eq_true_iff, Agree_fit, hfit]
    have efit2 : (Builtin.bitAnd (Builtin.bitXor (x : Int) (l : Int)) ((kn (oF fs) : Nat) : Int) == (0 : Int)) = fit x := by
      rw [bitXor_nat, bitAnd_nat, Bool.eq_iff_iff, beq_iff_eq, ← hfit, ← fit_and]
      omega
    have hz : (((WS W).take i).filter fit).length ≤ 16 := by
      refine Nat.le_trans (List.length_filter_le _ _) ?_
      rw [List.length_take]; omega
    have ef : ((WS W).take (i + 1)).filter fit = ((WS W).take i).filter fit ++ (if fit x = true then [x] else []) := by
      rw [et, List.filter_append]
      rw [List.filter_cons, List.filter_nil]
    have h107 : Fn prog w hb 107 true 1 [.ls (lets x), .str (Str.ofString "\r\n")] (.str (mk (lets1 ((List.range 7).map (lc x))))) := by
      have h := Fn.upT (ended_rows (prog := prog) B ((List.range 7).map fun j => [lc x j]) [13, 10] (by decide) (by simp) (by simp))
      rw [lets_mk ⟨x, hx⟩]
      have e1 : ((List.range 7).map fun j => [lc x j]).map mk = (List.range 7).map fun j => mk [lc x j] := by rw [List.map_map]; rfl
      have e2 : lets1 ((List.range 7).map (lc x)) = ended [13, 10] ((List.range 7).map fun j => [lc x j]) := by unfold lets1; rw [List.map_map]; rfl
      rw [e1] at h
      rw [e2]
      exact h
    refine Sx_cons (sA (v' := .bool (fit x)) (eF B (rm.less (by decide)) (eL2 B.no eN (eF B (rm.less (by decide)) (eL2 B.no (eF B (rm.less (by decide)) (eL1 B.no eN) (letters_fn B x hx)) Ev_str) h107)) (match_fn B (frm fs l) ((List.range 7).map (lc x)) (frm_lt fs l) ?_ ?_ ?_)) (congrArg AV.bool efit)) ?_
    · intro c hc
      obtain ⟨j, _, rfl⟩ := List.mem_map.mp hc
      have := lc_or x j
      omega
    · simp [frm]
    · simp [frm]
    refine Sx_cons (S_if (b := false) (Tr.eqv (Tr_cmp B.no eN (Ev_cmp B.no (Ev_bin B.no (Ev_bin B.no eN eN Bin_xor) eN Bin_and) Ev_int Cmp_eq rfl) Cmp_neB rfl) (by rw [efit2]; simp)) (fun h => nomatch h) (fun _ => Sx_nil)) ?_
    refine Sx_cons (S_if (b := fit x) (Tr_bool eN rfl) ?_ ?_) Sx_nil
    · intro hb
      rw [if_pos hb] at ef
      rw [ef, ci_snoc']
      refine Sx_post (Sx_cons (S_append (n := (x : Int)) rfl rfl rfl eN ?_ rfl rfl rfl rfl) Sx_nil) (by exact ⟨rfl, rfl, rfl, rfl, rfl, rfl, trivial⟩)
      rw [ci_len]; unfold sizeLine; omega
    · intro hb
      rw [if_neg (by rw [hb]; decide), List.append_nil] at ef
      rw [ef]
      exact Sx_post Sx_nil (by exact ⟨rfl, rfl, rfl, rfl, rfl, rfl, trivial⟩)
  · rw [List.length_map, ci_len, WS_len]
  · refine Sx_freezeI (x := Str.ofString "taken") rfl (Sx_pre tail ?_)
    rw [List.take_of_length_le (by rw [WS_len]; decide)]
    exact ⟨rfl, rfl, rfl, rfl, trivial⟩
end Mine
end

section
set_option maxRecDepth 100000
set_option linter.unusedVariables false
namespace Mine
open PySem PySem.W PySem.Calls PyProof.Rows
/-- the seven places -/
def tri (o b : Nat → Bool) (W : List Nat) : List (Bool × Bool × Nat) := (List.range 7).map fun j => (o j, b j, W.getD j 0)
theorem lw_map (o b : Nat → Bool) (W : List Nat) : ∀ js : List Nat, lw (js.map fun j => (o j, b j, W.getD j 0)) = (js.filter o).map fun j => W.getD j 0
  | [] => rfl
  | j :: js => by
    have ih := lw_map o b W js
    unfold lw at ih ⊢
    rw [List.map_cons, List.filter_cons, List.filter_cons]
    cases h : o j <;> simp [h] <;> simpa using ih
theorem lw_tri (o b : Nat → Bool) (W : List Nat) : lw (tri o b W) = (lostL o).map fun j => W.getD j 0 := lw_map o b W _
theorem word_bits : ∀ (n : Fin 16) (c : Fin 8), (n.val + 16 * c.val).testBit 0 = n.val.testBit 0 ∧ (n.val + 16 * c.val).testBit 1 = n.val.testBit 1 ∧ (n.val + 16 * c.val).testBit 2 = n.val.testBit 2 ∧ (n.val + 16 * c.val).testBit 3 = n.val.testBit 3 ∧ (n.val + 16 * c.val).testBit 4 = c.val.testBit 0 ∧ (n.val + 16 * c.val).testBit 5 = c.val.testBit 1 ∧ (n.val + 16 * c.val).testBit 6 = c.val.testBit 2 := by decide +kernel
theorem chkp_four (W : List Nat) (n : Nat) : chkp W n 4 = chkb (W.getD 0 0) (W.getD 1 0) (W.getD 2 0) (W.getD 3 0) (n.testBit 0) (n.testBit 1) (n.testBit 2) (n.testBit 3) := by
  have st : ∀ j, chkp W n (j + 1) = chkp W n j ^^^ bx (n.testBit j) (W.getD j 0) := fun j => by
    rw [chkp, Nat.testBit_eq_decide_div_mod_eq]
    unfold bx
    by_cases h : n / 2 ^ j % 2 = 1
    · rw [if_pos h, decide_eq_true h]; rfl
    · rw [if_neg h, decide_eq_false h]; simp
  rw [st 3, st 2, st 1, st 0]
  unfold chkb
  rw [show chkp W n 0 = 0 from rfl, Nat.zero_xor]
theorem fitb_word {W : List Nat} (hW8 : ∀ x ∈ W, x < 8) (o b : Nat → Bool) {n : Nat} (hn : n < 16) : fitb o b (wordOf W n) = ((o 0 || (n.testBit 0 == b 0)) && ((o 1 || (n.testBit 1 == b 1)) && ((o 2 || (n.testBit 2 == b 2)) && ((o 3 || (n.testBit 3 == b 3)) && b3 (o 4) (o 5) (o 6) (b 4) (b 5) (b 6) (chkb (W.getD 0 0) (W.getD 1 0) (W.getD 2 0) (W.getD 3 0) (n.testBit 0) (n.testBit 1) (n.testBit 2) (n.testBit 3)))))) := by
  have hc := chkp_lt n hW8 4
  have hb := word_bits ⟨n, hn⟩ ⟨chkp W n 4, hc⟩
  unfold fitb wordOf
  rw [show List.range 7 = [0, 1, 2, 3, 4, 5, 6] from rfl]
  obtain ⟨h0, h1, h2, h3, h4, h5, h6⟩ := hb
  simp only [List.all_cons, List.all_nil, Bool.and_true]
  simp only at h0 h1 h2 h3 h4 h5 h6
  rw [h0, h1, h2, h3, h4, h5, h6, chkp_four]
  unfold b3
  simp only [Bool.and_assoc]
theorem getD_lt {W : List Nat} (hW8 : ∀ x ∈ W, x < 8) (j : Nat) : W.getD j 0 < 8 := by
  by_cases hj : j < W.length
  · have : W.getD j 0 = W[j] := by simp [List.getD, hj]
    rw [this]; exact hW8 _ (List.getElem_mem _)
  · have : W.getD j 0 = 0 := by simp [List.getD, hj]
    rw [this]; decide
theorem count_fit {W : List Nat} (hW8 : ∀ x ∈ W, x < 8) (hWt : W.drop 4 = [1, 2, 4]) (o b : Nat → Bool) : (List.range 16).countP (fun n => fitb o b (wordOf W n)) = nch ((lostL o).map fun j => W.getD j 0) (du (tri o b W)) := by
  have e4 : W.getD 4 0 = 1 := by rw [List.getD, show W[4]? = (W.drop 4)[0]? from by rw [List.getElem?_drop], hWt]; rfl
  have e5 : W.getD 5 0 = 2 := by rw [List.getD, show W[5]? = (W.drop 4)[1]? from by rw [List.getElem?_drop], hWt]; rfl
  have e6 : W.getD 6 0 = 4 := by rw [List.getD, show W[6]? = (W.drop 4)[2]? from by rw [List.getElem?_drop], hWt]; rfl
  have h := cnt_four (getD_lt hW8 0) (getD_lt hW8 1) (getD_lt hW8 2) (getD_lt hW8 3) [(o 4, b 4, 1), (o 5, b 5, 2), (o 6, b 6, 4)] (b3 (o 4) (o 5) (o 6) (b 4) (b 5) (b 6)) (fun x hx => cnt3 _ _ _ _ _ _ ⟨x, hx⟩) (o 0) (o 1) (o 2) (o 3) (b 0) (b 1) (b 2) (b 3)
  have et : tri o b W = (o 0, b 0, W.getD 0 0) :: (o 1, b 1, W.getD 1 0) :: (o 2, b 2, W.getD 2 0) :: (o 3, b 3, W.getD 3 0) :: [(o 4, b 4, 1), (o 5, b 5, 2), (o 6, b 6, 4)] := by
    unfold tri
    rw [show List.range 7 = [0, 1, 2, 3, 4, 5, 6] from rfl, ← e4, ← e5, ← e6]
    rfl
  rw [← et, cnt_nch, lw_tri, Nat.zero_xor] at h
  rw [← h]
  apply List.countP_congr
  intro n hn
  rw [fitb_word hW8 o b (List.mem_range.mp hn)]
theorem du_map (W : List Nat) (o b : Nat → Bool) : ∀ js : List Nat, du (js.map fun j => (o j, b j, W.getD j 0)) = js.foldl (fun x j => if (!o j && b j) = true then x ^^^ W.getD j 0 else x) 0 := by
  have key : ∀ (js : List Nat) (x : Nat), js.foldl (fun x j => if (!o j && b j) = true then x ^^^ W.getD j 0 else x) x = x ^^^ du (js.map fun j => (o j, b j, W.getD j 0)) := by
    intro js
    induction js with
    | nil => intro x; simp [du]
    | cons j js ih =>
      intro x
      rw [List.foldl_cons, ih, List.map_cons, du]
      split
      · rw [Nat.xor_assoc]
      · rw [Nat.zero_xor]
  intro js
  rw [key, Nat.zero_xor]
end Mine
end

section
set_option maxRecDepth 100000
set_option linter.unusedVariables false
namespace Mine
open PySem PySem.W PySem.Calls PyProof.Rows
def setF (f : Nat → Bool) (p : Nat) (v : Bool) : Nat → Bool := fun j => if j = p then v else f j
theorem fit_one {o : Nat → Bool} (b : Nat → Bool) {p : Nat} (hp : p < 7) (ho : o p = true) (v : Bool) (x : Nat) : (fitb o b x && (x.testBit p == v)) = fitb (setF o p false) (setF b p v) x := by
  rw [Bool.eq_iff_iff, Bool.and_eq_true, fitb_iff, fitb_iff, beq_iff_eq]
  constructor
  · rintro ⟨h, hv⟩ j hj
    by_cases q : j = p
    · subst q; right; unfold setF; rw [if_pos rfl]; exact hv
    · unfold setF; rw [if_neg q, if_neg q]; exact h j hj
  · intro h
    refine ⟨fun j hj => ?_, ?_⟩
    · by_cases q : j = p
      · subst q; exact .inl ho
      · have := h j hj
        unfold setF at this; rw [if_neg q, if_neg q] at this; exact this
    · have := h p hp
      unfold setF at this; rw [if_pos rfl, if_pos rfl] at this
      rcases this with h | h
      · cases h
      · exact h
theorem lost_set (o : Nat → Bool) (p : Nat) : lostL (setF o p false) = (lostL o).filter fun j => j != p := by
  unfold lostL
  rw [List.filter_filter]
  apply List.filter_congr
  intro j _
  unfold setF
  by_cases q : j = p
  · rw [if_pos q]; simp [q]
  · rw [if_neg q]; simp [q]
theorem du_out (W : List Nat) (o b : Nat → Bool) (p : Nat) (v : Bool) : ∀ js : List Nat, p ∉ js → du (js.map fun j => (setF o p false j, setF b p v j, W.getD j 0)) = du (js.map fun j => (o j, b j, W.getD j 0))
  | [], _ => rfl
  | j :: js, h => by
    have ih := du_out W o b p v js fun m => h (.tail _ m)
    have q : j ≠ p := fun e => h (by rw [e]; exact .head _)
    rw [List.map_cons, List.map_cons, du, du, ih]
    unfold setF
    rw [if_neg q, if_neg q]
theorem du_in (W : List Nat) {o : Nat → Bool} (b : Nat → Bool) {p : Nat} (ho : o p = true) (v : Bool) : ∀ js : List Nat, js.Nodup → p ∈ js → du (js.map fun j => (setF o p false j, setF b p v j, W.getD j 0)) = du (js.map fun j => (o j, b j, W.getD j 0)) ^^^ bx v (W.getD p 0)
  | [], _, h => nomatch h
  | j :: js, nd, h => by
    rw [List.nodup_cons] at nd
    rw [List.map_cons, List.map_cons, du, du]
    by_cases q : j = p
    · subst q
      rw [du_out W o b j v js nd.1]
      unfold setF
      rw [if_pos rfl, if_pos rfl, ho]
      simp only [Bool.not_true, Bool.false_and, Bool.not_false, Bool.true_and, Bool.false_eq_true, if_false, Nat.zero_xor]
      rw [Nat.xor_comm]; rfl
    · have m : p ∈ js := by
        rcases List.mem_cons.mp h with e | e
        · exact absurd e.symm q
        · exact e
      rw [du_in W b ho v js nd.2 m]
      unfold setF
      rw [if_neg q, if_neg q, Nat.xor_assoc]
theorem du_tri (W : List Nat) {o : Nat → Bool} (b : Nat → Bool) {p : Nat} (hp : p < 7) (ho : o p = true) (v : Bool) : du (tri (setF o p false) (setF b p v) W) = du (tri o b W) ^^^ bx v (W.getD p 0) :=
  du_in W b ho v _ List.nodup_range (List.mem_range.mpr hp)
theorem len_WS (W : List Nat) (q : Nat → Bool) : ((WS W).filter q).length = (List.range 16).countP fun n => q (wordOf W n) := by
  rw [← List.countP_eq_length_filter]
  unfold WS
  rw [List.countP_map]
  rfl
theorem len_taken {W : List Nat} (hW8 : ∀ x ∈ W, x < 8) (hWt : W.drop 4 = [1, 2, 4]) (o b : Nat → Bool) : ((WS W).filter (fitb o b)).length = nch ((lostL o).map fun j => W.getD j 0) (du (tri o b W)) := by
  rw [len_WS, count_fit hW8 hWt]
theorem len_at {W : List Nat} (hW8 : ∀ x ∈ W, x < 8) (hWt : W.drop 4 = [1, 2, 4]) {o : Nat → Bool} (b : Nat → Bool) {p : Nat} (hp : p < 7) (ho : o p = true) (v : Bool) :
    (((WS W).filter (fitb o b)).filter fun x => x.testBit p == v).length = nch (((lostL o).filter fun j => j != p).map fun j => W.getD j 0) (du (tri o b W) ^^^ bx v (W.getD p 0)) := by
  rw [List.filter_filter]
  have e : (fun x => (x.testBit p == v) && fitb o b x) = fitb (setF o p false) (setF b p v) := by
    funext x
    rw [Bool.and_comm, fit_one b hp ho v x]
  rw [e, len_taken hW8 hWt, lost_set, du_tri W b hp ho v]
theorem two_parts (l : List Nat) (p : Nat) : l.length = (l.filter fun x => x.testBit p == true).length + (l.filter fun x => x.testBit p == false).length := by
  induction l with
  | nil => rfl
  | cons x l ih =>
    rw [List.filter_cons, List.filter_cons, List.length_cons, ih]
    cases x.testBit p <;> simp <;> omega
theorem ones_law {W : List Nat} (hW8 : ∀ x ∈ W, x < 8) (hWt : W.drop 4 = [1, 2, 4]) {o : Nat → Bool} (b : Nat → Bool) {p : Nat} (hp : p < 7) (ho : o p = true) :
    (W.getD p 0 ∈ xors (((lostL o).filter fun j => j != p).map fun j => W.getD j 0) → 2 * (((WS W).filter (fitb o b)).filter fun x => x.testBit p == true).length = ((WS W).filter (fitb o b)).length) ∧
    (W.getD p 0 ∉ xors (((lostL o).filter fun j => j != p).map fun j => W.getD j 0) → (((WS W).filter (fitb o b)).filter fun x => x.testBit p == true).length = 0 ∨ (((WS W).filter (fitb o b)).filter fun x => x.testBit p == true).length = ((WS W).filter (fitb o b)).length) := by
  have h2 := two_parts ((WS W).filter (fitb o b)) p
  have h1 := len_at hW8 hWt b hp ho true
  have h0 := len_at hW8 hWt b hp ho false
  rw [h2, h1, h0]
  generalize du (tri o b W) = d
  generalize hws : (((lostL o).filter fun j => j != p).map fun j => W.getD j 0) = ws
  generalize W.getD p 0 = v
  have g := xors_grp ws
  have n1 := nch_xors ws (d ^^^ v)
  have n0 := nch_xors ws d
  have e1 : bx true v = v := rfl
  have e0 : d ^^^ bx false v = d := Nat.xor_zero d
  rw [e1, e0]
  constructor
  · intro hv
    have sh := grp_shift g (d := d) hv
    by_cases hd : d ∈ xors ws
    · have a := n0.1 hd
      have c := n1.1 (sh.mpr hd)
      have hpos : 0 < (xors ws).length := List.length_pos_of_mem hd
      have : nch ws (d ^^^ v) = nch ws d := Nat.eq_of_mul_eq_mul_right hpos (c.trans a.symm)
      omega
    · have a := n0.2 hd
      have c := n1.2 (fun q => hd (sh.mp q))
      omega
  · intro hv
    by_cases hd : d ∈ xors ws
    · have c := n1.2 (fun q => hv (by
        have := (grp_shift g (x := d) (d := v) hd).mp (by rw [Nat.xor_comm]; exact q)
        exact this))
      left; omega
    · have a := n0.2 hd
      right; omega
end Mine
end

section
set_option maxRecDepth 100000
set_option linter.unusedVariables false
namespace Mine
open PySem PySem.W PySem.Calls PyProof.Rows
variable {prog : Program} {w : World} {hb : Heap} {mg mb : Str → Option Value}
def dst (W : List Nat) (o b : Nat → Bool) (x j : Nat) : Nat := if (!o j && b j) = true then x ^^^ W.getD j 0 else x
def duk (W : List Nat) (o b : Nat → Bool) (i : Nat) : Nat := (List.range i).foldl (dst W o b) 0
theorem duk_succ (W : List Nat) (o b : Nat → Bool) (i : Nat) : duk W o b (i + 1) = dst W o b (duk W o b i) i := by
  unfold duk; rw [List.range_succ, List.foldl_append]; rfl
theorem duk_seven (W : List Nat) (o b : Nat → Bool) : duk W o b 7 = du (tri o b W) := (du_map W o b (List.range 7)).symm
theorem any_lost {o : Nat → Bool} {j : Nat} (hj : j < 7) : (ci (lostL o)).any (· == (j : Int)) = o j := by
  rw [ci_any, Bool.eq_iff_iff, List.contains_iff_mem]
  unfold lostL
  rw [List.mem_filter, List.mem_range]
  exact ⟨fun h => h.2, fun h => ⟨hj, h⟩⟩
theorem bit_test (l j : Nat) : (Int.fmod (Int.fdiv (l : Int) (2 ^ (j : Int).toNat)) 2 == (1 : Int)) = l.testBit j := by
  rw [bit_eq, Nat.testBit_eq_decide_div_mod_eq]
theorem law_due (B : Bs (KK w) hb mg mb) {o : Obj} {name : Str} {params : Arguments} {body : List Stmt} {scope : Scope} {pm cd' doc : Value} (ho : (KK w).lookup 117 = some o) (hd : o.data = .func (docDef name params body scope pm cd' doc))
    (A' : Around) (rm : Room A' 40) (L f : Addr) (cd : Value) (O : Addr → Prop) (h₀ : Heap) (W : List Nat) (lo : Nat → Bool) (hWl : W.length = 7) (T : List Nat) (l : Nat)
    (tail : Sx true prog w hb h₀ A' (envOfC name scope L f cd) O none [(Str.ofString "reached", .li (ci (xors ((lostL lo).map fun j => W.getD j 0)))), (Str.ofString "due", .int (du (tri lo (fun j => l.testBit j) W) : Nat)), (Str.ofString "taken", .li (ci T)), (Str.ofString "lost", .li (ci (lostL lo))), (Str.ofString "weights", .li (ci W))] (body.drop 18) (.rt (.bool true))) :
    Sx true prog w hb h₀ A' (envOfC name scope L f cd) O none [(Str.ofString "taken", .li (ci T)), (Str.ofString "lost", .li (ci (lostL lo))), (Str.ofString "letter", .int l), (Str.ofString "weights", .li (ci W))] (body.drop 15) (.rt (.bool true)) := by
  have ho' : (KK w).lookup 117 = some _ := rfl
  rw [ho'] at ho
  cases ho
  cases hd
  clear ho'
  refine Sx_cons (sA Ev_int rfl) ?_
  refine Sx_for (It_of B.no rm.hd (eT B (eL1 B.no Ev_int) (Bi_range (n := 7))) rfl ?_) (fun i => [(Str.ofString "due", .int (duk W lo (fun j => l.testBit j) i : Nat)), (Str.ofString "taken", .li (ci T)), (Str.ofString "lost", .li (ci (lostL lo))), (Str.ofString "letter", .int l), (Str.ofString "weights", .li (ci W))]) ?_ 7 ?_ ?_ (.inl ⟨?_, ?_⟩)
  · simp
  · exact ⟨rfl, rfl, rfl, rfl, rfl, trivial⟩
  · simp
  · intro i it hi ei
    have : it = .int (i : Nat) := by simp [hi] at ei; exact ei.symm
    subst this
    rw [duk_succ]
    refine Sx_cons (S_if (b := !lo i && l.testBit i) (Tr.eqv (Tr_and B.no (Tr_cmp B.no eN eN Cmp_notinI rfl) (fun _ => Tr_and B.no (Tr_cmp B.no (Ev_bin B.no (Ev_bin B.no eN eN (Bin_shr (by omega))) Ev_int (Bin_mod (by decide))) Ev_int Cmp_eq rfl) (fun _ => Tr_and_nil))) ?_) ?_ ?_) Sx_nil
    · rw [any_lost hi, bit_test, Bool.and_true]
    · intro hb
      have e : dst W lo (fun j => l.testBit j) (duk W lo (fun j => l.testBit j) i) i = duk W lo (fun j => l.testBit j) i ^^^ W.getD i 0 := if_pos hb
      rw [e]
      refine Sx_post (Sx_cons (sA (v' := .int ((duk W lo (fun j => l.testBit j) i ^^^ W.getD i 0 : Nat) : Int)) (Ev_bin B.no eN (Ev_sub B.no eN eN (Sub_li (n := ((W.getD i 0 : Nat) : Int)) (fun _ _ => rfl) (by omega) (ci_getD' rfl (by omega)) (by omega))) Bin_xor) ?_) Sx_nil) (by exact ⟨rfl, rfl, rfl, rfl, rfl, trivial⟩)
      rw [bitXor_nat]
    · intro hb
      have e : dst W lo (fun j => l.testBit j) (duk W lo (fun j => l.testBit j) i) i = duk W lo (fun j => l.testBit j) i := if_neg (by rw [hb]; decide)
      rw [e]
      exact Sx_post Sx_nil (by exact ⟨rfl, rfl, rfl, rfl, rfl, trivial⟩)
  · simp
  · rw [duk_seven]
    have el : ((ci (lostL lo)).map AV.int).map (fun v => ((W.getD (iOf v).toNat 0 : Nat) : Int)) = ci ((lostL lo).map fun j => W.getD j 0) := by
      unfold ci
      simp only [List.map_map]
      rfl
    have h7 := lost_len lo
    refine Sx_cons (sA (eF B (rm.less (by decide)) (eL1 B.no (Ev.eqv (Ev_compI (f := fun v => ((W.getD (iOf v).toNat 0 : Nat) : Int)) B.no rm.hd (comp_ok [(Str.ofString "weights", L + 1)]) eN rfl ?_ ?_ (fun _ => rfl)) (congrArg AV.li el))) (xors_fn B ((lostL lo).map fun j => W.getD j 0) ?_)) rfl) (Sx_pre tail (by exact ⟨rfl, rfl, rfl, rfl, rfl, trivial⟩))
    · rw [List.length_map, ci_len]; unfold sizeLine; omega
    · intro a ha cell
      obtain ⟨x, hx, rfl⟩ := List.mem_map.mp ha
      obtain ⟨j, hj, rfl⟩ := List.mem_map.mp hx
      have hj7 := (lost_lt hj).1
      exact Ev_sub B.no eN eN (Sub_li (n := ((W.getD j 0 : Nat) : Int)) (fun _ _ => rfl) (by show (0 : Int) ≤ (j : Int); omega) (ci_getD' rfl (by omega)) (by show (j : Int) < 2 ^ 63; omega))
    · rw [List.length_map]; exact h7
end Mine
end

section
set_option maxRecDepth 100000
set_option linter.unusedVariables false
namespace Mine
open PySem PySem.W PySem.Calls PyProof.Rows
variable {prog : Program} {w : World} {hb : Heap} {mg mb : Str → Option Value}
theorem ne_nat (a b : Nat) : ((a : Int) != (b : Int)) = decide (a ≠ b) := by
  rw [bne, int_eq_nat]
  by_cases h : a = b <;> simp [h]
theorem law_end (B : Bs (KK w) hb mg mb) {o : Obj} {name : Str} {params : Arguments} {body : List Stmt} {scope : Scope} {pm cd' doc : Value} (ho : (KK w).lookup 117 = some o) (hd : o.data = .func (docDef name params body scope pm cd' doc))
    (A' : Around) (rm : Room A' 40) (L f : Addr) (cd : Value) (O : Addr → Prop) (h₀ : Heap) (W : List Nat) (lo : Nat → Bool) (hWl : W.length = 7) (T : List Nat) (d : Nat) (hTl : T.length ≤ 16)
    (hT : T.length = nch ((lostL lo).map fun j => W.getD j 0) d)
    (hones : ∀ p, p ∈ lostL lo → (W.getD p 0 ∈ xors (((lostL lo).filter fun j => j != p).map fun j => W.getD j 0) → 2 * (T.filter fun x => x.testBit p == true).length = T.length) ∧ (W.getD p 0 ∉ xors (((lostL lo).filter fun j => j != p).map fun j => W.getD j 0) → (T.filter fun x => x.testBit p == true).length = 0 ∨ (T.filter fun x => x.testBit p == true).length = T.length)) :
    Sx true prog w hb h₀ A' (envOfC name scope L f cd) O none [(Str.ofString "reached", .li (ci (xors ((lostL lo).map fun j => W.getD j 0)))), (Str.ofString "due", .int (d : Nat)), (Str.ofString "taken", .li (ci T)), (Str.ofString "lost", .li (ci (lostL lo))), (Str.ofString "weights", .li (ci W))] (body.drop 18) (.rt (.bool true)) := by
  have ho' : (KK w).lookup 117 = some _ := rfl
  rw [ho'] at ho
  cases ho
  cases hd
  clear ho'
  have hu : A'.units + 64 < cLine := by have := rm.u; omega
  have h7 := lost_len lo
  have hx := nch_xors ((lostL lo).map fun j => W.getD j 0) d
  rw [← hT, List.length_map] at hx
  have hr := xors_len (ws := (lostL lo).map fun j => W.getD j 0) (by rw [List.length_map]; exact h7)
  generalize (xors ((lostL lo).map fun j => W.getD j 0)) = R at hx hr
  by_cases hdR : d ∈ R
  · have hn := hx.1 hdR
    have hR0 : 0 < R.length := List.length_pos_of_mem hdR
    have hk : 2 ^ (lostL lo).length ≤ 2 ^ 7 := Nat.pow_le_pow_right (by decide) h7
    have hq : 2 ^ (lostL lo).length / R.length = T.length := by rw [← hn]; exact Nat.mul_div_cancel _ hR0
    have hm : 2 ^ (lostL lo).length % R.length = 0 := by rw [← hn]; exact Nat.mul_mod_left _ _
    refine Sx_cons (S_if (b := false) (Tr.eqv (Tr_cmp B.no eN eN Cmp_notinI rfl) ?_) (fun h => nomatch h) (fun _ => Sx_nil)) ?_
    · rw [ci_any, List.contains_iff_mem.mpr hdR]; rfl
    refine Sx_cons (S_if (b := false) (Tr.eqv (Tr_cmp B.no (eF B (rm.less (by decide)) (eL2 B.no (Ev.eqv (v' := .int ((2 ^ (lostL lo).length : Nat) : Int)) (Ev_bin B.no Ev_int (eB B (eL1 B.no eN) (Bi_lenI ?_)) (Bin_pow (by omega) ?_ (by decide))) ?_) (Ev.eqv (v' := .int (R.length : Nat)) (eB B (eL1 B.no eN) (Bi_lenI ?_)) ?_)) (int_divmod_fn B (2 ^ (lostL lo).length) R.length (by omega) (by omega) (by omega))) (Ev_tuple (ns := [((T.length : Nat) : Int), 0]) (eL2 B.no (Ev.eqv (v' := .int (T.length : Nat)) (eB B (eL1 B.no eN) (Bi_lenI ?_)) ?_) Ev_int) (by show 2 ≤ sizeLine; decide)) (Cmp_neT hu) rfl) ?_) (fun h => nomatch h) (fun _ => Sx_nil)) ?_
    · rw [ci_len]; omega
    · rw [ci_len]; omega
    · rw [ci_len, Int.toNat_natCast, Int.natCast_pow]; rfl
    · rw [ci_len]; omega
    · rw [ci_len]
    · rw [ci_len]; omega
    · rw [ci_len]
    · rw [hq, hm]; simp
    refine Sx_for (It_of B.no rm.hd eN rfl ?_) (fun _ => [(Str.ofString "taken", .li (ci T)), (Str.ofString "lost", .li (ci (lostL lo))), (Str.ofString "weights", .li (ci W))]) (by exact ⟨rfl, rfl, rfl, trivial⟩) (lostL lo).length ?_ ?_ (.inl ⟨?_, sR Ev_bool rfl⟩)
    · rw [List.length_map, ci_len]; omega
    · rw [List.length_map, ci_len]; exact Nat.le_refl _
    · intro i it hi ei
      obtain ⟨p, hpi⟩ : ∃ p, (lostL lo)[i]? = some p := ⟨_, List.getElem?_eq_getElem hi⟩
      rw [List.getElem?_map, ci_get hpi] at ei
      cases ei
      have hpm := List.mem_of_getElem? hpi
      have hp := lost_lt hpm
      obtain ⟨ho1, ho2⟩ := hones p hpm
      have el : (((ci (lostL lo)).map AV.int).filter (fun v => iOf v != (p : Int))).map (fun v => ((W.getD (iOf v).toNat 0 : Nat) : Int)) = ci (((lostL lo).filter fun j => j != p).map fun j => W.getD j 0) := by
        unfold ci
        rw [List.map_map, List.filter_map, List.map_map, List.map_map]
        have : ((fun v => iOf v != (p : Int)) ∘ (AV.int ∘ fun (d : Nat) => (d : Int))) = fun (j : Nat) => j != p := by
          funext j
          show ((j : Int) != (p : Int)) = (j != p)
          rw [ne_nat]
          by_cases q : j = p <;> simp [q]
        rw [this]
        rfl
      have et : (((ci T).map AV.int).filter (fun v => ((iOf v).toNat).testBit p)).map iOf = ci (T.filter fun x => x.testBit p == true) := by
        unfold ci
        rw [List.map_map, List.filter_map, List.map_map]
        have : ((fun v => ((iOf v).toNat).testBit p) ∘ (AV.int ∘ fun (d : Nat) => (d : Int))) = fun (x : Nat) => x.testBit p == true := by
          funext x
          show ((x : Int).toNat).testBit p = _
          rw [Int.toNat_natCast]; simp
        rw [this]
        rfl
      have hol : ((lostL lo).filter fun j => j != p).length ≤ 7 := Nat.le_trans (List.length_filter_le _ _) h7
      have htl : (T.filter fun x => x.testBit p == true).length ≤ 16 := Nat.le_trans (List.length_filter_le _ _) hTl
      refine Sx_cons (sA (eF B (rm.less (by decide)) (eL1 B.no (Ev.eqv (Ev_compIf (p := fun v => iOf v != (p : Int)) (f := fun v => ((W.getD (iOf v).toNat 0 : Nat) : Int)) B.no rm.hd (comp_ok [(Str.ofString "weights", L + 1), (Str.ofString "place", L + 3)]) eN rfl ?_ ?_ ?_ (fun _ => rfl)) (congrArg AV.li el))) (xors_fn B (((lostL lo).filter fun j => j != p).map fun j => W.getD j 0) ?_)) rfl) ?_
      · rw [List.length_map, ci_len]; unfold sizeLine; omega
      · intro a ha cell
        obtain ⟨x, hx, rfl⟩ := List.mem_map.mp ha
        exact Tr_cmp B.no eN eN Cmp_ne rfl
      · intro a ha _ cell
        obtain ⟨x, hx, rfl⟩ := List.mem_map.mp ha
        obtain ⟨j, hj, rfl⟩ := List.mem_map.mp hx
        have hj7 := (lost_lt hj).1
        exact Ev_sub B.no eN eN (Sub_li (n := ((W.getD j 0 : Nat) : Int)) (fun _ _ => rfl) (by show (0 : Int) ≤ (j : Int); omega) (ci_getD' rfl (by omega)) (by show (j : Int) < 2 ^ 63; omega))
      · rw [List.length_map]; exact hol
      generalize (xors (((lostL lo).filter fun j => j != p).map fun j => W.getD j 0)) = G at ho1 ho2
      refine Sx_cons (sA (v' := .int ((T.filter fun x => x.testBit p == true).length : Nat)) (eB B (eL1 B.no (Ev.eqv (Ev_compIf (p := fun v => ((iOf v).toNat).testBit p) (f := iOf) B.no rm.hd (comp_ok [(Str.ofString "place", L + 3)]) eN rfl ?_ ?_ ?_ (fun _ => rfl)) (congrArg AV.li et))) (Bi_lenI ?_)) ?_) ?_
      · rw [List.length_map, ci_len]; unfold sizeLine; omega
      · intro a ha cell
        obtain ⟨x, hx, rfl⟩ := List.mem_map.mp ha
        obtain ⟨t, ht, rfl⟩ := List.mem_map.mp hx
        refine Tr.eqv (Tr_cmp B.no (Ev_bin B.no (Ev_bin B.no eN eN (Bin_shr (by omega))) Ev_int (Bin_mod (by decide))) Ev_int Cmp_eq rfl) ?_
        exact bit_test t p
      · intro a ha _ cell
        obtain ⟨x, hx, rfl⟩ := List.mem_map.mp ha
        exact eN
      · rw [ci_len]; omega
      · rw [ci_len]
      generalize (T.filter fun x => x.testBit p == true).length = n1 at ho1 ho2 htl
      refine Sx_cons (S_if (b := G.contains (W.getD p 0)) (Tr.eqv (Tr_cmp B.no (Ev_sub B.no eN eN (Sub_li (n := ((W.getD p 0 : Nat) : Int)) (fun _ _ => rfl) (by omega) (ci_getD' rfl (by omega)) (by omega))) eN Cmp_inI rfl) (ci_any _ _)) ?_ ?_) Sx_nil
      · intro hb
        have := ho1 (List.contains_iff_mem.mp hb)
        refine Sx_post (Sx_cons (S_if (b := false) (Tr.eqv (Tr_cmp B.no (Ev_bin B.no Ev_int eN (Bin_mul (mul_ok (by decide)))) (eB B (eL1 B.no eN) (Bi_lenI ?_)) Cmp_ne rfl) ?_) (fun h => nomatch h) (fun _ => Sx_nil)) Sx_nil) (by exact ⟨rfl, rfl, rfl, trivial⟩)
        · rw [ci_len]; omega
        · rw [ci_len, ← this]
          simp
      · intro hb
        have hnm : W.getD p 0 ∉ G := fun q => by rw [List.contains_iff_mem.mpr q] at hb; cases hb
        have := ho2 hnm
        refine Sx_post (Sx_cons (S_if (b := false) (Tr.eqv (Tr_and B.no (Tr_cmp B.no eN Ev_int Cmp_ne rfl) (fun _ => Tr_and B.no (Tr_cmp B.no eN (eB B (eL1 B.no eN) (Bi_lenI ?_)) Cmp_ne rfl) (fun _ => Tr_and_nil))) ?_) (fun h => nomatch h) (fun _ => Sx_nil)) Sx_nil) (by exact ⟨rfl, rfl, rfl, trivial⟩)
        · rw [ci_len]; omega
        · rw [ci_len, ne_nat]
          rcases this with h | h
          · subst h; simp
          · subst h; simp
    · rw [List.length_map, ci_len]
  · have hn := hx.2 hdR
    have hT0 : T = [] := List.eq_nil_of_length_eq_zero hn
    refine Sx_ret (S_if (b := true) (Tr.eqv (Tr_cmp B.no eN eN Cmp_notinI rfl) ?_) (fun _ => sR (v' := .bool true) (Ev_cmp B.no eN (Ev_listI (ns := []) B.no EvL_nil (by decide)) (Cmp_eqL hu) rfl) ?_) (fun h => nomatch h))
    · rw [ci_any]
      cases q : R.contains d with
      | false => rfl
      | true => exact absurd (List.contains_iff_mem.mp q) hdR
    · rw [hT0]; rfl
end Mine
end

section
set_option maxRecDepth 100000
set_option linter.unusedVariables false
namespace Mine
open PySem PySem.W PySem.Calls PyProof.Rows
variable {prog : Program} {w : World} {hb : Heap} {mg mb : Str → Option Value}
theorem law_body (B : Bs (KK w) hb mg mb) (ns : List Int) (hn : ns.length ≤ 63) {o : Obj} {name : Str} {params : Arguments} {body : List Stmt} {scope : Scope} {pm cd' doc : Value} (ho : (KK w).lookup 117 = some o) (hd : o.data = .func (docDef name params body scope pm cd' doc))
    (A' : Around) (rm : Room A' 40) (L f : Addr) (cd : Value) (O : Addr → Prop) (h₀ : Heap) : Sx true prog w hb h₀ A' (envOfC name scope L f cd) O none [(Str.ofString "script", .li ns)] body (.rt (.bool true)) :=
  law_front B ns hn ho hd A' rm L f cd O h₀ fun W M hWl hW8 hWt hMl =>
    law_letter B ho hd A' rm L f cd O h₀ W M hWl hW8 hMl fun l fs hl hf =>
      law_hops B ho hd A' rm L f cd O h₀ W fs l hl hf
        (law_rows B ho hd A' rm L f cd O h₀ W fs l hl hf
          (law_taken B ho hd A' rm L f cd O h₀ W fs hW8 l hl
            (law_due B ho hd A' rm L f cd O h₀ W (oF fs) hWl _ l
              (law_end B ho hd A' rm L f cd O h₀ W (oF fs) hWl _ _
                (Nat.le_trans (List.length_filter_le _ _) (by rw [WS_len]; exact Nat.le_refl _))
                (len_taken hW8 hWt _ _)
                (fun p hp => ones_law hW8 hWt _ (lost_lt hp).1 (lost_lt hp).2)))))
end Mine
end

section
set_option maxRecDepth 100000
set_option linter.unusedVariables false
namespace Mine
open PySem PySem.W PySem.Calls PyProof.Rows
variable {prog : Program} {w : World} {mg mb : Str → Option Value}
theorem cellsFrom_pw (names : List (Str × NameKind)) : ∀ (n : Nat) (acc : List (Str × Addr)), (acc.Pairwise fun x y => x.2 ≠ y.2) → (∀ p ∈ acc, p.2 < n) → (cellsFrom n names acc).Pairwise fun x y => x.2 ≠ y.2 := by
  induction names with
  | nil => intro n acc h _; exact h
  | cons p r ih =>
    intro n acc h hl
    obtain ⟨nm, kd⟩ := p
    unfold cellsFrom
    split
    · refine ih _ _ (List.pairwise_cons.mpr ⟨fun q hq => Nat.ne_of_gt (hl q hq), h⟩) fun q hq => ?_
      rcases List.mem_cons.mp hq with rfl | hq
      · exact Nat.lt_succ_self _
      · exact Nat.lt_succ_of_lt (hl q hq)
    · exact ih _ _ h hl
theorem cellsFrom_lo (names : List (Str × NameKind)) : ∀ (n m : Nat) (acc : List (Str × Addr)), (∀ p ∈ acc, m < p.2) → m < n → ∀ p ∈ cellsFrom n names acc, m < p.2 := by
  induction names with
  | nil => intro n m acc h _; exact h
  | cons p r ih =>
    intro n m acc h hl
    obtain ⟨nm, kd⟩ := p
    unfold cellsFrom
    split
    · refine ih _ _ _ (fun q hq => ?_) (Nat.lt_succ_of_lt hl)
      rcases List.mem_cons.mp hq with rfl | hq
      · exact hl
      · exact h q hq
    · exact ih _ _ _ h hl
abbrev TT : List (Addr × Addr) := [(58, 54), (51, 47)]
theorem law_top {s₁ : Shared} {h₁ : Heap} {tk₁ : Nat} {fa a : Addr} {cd : Value} {vs : List Value} {ns : List Int} {p : Program} {loose : List Str} {mean : ExcName → Option Value} {cells : List (Addr × Obj)} {binds : List (Str × Value)} {o : Obj} {name : Str} {params : Arguments} {body : List Stmt} {scope : Scope} {pm cd' doc : Value}
    {Q : Flow → Shared → Prop} {E : Value → Shared → Prop}
    (ho : (KK w).lookup 117 = some o) (hdt : o.data = .func (docDef name params body scope pm cd' doc))
    (X' : (KK w).In (ghostOf s₁.heap TT)) (T' : Top p loose mean mg mb (ghostOf s₁.heap TT)) (c1 : CodeHd (ghostOf s₁.heap TT) 58 54) (c2 : CodeHd (ghostOf s₁.heap TT) 51 47)
    (li : (ghostOf s₁.heap TT).IsList a vs.toArray) (hI : IntsAre vs ns) (hn : ns.length ≤ 63)
    (X0 : CellsAre (bindC (envOfC name scope s₁.heap.objs.size fa cd).kindOf binds fun _ => none) (cellsFrom (s₁.heap.objs.size + 1) scope.names []) cells)
    (F' : Fr (ghostOf s₁.heap TT) s₁.heap.objs.size h₁ (bindL (envOfC name scope s₁.heap.objs.size fa cd).kindOf binds fun _ => none))
    (N' : News (ghostOf s₁.heap TT) s₁.heap.objs.size h₁ (cells ++ [(54, tabObj #[]), (47, tabObj #[])]))
    (hbd : binds = [(Str.ofString "script", .ref a)])
    (hQ : ∀ h' tk, (∀ b o, (ghostOf s₁.heap TT).get? b = some o → h'.get? b = some o) → GrownAll TT h' → Q (.ret (.bool true)) { s₁ with heap := h', toks := tk }) :
    wpAny (model prog w) (callerA.deeper (envOfC name scope s₁.heap.objs.size fa cd)) (execs body (envOfC name scope s₁.heap.objs.size fa cd)) Q E { s₁ with heap := h₁, toks := tk₁ } := by
  have no : (ghostOf s₁.heap TT).get? 47 = none ∧ (ghostOf s₁.heap TT).get? 54 = none := ⟨hideAll_none _ (by simp), hideAll_none _ (by simp)⟩
  have B : Bs (KK w) (ghostOf s₁.heap TT) mg mb := { X := X', g := T'.g, b := T'.b, nolimit := T'.nolimit, builtins := T'.builtins, no := no, bmod := T'.bmain, c47 := c2, c54 := c1 }
  have rm : Room (callerA.deeper (envOfC name scope s₁.heap.objs.size fa cd)) 40 := Room.deeper ⟨rfl, by decide, by decide⟩ _
  have lb := law_body (prog := prog) B ns hn ho hdt _ rm s₁.heap.objs.size fa cd (fun _ => False) (ghostOf s₁.heap TT)
  have gfresh : ∀ b, s₁.heap.objs.size ≤ b → (ghostOf s₁.heap TT).get? b = none := fun b hb' => ghost_fresh (Heap.get?_none_of_le hb')
  have cl_ge : ∀ x c, (cellsFrom (s₁.heap.objs.size + 1) scope.names []).lookup x = some c → s₁.heap.objs.size + 1 ≤ c := fun x c e => by
    rcases cellsFrom_acc _ _ _ _ _ e with q | q
    · simp at q
    · exact q
  have hap := cellsFrom_pw scope.names (s₁.heap.objs.size + 1) [] List.Pairwise.nil (fun p hp => nomatch hp)
  have C : Cl s₁.heap.objs.size (cellsFrom (s₁.heap.objs.size + 1) scope.names []) h₁ (bindC (envOfC name scope s₁.heap.objs.size fa cd).kindOf binds fun _ => none) :=
    Cl.of_news (own := []) (fun p hp => N' p (List.mem_append_left _ hp)) X0 hap (fun n c hm => cellsFrom_lo scope.names _ _ [] (fun p hp => nomatch hp) (Nat.lt_succ_self _) (n, c) hm)
  have t54 : h₁.get? 54 = some (tabObj #[]) := (N' (54, tabObj #[]) (List.mem_append_right _ (.head _))).1
  have t47 : h₁.get? 47 = some (tabObj #[]) := (N' (47, tabObj #[]) (List.mem_append_right _ (.tail _ (.head _)))).1
  have hT : TabInv h₁ := ⟨⟨#[], t47, .inl rfl⟩, ⟨#[], t54, .inl rfl⟩⟩
  subst hbd
  have hsc : scope.kind = .function ∧ scope.names.lookup (Str.ofString "script") = some .local := by
    have ho' : (KK w).lookup 117 = some _ := rfl
    rw [ho'] at ho
    cases ho
    cases hdt
    exact ⟨rfl, rfl⟩
  have fm : Fm true (ghostOf s₁.heap TT) (ghostOf s₁.heap TT) h₁ (envOfC name scope s₁.heap.objs.size fa cd) h₁ (bindL (envOfC name scope s₁.heap.objs.size fa cd).kindOf [(Str.ofString "script", .ref a)] fun _ => none) (bindC (envOfC name scope s₁.heap.objs.size fa cd).kindOf [(Str.ofString "script", .ref a)] fun _ => none) [(Str.ofString "script", .li ns)] (fun _ => False) none :=
    { rd :=
      { fn := hsc.1, gl := rfl, bi := rfl, ns := F'.ns
        cells := fun x c e => C.cell x c e
        vars := fun x u e => by
          rw [List.lookup_cons] at e
          cases hx : x == Str.ofString "script" with
          | false => rw [hx] at e; cases e
          | true =>
            rw [hx] at e; cases e
            rw [eq_of_beq hx]
            refine ⟨.ref a, ?_, a, vs, rfl, ?_, ?_, hI⟩
            · unfold varOf
              rw [show (envOfC name scope s₁.heap.objs.size fa cd).kindOf (Str.ofString "script") = some .local from hsc.2]
              exact bindL_get hsc.2 (by simp) rfl
            · rintro (q | q)
              · exact q
              · cases q
            · obtain ⟨ob, e1, e2⟩ := li; exact ⟨ob, F'.keep _ _ e1, e2⟩
        base := F'.keep
        tab := hT
        own := fun b q => by rcases q with q | q; exact q.elim; cases q }
      no := no
      hbL := gfresh _ (Nat.le_refl _)
      hbc := fun x c _ e => gfresh c (Nat.le_of_succ_le (cl_ge x c e))
      hba := fun _ q => by cases q
      inj := fun x y c e e' => name_of_addr C.apart (mem_of_lookup e) (mem_of_lookup e')
      nl := fun x c e => Nat.ne_of_gt (cl_ge x c e)
      f0L := gfresh _ (Nat.le_refl _)
      f0c := fun x c _ e => gfresh c (Nat.le_of_succ_le (cl_ge x c e))
      f0a := fun _ q => by cases q
      noO := fun _ _ q => by cases q
      keep0 := .of F'.keep
      keepM := .refl
      one := fun x y u u' e e' o o' => by
        have := AllB.get (P := fun p => isOwn p.2 = false) (β := [(Str.ofString "script", .li ns)]) ⟨rfl, trivial⟩ e
        simp only at this
        rw [this] at o; cases o
      oat := fun x u cv e o _ => by
        have := AllB.get (P := fun p => isOwn p.2 = false) (β := [(Str.ofString "script", .li ns)]) ⟨rfl, trivial⟩ e
        simp only at this
        rw [this] at o; cases o }
  refine lb.go { s₁ with heap := h₁, toks := tk₁ } h₁ _ _ _ _ fm fun fl h' tk' oc => ?_
  obtain ⟨cv, rfl, r1, T'', k'⟩ := oc
  obtain rfl : cv = .bool true := r1
  refine hQ h' tk' (fun b o e => k' b o (fun _ => ⟨fun q => ?_, fun q => ?_⟩) e) ?_
  · subst q; rw [no.1] at e; cases e
  · subst q; rw [no.2] at e; cases e
  · obtain ⟨⟨ps, e1, _⟩, ⟨ps', e2, _⟩⟩ := T''
    exact ⟨⟨ps', e2⟩, ⟨ps, e1⟩, trivial⟩
end Mine
end

section
open PySem PySem.W PySem.Calls PyProof.Rows
set_option Elab.async false
set_option maxRecDepth 100000
set_option maxHeartbeats 0
namespace Mine
theorem tt : PySem.Challenge.rw_pe0164_01.Holds := hd (by
  k_go0
  all_goals try k_fold
  refine law_top (p := topProg) rfl rfl (by assumption) (by assumption) (by assumption) (by assumption) (by assumption) (by assumption) ?_ (by assumption) (by assumption) (by assumption) rfl ?_
  · omega
  · intro h' tk hk hg
    refine ⟨?_, hg⟩
    refine ⟨.inl ⟨.bool true, .bool true, [], rfl, raisesW_false ?_, .bool true, ?_, unshared_nil⟩, hk, rfl, by assumption⟩
    · wrow_none_raised
    · kc_post)
end Mine
end

set_option maxHeartbeats 8000000 in
theorem PySem.Challenge.cw_pe0164_01_holds : PySem.Challenge.rw_pe0164_01.Holds :=
  Mine.tt
