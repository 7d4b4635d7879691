import PyProof.Rows.All
import Wide.All
import OpenK.AllK
import Wide.FinOn
import Lean
import PySem.Challenge.RW_pe0037_01

/-! part Head -/
section
open PySem PySem.W PyProof.Rows
set_option Elab.async false
set_option maxRecDepth 100000
set_option maxHeartbeats 8000000
namespace Mine
open_top hd for PySem.Challenge.rw_pe0037_01
end Mine
end

/-! part M1 -/
section
open PySem PySem.W PyProof.Rows PySem.Calls
set_option linter.unusedVariables false
set_option Elab.async false
set_option maxRecDepth 100000
namespace Mine

/-! the heap only grows -/
def Sub (h h' : Heap) : Prop := ∀ b o, h.get? b = some o → h'.get? b = some o
theorem Sub.refl (h : Heap) : Sub h h := fun _ _ e => e
theorem Sub.trans {a b c : Heap} (x : Sub a b) (y : Sub b c) : Sub a c := fun p o e => y p o (x p o e)

/-! what stands at the top, as far as the walk reads it -/
structure Std (w : World) (h : Heap) : Prop where
  K : (hd.heap_39 w.params).In h
  g : ∃ mg, h.Ns mainGlobals mg
  b : ∃ mb, h.Ns builtinsNs mb ∧ ∀ x : Str, x ≠ "__name__" → mb x = bootBuiltins x
  nl : h.NoLimit
theorem Std.sub {w : World} {h h' : Heap} (S : Std w h) (k : Sub h h') : Std w h' :=
  ⟨S.K.keeps k, let ⟨mg, a⟩ := S.g; ⟨mg, a.keeps k⟩, let ⟨mb, a, e⟩ := S.b; ⟨mb, a.keeps k, e⟩, S.nl.keeps k⟩
theorem Std.obj {w : World} {h : Heap} (S : Std w h) {a : Addr} {o : Obj} (e : (hd.heap_39 w.params).lookup a = some o) : h.get? a = some o := S.K a o e

/-! room on the stack -/
def OkA (n : Nat) (A : Around) : Prop := A.handled = none ∧ A.depth + n ≤ 900 ∧ A.units + 10 * n ≤ 9000
theorem OkA.deeper {n : Nat} {A : Around} (x : OkA (n + 1) A) (env : Env) : OkA n (A.deeper env) :=
  ⟨x.1, by have := x.2.1; show A.depth + 1 + n ≤ 900; omega, by have := x.2.2; show A.units + 3 + 10 * n ≤ 9000; omega⟩
theorem OkA.in1 {n : Nat} {A : Around} (x : OkA (n + 1) A) : OkA n A.in1 :=
  ⟨x.1, by have := x.2.1; show A.depth + n ≤ 900; omega, by have := x.2.2; show A.units + 1 + 10 * n ≤ 9000; omega⟩
theorem OkA.le {n m : Nat} {A : Around} (x : OkA n A) (h : m ≤ n) : OkA m A := ⟨x.1, by have := x.2.1; omega, by have := x.2.2; omega⟩
theorem OkA.depth {n : Nat} {A : Around} (x : OkA n A) : A.depth < recursionLimit := by have := x.2.1; show A.depth < 1000; omega
theorem OkA.units {n : Nat} {A : Around} (x : OkA n A) : A.units < cLine := by have := x.2.2; show A.units < 9900; omega

/-! quiet evaluation: it ends, it raises nothing, the heap only grows -/
def EvR (prog : Program) (w : World) (A : Around) (h : Heap) {α : Type} (t : Sem α) (R : Heap → α → Heap → Prop) : Prop :=
  ∀ (s : Shared) (E : Value → Shared → Prop), Sub h s.heap → wpAny (model prog w) A t (fun v s' => R s.heap v s'.heap ∧ Keeps s s') E s
abbrev Ev (prog : Program) (w : World) (A : Around) (h : Heap) {α : Type} (t : Sem α) (R : α → Prop) : Prop := EvR prog w A h t (fun _ v _ => R v)

section
variable {prog : Program} {w : World} {A : Around} {h : Heap} {α β : Type}

theorem EvR.wp {t : Sem α} {R : Heap → α → Heap → Prop} {s : Shared} {Q : α → Shared → Prop} {E : Value → Shared → Prop} (x : EvR prog w A h t R) (hs : Sub h s.heap)
    (k : ∀ v h' tk, Sub s.heap h' → R s.heap v h' → Q v { s with heap := h', toks := tk }) : wpAny (model prog w) A t Q E s :=
  wpAny_mono (x s E hs) (fun v s' r => by obtain ⟨r, h', tk, rfl, hk⟩ := r; exact k v h' tk hk r) fun _ _ e => e
theorem EvR.of {t : Sem α} {R : Heap → α → Heap → Prop}
    (x : ∀ (s : Shared) (Q : α → Shared → Prop) (E : Value → Shared → Prop), Sub h s.heap → (∀ v h' tk, Sub s.heap h' → R s.heap v h' → Q v { s with heap := h', toks := tk }) → wpAny (model prog w) A t Q E s) : EvR prog w A h t R :=
  fun s E hs => x s _ E hs fun v h' tk hk r => ⟨r, h', tk, rfl, hk⟩
theorem EvR.mono {t : Sem α} {R R' : Heap → α → Heap → Prop} (x : EvR prog w A h t R) (k : ∀ h₁ v h₂, Sub h h₁ → Sub h₁ h₂ → R h₁ v h₂ → R' h₁ v h₂) : EvR prog w A h t R' :=
  EvR.of fun _ _ _ hs q => x.wp hs fun v h' tk hk r => q v h' tk hk (k _ v h' hs hk r)
theorem EvR.sub {t : Sem α} {R : Heap → α → Heap → Prop} {h' : Heap} (x : EvR prog w A h t R) (k : Sub h h') : EvR prog w A h' t R := fun s E hs => x s E (k.trans hs)
theorem EvR.bind {t : Sem α} {f : α → Sem β} {R : Heap → α → Heap → Prop} {R' : Heap → β → Heap → Prop} (x : EvR prog w A h t R)
    (y : ∀ v h₁ h₂, Sub h h₁ → Sub h₁ h₂ → R h₁ v h₂ → EvR prog w A h₂ (f v) (fun _ u h₃ => R' h₁ u h₃)) : EvR prog w A h (t >>= f) R' :=
  EvR.of fun s Q E hs k => wpAny_bind (x.wp hs fun v h' _ hk r => (y v s.heap h' hs hk r).wp (Sub.refl h') fun u h'' tk' hk' r' => k u h'' tk' (hk.trans hk') r')
theorem ev_pure {a : α} {R : α → Prop} (r : R a) : Ev prog w A h (pure a) R := EvR.of fun s Q E hs k => wpAny_pure (k a s.heap s.toks (Sub.refl _) r)

/-- a value that is this int, this text -/
def isI (i : Int) (v : Value) : Prop := ∃ t, v = .int i t
def isS (x : Str) (v : Value) : Prop := ∃ t, v = .str x t
def isB (b : Bool) (v : Value) : Prop := v = .bool b

section
variable {env : Env} {R R₁ R₂ R₃ : Value → Prop}
theorem ev_const_int {i : Int} {k : Nat} {pos : Pos} : Ev prog w A h (eval (.Constant (.int i) k pos) env) (isI i) :=
  EvR.of fun s _ _ _ q => wpAny_Constant_int (q _ s.heap _ (Sub.refl _) ⟨_, rfl⟩)
theorem ev_const_str {x : Str} {k : Nat} {pos : Pos} : Ev prog w A h (eval (.Constant (.str x) k pos) env) (isS x) :=
  EvR.of fun s _ _ _ q => wpAny_Constant_str (q _ s.heap _ (Sub.refl _) ⟨_, rfl⟩)
theorem ev_local {x : Str} {pos : Pos} {m : Str → Option Value} {v : Value} (hn : h.Ns env.locals m) (hv : m x = some v) (hk : env.scope.kind = .function) (hl : env.kindOf x = some .local)
    (hd : (x == ("__debug__" : Str)) = false) : Ev prog w A h (eval (.Name x pos) env) (· = v) :=
  EvR.of fun s _ _ hs q => wpAny_Name (wpAny_loadName_local hk hl (hn.keeps hs) hv (q _ s.heap s.toks (Sub.refl _) rfl)) hd
theorem ev_cell {x : Str} {pos : Pos} {c : Addr} {v : Value} (hc : h.IsCell c (some v)) (hk : env.scope.kind = .function) (hl : env.kindOf x = some .cell) (he : env.cells.lookup x = some c)
    (hd : (x == ("__debug__" : Str)) = false) : Ev prog w A h (eval (.Name x pos) env) (· = v) :=
  EvR.of fun s _ _ hs q => wpAny_Name (wpAny_loadName_cell hk hl he (hc.keeps hs) (q _ s.heap s.toks (Sub.refl _) rfl)) hd
theorem ev_free {x : Str} {pos : Pos} {c : Addr} {v : Value} (hc : h.IsCell c (some v)) (hk : env.scope.kind = .function) (hl : env.kindOf x = some .free) (he : env.cells.lookup x = some c)
    (hd : (x == ("__debug__" : Str)) = false) (hn : (x == ("__classdict__" : Str)) = false) : Ev prog w A h (eval (.Name x pos) env) (· = v) :=
  EvR.of fun s _ _ hs q => wpAny_Name (wpAny_loadName_free hk hl he (hc.keeps hs) (q _ s.heap s.toks (Sub.refl _) rfl) hn) hd
theorem ev_glob {x : Str} {pos : Pos} {v : Value} (S : Std w h) (e : nsIn (hd.heap_39 w.params) mainGlobals x = some (some v)) (hg : env.globals = mainGlobals) (hk : env.scope.kind = .function)
    (hx : env.kindOf x = some .globalImplicit) (hd : (x == ("__debug__" : Str)) = false) : Ev prog w A h (eval (.Name x pos) env) (· = v) :=
  EvR.of fun s _ _ hs q => by
    obtain ⟨mg, G⟩ := S.g
    exact Name_function_global hk hx (loadGlobal_global (hg ▸ G.keeps hs) (mg_of S.K G e) (q _ s.heap s.toks (Sub.refl _) rfl)) hd
theorem ev_builtin {x : Str} {pos : Pos} {v : Value} (S : Std w h) (e : nsIn (hd.heap_39 w.params) mainGlobals x = some none) (hv : bootBuiltins x = some v) (hn : x ≠ "__name__")
    (hg : env.globals = mainGlobals) (hb : env.builtins = builtinsNs) (hk : env.scope.kind = .function)
    (hx : env.kindOf x = some .globalImplicit) (hd : (x == ("__debug__" : Str)) = false) : Ev prog w A h (eval (.Name x pos) env) (· = v) :=
  EvR.of fun s _ _ hs q => by
    obtain ⟨mg, G⟩ := S.g
    obtain ⟨mb, B, hB⟩ := S.b
    exact Name_function_global hk hx (loadGlobal_builtin (hg ▸ G.keeps hs) (mg_none_of S.K G e) (hb ▸ B.keeps hs) ((hB x hn).trans hv) (q _ s.heap s.toks (Sub.refl _) rfl)) hd
theorem ev_binop {l r : Expr} {op : Operator} {pos : Pos} (hl : Ev prog w A h (eval l env) R₁) (hr : Ev prog w A h (eval r env) R₂) (ho : ∀ a b, R₁ a → R₂ b → Ev prog w A h (binaryOp op a b) R) :
    Ev prog w A h (eval (.BinOp l op r pos) env) R :=
  EvR.of fun s Q E hs k => wpAny_BinOp (hl.wp hs fun a h₁ t₁ k₁ r₁ => hr.wp (hs.trans k₁) fun b h₂ t₂ k₂ r₂ => (ho a b r₁ r₂).wp (hs.trans (k₁.trans k₂)) fun v h₃ t₃ k₃ r₃ => k v h₃ t₃ (k₁.trans (k₂.trans k₃)) r₃)
theorem ev_cmp {l r : Expr} {op : CmpOp} {pos : Pos} (hl : Ev prog w A h (eval l env) R₁) (hr : Ev prog w A h (eval r env) R₂) (ho : ∀ a b, R₁ a → R₂ b → Ev prog w A h (compareOp op a b) R)
    (hm : behindInMarks op r = false) : Ev prog w A h (eval (.Compare l [op] [r] pos) env) R :=
  EvR.of fun s Q E hs k => wpAny_Compare1 (hl.wp hs fun a h₁ t₁ k₁ r₁ => hr.wp (hs.trans k₁) fun b h₂ t₂ k₂ r₂ => (ho a b r₁ r₂).wp (hs.trans (k₁.trans k₂)) fun v h₃ t₃ k₃ r₃ => k v h₃ t₃ (k₁.trans (k₂.trans k₃)) r₃) hm
end
end
end Mine
end

/-! part H1 -/
section
open PySem PySem.W PyProof.Rows PySem.Calls
set_option linter.unusedVariables false
set_option Elab.async false
set_option maxRecDepth 100000
namespace Mine
section
variable {prog : Program} {w : World} {A : Around} {E : Value → Shared → Prop} {h : Heap} {g : Array GenState} {d : Drawn} {t : Nat} {os : OsState} {x : Str} {u : Tok}
theorem lk_str_gi : typeLookup (.type "str") "__getitem__" = pure (some (.builtin "str.__getitem__")) := F.slot_str_getitem.lookup
theorem ty_gi : typeOf (.builtin "str.__getitem__") = pure (.type "wrapper_descriptor") := by kernel_rfl
theorem slot_wd_get : Slot "wrapper_descriptor" "__get__" "wrapper_descriptor.__get__" :=
  Slot.of (owner := "wrapper_descriptor") (n := "__get__") (by rw [typeLookup_type, builtinLookup_eq_fast]; kernel_rfl) (by decide +kernel) (by decide +kernel) (by decide +kernel)
    (by first | exact .inl (by kernel_rfl) | exact .inr (by kernel_rfl)) (by rw [isSubtype_type]; kernel_rfl)
theorem lk_wd_set : typeLookup (.type "wrapper_descriptor") "__set__" = pure none := by rw [typeLookup_type, builtinLookup_eq_fast]; kernel_rfl
theorem lk_wd_del : typeLookup (.type "wrapper_descriptor") "__delete__" = pure none := by rw [typeLookup_type, builtinLookup_eq_fast]; kernel_rfl
theorem entry_wd_get : entryFor table "wrapper_descriptor.__get__" = some Builtin.«wrapper_descriptor.__get__» := entryFor_of_tree (by kernel_rfl)
theorem args_wd_get (a b c : Value) : argsOk "wrapper_descriptor.__get__" ⟨[a, b, c], []⟩ := by unfold argsOk; kernel_rfl

theorem sub_gi_owner : isSubtype (.type "str") (.type (".".intercalate ("str.__getitem__".cutAt '.').dropLast)) = pure true := by
  have e0 : "str.__getitem__".cutAt '.' = ["str", "__getitem__"] := by first | rfl | decide +kernel
  have e1 : (".".intercalate (["str", "__getitem__"] : List String).dropLast) = "str" := by decide +kernel
  rw [e0, e1, isSubtype_type]; kernel_rfl
theorem wd_get {R : Result → Shared → Prop} (hq : ∀ a ob, R (.ok (.ret (.ref a))) ⟨h.push ob, g, d, t, os⟩) :
    codeAny (model prog w) A (.call (.builtin "wrapper_descriptor.__get__") ⟨[.builtin "str.__getitem__", .str x u, .type "str"], []⟩) R ⟨h, g, d, t, os⟩ := by
  have hT : (⟨h, g, d, t, os⟩ : Shared).TypeIs (.str x u) "str" := rfl
  have hT5 : (⟨h, g, d, t, os⟩ : Shared).TypeIs (.builtin "str.__getitem__") "wrapper_descriptor" := ty_gi
  have f8 := sub_gi_owner
  refine codeAny_call_builtin slot_wd_get.plain entry_wd_get (slot_wd_get.check _ _ _ _ _ _ _ _ hT5 (args_wd_get _ _ _) ?_)
  repeat (any_goals (first | assumption | wp_step))
  exact hq _ _
theorem ga_entry {tk : Tok} {Q : Fin → Shared → Prop} (hq : ∀ a ob, Q (.done (.ret (.ref a))) ⟨h.push ob, g, d, t, os⟩) :
    wpAny (model prog w) A (Builtin.«object.__getattribute__» ⟨[.str x u, .str "__getitem__" tk], []⟩) Q E ⟨h, g, d, t, os⟩ := by
  have hT : (⟨h, g, d, t, os⟩ : Shared).TypeIs (.str x u) "str" := rfl
  have hT5 : (⟨h, g, d, t, os⟩ : Shared).TypeIs (.builtin "str.__getitem__") "wrapper_descriptor" := ty_gi
  have f4 := lk_str_gi
  have f5 := ty_gi
  have f6 := slot_wd_get.lookup
  have f7 := lk_wd_set
  have f8 := lk_wd_del
  repeat (any_goals (first | assumption | wp_step))
  refine wd_get fun a ob => ?_
  have hq' := hq a ob
  repeat (any_goals (first | assumption | wp_step))
theorem ga_call {tk : Tok} {R : Result → Shared → Prop} (hq : ∀ a ob, R (.ok (.ret (.ref a))) ⟨h.push ob, g, d, t, os⟩) :
    codeAny (model prog w) A (.call (.builtin "object.__getattribute__") ⟨[.str x u, .str "__getitem__" tk], []⟩) R ⟨h, g, d, t, os⟩ :=
  codeAny_call_builtin F.slot_str_getattribute.plain F.entry_object_getattribute (F.slot_str_getattribute.check _ _ _ _ _ _ _ _ (show (⟨h, g, d, t, os⟩ : Shared).TypeIs (.str x u) "str" from rfl) (F.args_object_getattribute_2 _ _) (ga_entry hq))
theorem ga_by {tk : Tok} {Q : Value → Shared → Prop} (hq : ∀ a ob, Q (.ref a) ⟨h.push ob, g, d, t, os⟩) : wpAny (model prog w) A (getAttrBy (.str x u) (.str "__getitem__" tk) false) Q E ⟨h, g, d, t, os⟩ := by
  have hT : (⟨h, g, d, t, os⟩ : Shared).TypeIs (.str x u) "str" := rfl
  have f2 := F.slot_str_getattribute.lookup
  have f3 := F.slot_str_getattribute.bind (.str x u)
  repeat (any_goals (first | assumption | wp_step))
  refine ga_call fun a ob => ?_
  have hq' := hq a ob
  repeat (any_goals (first | assumption | wp_step))
end
end Mine
end

/-! part H2 -/
section
open PySem PySem.W PyProof.Rows PySem.Calls
set_option linter.unusedVariables false
set_option Elab.async false
set_option maxRecDepth 100000
namespace Mine
section
variable {prog : Program} {w : World} {A : Around} {E : Value → Shared → Prop} {h : Heap} {g : Array GenState} {d : Drawn} {t : Nat} {os : OsState} {x : Str} {u : Tok}
theorem ga_by? {tk : Tok} {Q : Option Value → Shared → Prop} (hq : ∀ a ob, Q (some (.ref a)) ⟨h.push ob, g, d, t, os⟩) : wpAny (model prog w) A (getAttrBy? (.str x u) (.str "__getitem__" tk)) Q E ⟨h, g, d, t, os⟩ := by
  unfold getAttrBy?
  exact wpAny_bind (wpAny_attempt (ga_by fun a ob => wpAny_pure (hq a ob)))
theorem entry_hasattr : entryFor table "hasattr" = some Builtin.«hasattr» := entryFor_of_tree (by kernel_rfl)
theorem kind_hasattr : builtinKind "hasattr" = none := by decide +kernel
theorem args_hasattr (a b : Value) : argsOk "hasattr" ⟨[a, b], []⟩ := by unfold argsOk; kernel_rfl
theorem data_gi : (withoutEnding? "str.__getitem__" "#data").isSome = false := by decide +kernel
theorem hasattr_body {tk : Tok} {Q : Fin → Shared → Prop} (hq : ∀ ob, Q (.done (.ret (.bool true))) ⟨h.push ob, g, d, t, os⟩) :
    wpAny (model prog w) A (Builtin.«hasattr» ⟨[.str x u, .str "__getitem__" tk], []⟩) Q E ⟨h, g, d, t, os⟩ := by
  unfold Builtin.«hasattr»
  refine wpAny_bind (wpAny_of_eq (a := [.str x u, .str "__getitem__" tk]) rfl ?_)
  refine wpAny_bind (wpAny_of_eq (a := ()) rfl ?_)
  refine wpAny_ite_false rfl ?_
  refine wpAny_bind (wpAny_of_eq (a := .type "str") rfl ?_)
  refine wpAny_bind (wpAny_of_eq (a := some (Str.ofString "__getitem__")) rfl ?_)
  refine wpAny_bind (wpAny_of_eq lk_str_gi ?_)
  refine wpAny_bind (wpAny_of_eq F.slot_str_getattribute.lookup ?_)
  refine wpAny_ite_false (by rw [data_gi]; rfl) ?_
  refine wpAny_bind (wpAny_of_eq (a := (0 : Nat)) rfl ?_)
  refine wpAny_ite_false rfl ?_
  refine wpAny_bind (ga_by? fun a ob => ?_)
  refine wpAny_ite_false rfl ?_
  exact wpAny_pure (hq ob)
theorem call_hasattr {s : Shared} {tk : Tok} {Q : Value → Shared → Prop} (hq : ∀ ob, Q (.bool true) { s with heap := s.heap.push ob }) :
    wpAny (model prog w) A (call (.builtin "hasattr") [.str x u, .str "__getitem__" tk]) Q E s :=
  call_function_entry kind_hasattr (by decide +kernel) entry_hasattr (args_hasattr _ _) (hasattr_body (h := s.heap) (g := s.gens) (d := s.drawn) (t := s.toks) (os := s.os) fun ob => ⟨_, rfl, hq ob⟩)
end
end Mine
end

/-! part M2 -/
section
open PySem PySem.W PyProof.Rows PySem.Calls
set_option linter.unusedVariables false
set_option Elab.async false
set_option maxRecDepth 100000
namespace Mine
section
variable {prog : Program} {w : World} {A : Around} {h : Heap} {env : Env} {R R₁ R₂ R₃ : Value → Prop} {x y : Value} {a b : Int} {p q : Str}

/-! ints -/
theorem ev_add (hx : isI a x) (hy : isI b y) : Ev prog w A h (binaryOp .Add x y) (isI (a + b)) := by
  obtain ⟨t, rfl⟩ := hx; obtain ⟨u, rfl⟩ := hy
  exact EvR.of fun s _ _ _ k => PyProof.Rows.add_int (k _ s.heap _ (Sub.refl _) ⟨_, rfl⟩)
theorem ev_sub (hx : isI a x) (hy : isI b y) : Ev prog w A h (binaryOp .Sub x y) (isI (a - b)) := by
  obtain ⟨t, rfl⟩ := hx; obtain ⟨u, rfl⟩ := hy
  exact EvR.of fun s _ _ _ k => PyProof.Rows.sub_int (k _ s.heap _ (Sub.refl _) ⟨_, rfl⟩)
theorem ev_mul (hm : IntMulOk a b) (hx : isI a x) (hy : isI b y) : Ev prog w A h (binaryOp .Mult x y) (isI (a * b)) := by
  obtain ⟨t, rfl⟩ := hx; obtain ⟨u, rfl⟩ := hy
  exact EvR.of fun s _ _ _ k => PyProof.Rows.mul_int (k _ s.heap _ (Sub.refl _) ⟨_, rfl⟩) hm
theorem ev_div (hb : b ≠ 0) (hs : b.natAbs < 1073741824) (hx : isI a x) (hy : isI b y) : Ev prog w A h (binaryOp .FloorDiv x y) (isI (a.fdiv b)) := by
  obtain ⟨t, rfl⟩ := hx; obtain ⟨u, rfl⟩ := hy
  exact EvR.of fun s _ _ _ k => PyProof.Rows.floordiv_int hb (k _ s.heap _ (Sub.refl _) ⟨_, rfl⟩) (.inl (PyProof.noPylong_small hs))
theorem ev_mod (hb : b ≠ 0) (hx : isI a x) (hy : isI b y) : Ev prog w A h (binaryOp .Mod x y) (isI (a.fmod b)) := by
  obtain ⟨t, rfl⟩ := hx; obtain ⟨u, rfl⟩ := hy
  exact EvR.of fun s _ _ _ k => PyProof.Rows.mod_int' hb (k _ s.heap _ (Sub.refl _) ⟨_, rfl⟩)
theorem ev_pow (hn : 0 ≤ b) (hsz : (Builtin.Int.intBits a : Int) * b ≤ 2 ^ 27) (hx : isI a x) (hy : isI b y) : Ev prog w A h (binaryOp .Pow x y) (isI (a ^ b.toNat)) := by
  obtain ⟨t, rfl⟩ := hx; obtain ⟨u, rfl⟩ := hy
  exact EvR.of fun s _ _ _ k => PyProof.Rows.pow_int hn hsz (k _ s.heap _ (Sub.refl _) ⟨_, rfl⟩)
theorem ev_eqi (hx : isI a x) (hy : isI b y) : Ev prog w A h (compareOp .Eq x y) (isB (a == b)) := by
  obtain ⟨t, rfl⟩ := hx; obtain ⟨u, rfl⟩ := hy
  exact EvR.of fun s _ _ _ k => PyProof.Rows.eq_int (k _ s.heap s.toks (Sub.refl _) rfl)
theorem ev_nei (hx : isI a x) (hy : isI b y) : Ev prog w A h (compareOp .NotEq x y) (isB (a != b)) := by
  obtain ⟨t, rfl⟩ := hx; obtain ⟨u, rfl⟩ := hy
  exact EvR.of fun s _ _ _ k => PyProof.Rows.ne_int (k _ s.heap s.toks (Sub.refl _) rfl)
theorem ev_lti (hx : isI a x) (hy : isI b y) : Ev prog w A h (compareOp .Lt x y) (isB (decide (a < b))) := by
  obtain ⟨t, rfl⟩ := hx; obtain ⟨u, rfl⟩ := hy
  exact EvR.of fun s _ _ _ k => PyProof.Rows.lt_int (k _ s.heap s.toks (Sub.refl _) rfl)
theorem ev_gti (hx : isI a x) (hy : isI b y) : Ev prog w A h (compareOp .Gt x y) (isB (decide (b < a))) := by
  obtain ⟨t, rfl⟩ := hx; obtain ⟨u, rfl⟩ := hy
  exact EvR.of fun s _ _ _ k => PyProof.Rows.gt_int (k _ s.heap s.toks (Sub.refl _) rfl)
theorem ev_gei (hx : isI a x) (hy : isI b y) : Ev prog w A h (compareOp .GtE x y) (isB (decide (b ≤ a))) := by
  obtain ⟨t, rfl⟩ := hx; obtain ⟨u, rfl⟩ := hy
  exact EvR.of fun s _ _ _ k => PyProof.Rows.ge_int (k _ s.heap s.toks (Sub.refl _) rfl)
/-! texts -/
theorem ev_cat (hz : p.length + q.length ≤ sizeLine) (hx : isS p x) (hy : isS q y) : Ev prog w A h (binaryOp .Add x y) (isS (p ++ q)) := by
  obtain ⟨t, rfl⟩ := hx; obtain ⟨u, rfl⟩ := hy
  exact EvR.of fun s _ _ _ k => PyProof.Rows.add_str (fun t' tk => k _ s.heap _ (Sub.refl _) ⟨_, rfl⟩) hz
theorem ev_eqs (hx : isS p x) (hy : isS q y) : Ev prog w A h (compareOp .Eq x y) (isB (p == q)) := by
  obtain ⟨t, rfl⟩ := hx; obtain ⟨u, rfl⟩ := hy
  exact EvR.of fun s _ _ _ k => PyProof.Rows.eq_str (k _ s.heap s.toks (Sub.refl _) rfl)
theorem ev_nes (hx : isS p x) (hy : isS q y) : Ev prog w A h (compareOp .NotEq x y) (isB (p != q)) := by
  obtain ⟨t, rfl⟩ := hx; obtain ⟨u, rfl⟩ := hy
  exact EvR.of fun s _ _ _ k => PyProof.Rows.ne_str (k _ s.heap s.toks (Sub.refl _) rfl)
theorem ev_ins (hx : isS p x) (hy : isS q y) : Ev prog w A h (compareOp .In y x) (isB !(Builtin.Str.occurrences p q 0 p.length 1).isEmpty) := by
  obtain ⟨t, rfl⟩ := hx; obtain ⟨u, rfl⟩ := hy
  exact EvR.of fun s _ _ _ k => PyProof.Rows.in_str (k _ s.heap s.toks (Sub.refl _) rfl)
theorem ev_lens (hz : p.length ≤ sizeLine) (hx : isS p x) : Ev prog w A h (call (.builtin "len") [x]) (isI p.length) := by
  obtain ⟨t, rfl⟩ := hx
  exact EvR.of fun s _ _ _ k => PyProof.Rows.len_str (by have e : sizeLine = 16777216 := by decide
                                                         rw [e] at hz; omega) (k _ s.heap _ (Sub.refl _) ⟨_, rfl⟩)
theorem ev_hasattr (hx : isS p x) (hy : isS "__getitem__" y) : Ev prog w A h (call (.builtin "hasattr") [x, y]) (isB true) := by
  obtain ⟨t, rfl⟩ := hx; obtain ⟨u, rfl⟩ := hy
  exact EvR.of fun s _ _ _ k => call_hasattr fun ob => k _ (s.heap.push ob) s.toks (fun b o e => Heap.get?_push_of_some _ e) rfl
theorem ev_max (hA : A.handled = none) (hx : isI a x) (hy : isI b y) : Ev prog w A h (call (.builtin "max") [x, y]) (isI (max a b)) := by
  obtain ⟨t, rfl⟩ := hx; obtain ⟨u, rfl⟩ := hy
  refine EvR.of fun s _ _ _ k => max_two_ints hA fun h' tk hk => k _ h' tk hk ?_
  by_cases hb : b > a
  · rw [if_pos hb]; exact ⟨u, by rw [Int.max_eq_right (by omega)]⟩
  · rw [if_neg hb]; exact ⟨t, by rw [Int.max_eq_left (by omega)]⟩
theorem ev_min (hA : A.handled = none) (hx : isI a x) (hy : isI b y) : Ev prog w A h (call (.builtin "min") [x, y]) (isI (min a b)) := by
  obtain ⟨t, rfl⟩ := hx; obtain ⟨u, rfl⟩ := hy
  refine EvR.of fun s _ _ _ k => min_two_ints hA fun h' tk hk => k _ h' tk hk ?_
  by_cases hb : b < a
  · rw [if_pos hb]; exact ⟨u, by rw [Int.min_eq_right (by omega)]⟩
  · rw [if_neg hb]; exact ⟨t, by rw [Int.min_eq_left (by omega)]⟩
theorem ev_neg (hx : isI a x) : Ev prog w A h (unaryOp .USub x) (isI (-a)) := by
  obtain ⟨t, rfl⟩ := hx
  exact EvR.of fun s _ _ _ k => PyProof.Rows.neg_int (k _ s.heap _ (Sub.refl _) ⟨_, rfl⟩)
theorem ev_unary {op : UnaryOp} {e : Expr} {pos : Pos} (he : Ev prog w A h (eval e env) R₁) (ho : ∀ v, R₁ v → Ev prog w A h (unaryOp op v) R) : Ev prog w A h (eval (.UnaryOp op e pos) env) R :=
  EvR.of fun s Q E hs k => wpAny_UnaryOp (he.wp hs fun a h₁ t₁ k₁ r₁ => (ho a r₁).wp (hs.trans k₁) fun v h₂ t₂ k₂ r₂ => k v h₂ t₂ (k₁.trans k₂) r₂)

/-! calls -/
theorem ev_call1 {func a₁ : Expr} {pos : Pos} {f : Addr} {o : Obj} {fd : FuncData} {R : Heap → Value → Heap → Prop} (hf : Ev prog w A h (eval func env) (· = .ref f)) (ho : h.get? f = some o) (hd : o.data = .func fd)
    (h₁ : Ev prog w A h (eval a₁ env) R₁) (hc : ∀ v, R₁ v → EvR prog w A h (call (.ref f) [v]) R) (hR : ∀ h₁ h₂ v h₃, Sub h₁ h₂ → R h₂ v h₃ → R h₁ v h₃)
    (hs₁ : starEach [a₁] env = [(false, eval a₁ env)]) (he : eval (.Call func [a₁] [] pos) env = (do callWith pos (← eval func env) [] (backTo pos (starEach [a₁] env)) (backToKw pos (keywordEach [] env)))) :
    EvR prog w A h (eval (.Call func [a₁] [] pos) env) R :=
  EvR.of fun s Q E hs k => Call_ (hf.wp hs fun fv h₀ t₀ k₀ r₀ => by
    subst r₀
    rw [hs₁]
    refine callWith_function (o := o) (fd := fd) (evalArgs_plain (spliced_cons (h₁.wp (hs.trans k₀) fun v h₁ t₁ k₁ r₁ => spliced_nil ⟨⟨k₁ _ _ (k₀ _ _ (hs _ _ ho)), hd⟩, ?_⟩)))
    exact (hc v r₁).wp (hs.trans (k₀.trans k₁)) fun u h₂ t₂ k₂ r₂ => k u h₂ t₂ (k₀.trans (k₁.trans k₂)) (hR _ _ _ _ (k₀.trans k₁) r₂)) he
theorem ev_call2 {func a₁ a₂ : Expr} {pos : Pos} {f : Addr} {o : Obj} {fd : FuncData} {R : Heap → Value → Heap → Prop} (hf : Ev prog w A h (eval func env) (· = .ref f)) (ho : h.get? f = some o) (hd : o.data = .func fd)
    (h₁ : Ev prog w A h (eval a₁ env) R₁) (h₂ : Ev prog w A h (eval a₂ env) R₂) (hc : ∀ v u, R₁ v → R₂ u → EvR prog w A h (call (.ref f) [v, u]) R) (hR : ∀ h₁ h₂ v h₃, Sub h₁ h₂ → R h₂ v h₃ → R h₁ v h₃)
    (hs₁ : starEach [a₁, a₂] env = [(false, eval a₁ env), (false, eval a₂ env)]) (he : eval (.Call func [a₁, a₂] [] pos) env = (do callWith pos (← eval func env) [] (backTo pos (starEach [a₁, a₂] env)) (backToKw pos (keywordEach [] env)))) :
    EvR prog w A h (eval (.Call func [a₁, a₂] [] pos) env) R :=
  EvR.of fun s Q E hs k => Call_ (hf.wp hs fun fv h₀ t₀ k₀ r₀ => by
    subst r₀
    rw [hs₁]
    refine callWith_function (o := o) (fd := fd) (evalArgs_plain (spliced_cons (h₁.wp (hs.trans k₀) fun v h₁ t₁ k₁ r₁ => spliced_cons (h₂.wp (hs.trans (k₀.trans k₁)) fun u h₂ t₂ k₂ r₂ => spliced_nil ⟨⟨k₂ _ _ (k₁ _ _ (k₀ _ _ (hs _ _ ho))), hd⟩, ?_⟩))))
    exact (hc v u r₁ r₂).wp (hs.trans (k₀.trans (k₁.trans k₂))) fun z h₃ t₃ k₃ r₃ => k z h₃ t₃ (k₀.trans (k₁.trans (k₂.trans k₃))) (hR _ _ _ _ (k₀.trans (k₁.trans k₂)) r₃)) he
theorem ev_callb1 {func a₁ : Expr} {pos : Pos} {id : String} {R : Heap → Value → Heap → Prop} (hf : Ev prog w A h (eval func env) (· = .builtin id))
    (h₁ : Ev prog w A h (eval a₁ env) R₁) (hc : ∀ v, R₁ v → EvR prog w A h (call (.builtin id) [v]) R) (hR : ∀ h₁ h₂ v h₃, Sub h₁ h₂ → R h₂ v h₃ → R h₁ v h₃)
    (hs₁ : starEach [a₁] env = [(false, eval a₁ env)]) (he : eval (.Call func [a₁] [] pos) env = (do callWith pos (← eval func env) [] (backTo pos (starEach [a₁] env)) (backToKw pos (keywordEach [] env)))) :
    EvR prog w A h (eval (.Call func [a₁] [] pos) env) R :=
  EvR.of fun s Q E hs k => Call_ (hf.wp hs fun fv h₀ t₀ k₀ r₀ => by
    subst r₀
    rw [hs₁]
    refine callWith_builtin rfl (evalArgs_plain (spliced_cons (h₁.wp (hs.trans k₀) fun v h₁ t₁ k₁ r₁ => spliced_nil ?_)))
    exact (hc v r₁).wp (hs.trans (k₀.trans k₁)) fun u h₂ t₂ k₂ r₂ => k u h₂ t₂ (k₀.trans (k₁.trans k₂)) (hR _ _ _ _ (k₀.trans k₁) r₂)) he
theorem ev_callb2 {func a₁ a₂ : Expr} {pos : Pos} {id : String} {R : Heap → Value → Heap → Prop} (hf : Ev prog w A h (eval func env) (· = .builtin id))
    (h₁ : Ev prog w A h (eval a₁ env) R₁) (h₂ : Ev prog w A h (eval a₂ env) R₂) (hc : ∀ v u, R₁ v → R₂ u → EvR prog w A h (call (.builtin id) [v, u]) R) (hR : ∀ h₁ h₂ v h₃, Sub h₁ h₂ → R h₂ v h₃ → R h₁ v h₃)
    (hs₁ : starEach [a₁, a₂] env = [(false, eval a₁ env), (false, eval a₂ env)]) (he : eval (.Call func [a₁, a₂] [] pos) env = (do callWith pos (← eval func env) [] (backTo pos (starEach [a₁, a₂] env)) (backToKw pos (keywordEach [] env)))) :
    EvR prog w A h (eval (.Call func [a₁, a₂] [] pos) env) R :=
  EvR.of fun s Q E hs k => Call_ (hf.wp hs fun fv h₀ t₀ k₀ r₀ => by
    subst r₀
    rw [hs₁]
    refine callWith_builtin rfl (evalArgs_plain (spliced_cons (h₁.wp (hs.trans k₀) fun v h₁ t₁ k₁ r₁ => spliced_cons (h₂.wp (hs.trans (k₀.trans k₁)) fun u h₂ t₂ k₂ r₂ => spliced_nil ?_))))
    exact (hc v u r₁ r₂).wp (hs.trans (k₀.trans (k₁.trans k₂))) fun z h₃ t₃ k₃ r₃ => k z h₃ t₃ (k₀.trans (k₁.trans (k₂.trans k₃))) (hR _ _ _ _ (k₀.trans (k₁.trans k₂)) r₃)) he

/-! truth -/
theorem ev_truthy {c : Bool} {v : Value} (hv : isB c v) : Ev prog w A h (truthy v) (· = c) := by
  rw [hv]; exact EvR.of fun s _ _ _ k => wpAny_truthy_bool (k _ s.heap s.toks (Sub.refl _) rfl)
theorem ev_true_cmp {l r : Expr} {op : CmpOp} {pos : Pos} {whole : Sem Value} {c : Bool} (hl : Ev prog w A h (eval l env) R₁) (hr : Ev prog w A h (eval r env) R₂)
    (ho : ∀ a b, R₁ a → R₂ b → Ev prog w A h (compareOp op a b) (isB c)) (hm : behindInMarks op r = false) : Ev prog w A h (isTrue (.Compare l [op] [r] pos) env whole) (· = c) :=
  EvR.of fun s Q E hs k => wpAny_isTrue_Compare1 (hl.wp hs fun a h₁ t₁ k₁ r₁ => hr.wp (hs.trans k₁) fun b h₂ t₂ k₂ r₂ => (ho a b r₁ r₂).wp (hs.trans (k₁.trans k₂)) fun v h₃ t₃ k₃ r₃ =>
    (ev_truthy r₃).wp (Sub.refl _) fun z h₄ t₄ k₄ r₄ => k z h₄ t₄ (k₁.trans (k₂.trans (k₃.trans k₄))) r₄) hm
theorem ev_true_val {e : Expr} {whole : Sem Value} {c : Bool} (he : Ev prog w A h whole (isB c)) (hp : isTrue e env whole = (do let v ← whole; standAt e.pos; holding [v] (truthy v))) :
    Ev prog w A h (isTrue e env whole) (· = c) :=
  EvR.of fun s Q E hs k => wpAny_isTrue_value (he.wp hs fun v h₁ t₁ k₁ r₁ => (ev_truthy r₁).wp (Sub.refl _) fun z h₂ t₂ k₂ r₂ => k z h₂ t₂ (k₁.trans k₂) r₂) hp
theorem ev_true_not {e : Expr} {pos : Pos} {whole : Sem Value} {c : Bool} (he : Ev prog w A h (isTrue e env (eval e env)) (· = c)) : Ev prog w A h (isTrue (.UnaryOp .Not e pos) env whole) (· = !c) :=
  EvR.of fun s Q E hs k => wpAny_isTrue_Not (he.wp hs fun v h₁ t₁ k₁ r₁ => k _ h₁ t₁ k₁ (by rw [r₁]))
theorem ev_true_and2 {e₁ e₂ : Expr} {pos : Pos} {whole : Sem Value} {c₁ c₂ : Bool} (h₁ : Ev prog w A h (isTrue e₁ env (eval e₁ env)) (· = c₁)) (h₂ : c₁ = true → Ev prog w A h (isTrue e₂ env (eval e₂ env)) (· = c₂)) :
    Ev prog w A h (isTrue (.BoolOp .And [e₁, e₂] pos) env whole) (· = (c₁ && c₂)) :=
  EvR.of fun s Q E hs k => wpAny_isTrue_BoolOp (wpAny_allTrue_And_cons (h₁.wp hs fun v h₁ t₁ k₁ r₁ => by
    subst r₁
    cases v with
    | false => simp only [Bool.false_eq_true, if_false]; exact k _ _ _ k₁ rfl
    | true =>
      simp only [if_true]
      refine wpAny_allTrue_And_cons ((h₂ rfl).wp (hs.trans k₁) fun v h₂ t₂ k₂ r₂ => ?_)
      subst r₂
      cases v with
      | false => simp only [Bool.false_eq_true, if_false]; exact k _ _ _ (k₁.trans k₂) rfl
      | true => simp only [if_true]; exact wpAny_allTrue_And_nil (k _ _ _ (k₁.trans k₂) rfl)))
theorem ev_true_and3 {e₁ e₂ e₃ : Expr} {pos : Pos} {whole : Sem Value} {c₁ c₂ c₃ : Bool} (h₁ : Ev prog w A h (isTrue e₁ env (eval e₁ env)) (· = c₁)) (h₂ : c₁ = true → Ev prog w A h (isTrue e₂ env (eval e₂ env)) (· = c₂))
    (h₃ : c₁ = true → c₂ = true → Ev prog w A h (isTrue e₃ env (eval e₃ env)) (· = c₃)) :
    Ev prog w A h (isTrue (.BoolOp .And [e₁, e₂, e₃] pos) env whole) (· = (c₁ && (c₂ && c₃))) :=
  EvR.of fun s Q E hs k => wpAny_isTrue_BoolOp (wpAny_allTrue_And_cons (h₁.wp hs fun v h₁ t₁ k₁ r₁ => by
    subst r₁
    cases v with
    | false => simp only [Bool.false_eq_true, if_false]; exact k _ _ _ k₁ rfl
    | true =>
      simp only [if_true]
      refine wpAny_allTrue_And_cons ((h₂ rfl).wp (hs.trans k₁) fun v h₂ t₂ k₂ r₂ => ?_)
      subst r₂
      cases v with
      | false => simp only [Bool.false_eq_true, if_false]; exact k _ _ _ (k₁.trans k₂) rfl
      | true =>
        simp only [if_true]
        refine wpAny_allTrue_And_cons ((h₃ rfl rfl).wp (hs.trans (k₁.trans k₂)) fun v h₃ t₃ k₃ r₃ => ?_)
        subst r₃
        cases v with
        | false => simp only [Bool.false_eq_true, if_false]; exact k _ _ _ (k₁.trans (k₂.trans k₃)) rfl
        | true => simp only [if_true]; exact wpAny_allTrue_And_nil (k _ _ _ (k₁.trans (k₂.trans k₃)) rfl)))
theorem ev_true_or2 {e₁ e₂ : Expr} {pos : Pos} {whole : Sem Value} {c₁ c₂ : Bool} (h₁ : Ev prog w A h (isTrue e₁ env (eval e₁ env)) (· = c₁)) (h₂ : Ev prog w A h (isTrue e₂ env (eval e₂ env)) (· = c₂)) :
    Ev prog w A h (isTrue (.BoolOp .Or [e₁, e₂] pos) env whole) (· = (c₁ || c₂)) :=
  EvR.of fun s Q E hs k => wpAny_isTrue_BoolOp (wpAny_allTrue_Or_cons (h₁.wp hs fun v h₁ t₁ k₁ r₁ => by
    subst r₁
    cases v with
    | true => simp only [if_true]; exact k _ _ _ k₁ rfl
    | false =>
      simp only [Bool.false_eq_true, if_false]
      refine wpAny_allTrue_Or_cons (h₂.wp (hs.trans k₁) fun v h₂ t₂ k₂ r₂ => ?_)
      subst r₂
      cases v with
      | true => simp only [if_true]; exact k _ _ _ (k₁.trans k₂) rfl
      | false => simp only [Bool.false_eq_true, if_false]; exact wpAny_allTrue_Or_nil (k _ _ _ (k₁.trans k₂) rfl)))
end
end Mine
end

/-! part M3 -/
section
open PySem PySem.W PyProof.Rows PySem.Calls
set_option linter.unusedVariables false
set_option Elab.async false
set_option maxRecDepth 100000
namespace Mine

/-! a frame at work: its names, the objects that it holds and may change; all else stands -/
abbrev OS := List (Addr × (Obj → Prop))
abbrev Map := Str → Option Value
structure St (X : List Addr) (s₀ : Shared) (L : Addr) (m : Map) (os : OS) (s : Shared) : Prop where
  same : ∃ h tk, s = { s₀ with heap := h, toks := tk }
  ns : s.heap.Ns L m
  keep : ∀ b o, b ∉ X → s₀.heap.get? b = some o → s.heap.get? b = some o
  new : s₀.heap.get? L = none
  mem : ∀ p ∈ os, ∃ o, s.heap.get? p.1 = some o ∧ p.2 o
  fresh : ∀ p ∈ os, p.1 ≠ L ∧ (s₀.heap.get? p.1 = none ∨ p.1 ∈ X)
  nodup : (os.map (·.1)).Nodup
def upd (m : Map) (x : Str) (v : Value) : Map := fun y => if y = x then some v else m y
/-- a list that the frame may change; a cell; an object as it is -/
def LObj (items : Array Value) (o : Obj) : Prop := ∃ n, o = { cls := .type "list", data := .seq items n }
def CObj (v : Option Value) (o : Obj) : Prop := o.data = .cell v

section
variable {X : List Addr} {s₀ s : Shared} {L : Addr} {m : Map} {os : OS}
theorem St.sub (x : St [] s₀ L m os s) : Sub s₀.heap s.heap := fun b o e => x.keep b o (by simp) e
theorem St.quiet (x : St X s₀ L m os s) {h' : Heap} {tk : Nat} (k : Sub s.heap h') : St X s₀ L m os { s with heap := h', toks := tk } := by
  obtain ⟨h, t, rfl⟩ := x.same
  exact ⟨⟨h', tk, rfl⟩, x.ns.keeps k, fun b o hb e => k _ _ (x.keep b o hb e), x.new, fun p hp => let ⟨o, e, q⟩ := x.mem p hp; ⟨o, k _ _ e, q⟩, x.fresh, x.nodup⟩
theorem St.tok (x : St X s₀ L m os s) {tk : Nat} : St X s₀ L m os { s with toks := tk } := x.quiet (Sub.refl _)
theorem St.push (x : St X s₀ L m os s) {h' : Heap} {tk : Nat} {a : Addr} {p : Obj → Prop} {o : Obj} (k : Sub s.heap h') (ha : s.heap.get? a = none) (ho : h'.get? a = some o) (hp : p o) (hX : a ∉ X) :
    St X s₀ L m ((a, p) :: os) { s with heap := h', toks := tk } := by
  have y := x.quiet (tk := tk) k
  refine ⟨y.same, y.ns, y.keep, y.new, fun q hq => ?_, fun q hq => ?_, ?_⟩
  · rcases List.mem_cons.mp hq with rfl | hq
    · exact ⟨o, ho, hp⟩
    · exact y.mem q hq
  · rcases List.mem_cons.mp hq with rfl | hq
    · refine ⟨fun e => ?_, .inl ?_⟩
      · obtain ⟨oL, _, _, e', _⟩ := x.ns
        have e2 : a = L := e
        rw [← e2, ha] at e'; cases e'
      · cases e : s₀.heap.get? a with
        | none => rfl
        | some o' => have := x.keep a o' hX e; rw [ha] at this; cases this
    · exact y.fresh q hq
  · rw [List.map_cons]
    refine List.nodup_cons.mpr ⟨fun hm => ?_, y.nodup⟩
    obtain ⟨q, hq, e⟩ := List.mem_map.mp hm
    obtain ⟨o', e', _⟩ := x.mem q hq
    have e2 : q.1 = a := e
    rw [e2, ha] at e'; cases e'
theorem St.setAt {pre post : OS} {a : Addr} {p p' : Obj → Prop} (x : St X s₀ L m (pre ++ (a, p) :: post) s) {h' : Heap} {tk : Nat} {o : Obj} (k : Heap.ExtBut a s.heap h') (ho : h'.get? a = some o) (hp : p' o) :
    St X s₀ L m (pre ++ (a, p') :: post) { s with heap := h', toks := tk } := by
  obtain ⟨h, t, rfl⟩ := x.same
  have ham : (a, p) ∈ pre ++ (a, p) :: post := List.mem_append_right _ (List.mem_cons_self ..)
  have hf := x.fresh _ ham
  have hnd := x.nodup
  rw [List.map_append, List.map_cons] at hnd
  have hne : ∀ q, q ∈ pre ∨ q ∈ post → q.1 ≠ a := by
    intro q hq e
    have h1 := List.nodup_append.mp hnd
    rcases hq with hq | hq
    · exact h1.2.2 q.1 (List.mem_map_of_mem hq) a (List.mem_cons_self ..) e
    · exact (List.nodup_cons.mp h1.2.1).1 (List.mem_map.mpr ⟨q, hq, e⟩)
  refine ⟨⟨h', tk, rfl⟩, x.ns.extBut k (Ne.symm hf.1), fun b ob hb e => ?_, x.new, fun q hq => ?_, fun q hq => ?_, ?_⟩
  · refine k b ob (fun eb => ?_) (x.keep b ob hb e)
    rw [eb] at e hb
    rcases hf.2 with h2 | h2
    · have h3 : s₀.heap.get? a = none := h2
      rw [h3] at e; cases e
    · exact hb h2
  · rcases List.mem_append.mp hq with hq' | hq'
    · obtain ⟨o', e', r⟩ := x.mem q (List.mem_append_left _ hq')
      exact ⟨o', k _ _ (hne q (.inl hq')) e', r⟩
    · rcases List.mem_cons.mp hq' with rfl | hq'
      · exact ⟨o, ho, hp⟩
      · obtain ⟨o', e', r⟩ := x.mem q (List.mem_append_right _ (List.mem_cons_of_mem _ hq'))
        exact ⟨o', k _ _ (hne q (.inr hq')) e', r⟩
  · rcases List.mem_append.mp hq with hq' | hq'
    · exact x.fresh q (List.mem_append_left _ hq')
    · rcases List.mem_cons.mp hq' with rfl | hq'
      · exact hf
      · exact x.fresh q (List.mem_append_right _ (List.mem_cons_of_mem _ hq'))
  · rw [List.map_append, List.map_cons]; exact hnd
theorem St.drop {pre post : OS} {q : Addr × (Obj → Prop)} (x : St X s₀ L m (pre ++ q :: post) s) : St X s₀ L m (pre ++ post) s := by
  have up : ∀ r, r ∈ pre ++ post → r ∈ pre ++ q :: post := fun r hr => by
    rcases List.mem_append.mp hr with h | h
    · exact List.mem_append_left _ h
    · exact List.mem_append_right _ (List.mem_cons_of_mem _ h)
  refine ⟨x.same, x.ns, x.keep, x.new, fun r hr => x.mem r (up r hr), fun r hr => x.fresh r (up r hr), ?_⟩
  have hnd := x.nodup
  rw [List.map_append, List.map_cons] at hnd
  rw [List.map_append]
  exact hnd.sublist (List.Sublist.append (List.Sublist.refl _) (List.sublist_cons_self ..))
theorem St.weak {pre post : OS} {a : Addr} {p p' : Obj → Prop} (x : St X s₀ L m (pre ++ (a, p) :: post) s) (hp : ∀ o, p o → p' o) : St X s₀ L m (pre ++ (a, p') :: post) s := by
  refine ⟨x.same, x.ns, x.keep, x.new, fun q hq => ?_, fun q hq => ?_, ?_⟩
  · rcases List.mem_append.mp hq with hq' | hq'
    · exact x.mem q (List.mem_append_left _ hq')
    · rcases List.mem_cons.mp hq' with rfl | hq'
      · obtain ⟨o, e, r⟩ := x.mem (a, p) (List.mem_append_right _ (List.mem_cons_self ..))
        exact ⟨o, e, hp o r⟩
      · exact x.mem q (List.mem_append_right _ (List.mem_cons_of_mem _ hq'))
  · rcases List.mem_append.mp hq with hq' | hq'
    · exact x.fresh q (List.mem_append_left _ hq')
    · rcases List.mem_cons.mp hq' with rfl | hq'
      · exact x.fresh (a, p) (List.mem_append_right _ (List.mem_cons_self ..))
      · exact x.fresh q (List.mem_append_right _ (List.mem_cons_of_mem _ hq'))
  · have hnd := x.nodup
    rw [List.map_append, List.map_cons] at hnd ⊢
    exact hnd
theorem St.lose {a : Addr} {p : Obj → Prop} (x : St X s₀ L m ((a, p) :: os) s) {h' : Heap} {tk : Nat} (k : Heap.ExtBut a s.heap h') : St X s₀ L m os { s with heap := h', toks := tk } := by
  obtain ⟨h, t, rfl⟩ := x.same
  have hf := x.fresh _ (List.mem_cons_self ..)
  have hnd := x.nodup
  rw [List.map_cons] at hnd
  have hne : ∀ q, q ∈ os → q.1 ≠ a := fun q hq e => (List.nodup_cons.mp hnd).1 (List.mem_map.mpr ⟨q, hq, e⟩)
  refine ⟨⟨h', tk, rfl⟩, x.ns.extBut k (Ne.symm hf.1), fun b ob hb e => ?_, x.new, fun q hq => ?_, fun q hq => x.fresh q (List.mem_cons_of_mem _ hq), (List.nodup_cons.mp hnd).2⟩
  · refine k b ob (fun eb => ?_) (x.keep b ob hb e)
    rw [eb] at e hb
    rcases hf.2 with h2 | h2
    · have h3 : s₀.heap.get? a = none := h2
      rw [h3] at e; cases e
    · exact hb h2
  · obtain ⟨o', e', r⟩ := x.mem q (List.mem_cons_of_mem _ hq)
    exact ⟨o', k _ _ (hne q hq) e', r⟩
theorem St.local (x : St X s₀ L m os s) {h' : Heap} {tk : Nat} {m' : Map} (hn : h'.Ns L m') (k : Heap.ExtBut L s.heap h') : St X s₀ L m' os { s with heap := h', toks := tk } := by
  obtain ⟨h, t, rfl⟩ := x.same
  refine ⟨⟨h', tk, rfl⟩, hn, fun b o hb e => k b o (fun eb => ?_) (x.keep b o hb e), x.new, fun p hp => let ⟨o, e, q⟩ := x.mem p hp; ⟨o, k _ _ (x.fresh p hp).1 e, q⟩, x.fresh, x.nodup⟩
  rw [eb, x.new] at e; cases e
theorem St.at (x : St X s₀ L m os s) {a : Addr} {p : Obj → Prop} (hm : (a, p) ∈ os) : ∃ o, s.heap.get? a = some o ∧ p o := x.mem _ hm
theorem St.cell (x : St X s₀ L m os s) {c : Addr} {v : Option Value} (hm : (c, CObj v) ∈ os) : s.heap.IsCell c v := let ⟨o, e, q⟩ := x.mem _ hm; ⟨o, e, q⟩
theorem St.list (x : St X s₀ L m os s) {a : Addr} {items : Array Value} (hm : (a, LObj items) ∈ os) : s.heap.PlainList a items := by
  obtain ⟨o, e, n, q⟩ := x.mem _ hm
  exact ⟨n, by rw [← q]; exact e⟩
end

section
variable {prog : Program} {w : World} {A : Around} {E : Value → Shared → Prop} {X : List Addr} {s₀ s : Shared} {m : Map} {os : OS} {env : Env}
theorem ex_store {x : Str} {v : Value} {Q : Unit → Shared → Prop} (hst : St X s₀ env.locals m os s) (k : ∀ s', St X s₀ env.locals (upd m x v) os s' → Q () s')
    (hl : env.kindOf x = some .local) (hp : (env.scope.kind == .class || (env.scope.kind == .module && env.locals != env.globals)) = false) : wpAny (model prog w) A (storeName env x v) Q E s :=
  wpAny_storeName_local hl hst.ns (fun h' hn hs => k _ (hst.local hn hs.extBut)) hp
theorem ex_storeC {x : Str} {v : Value} {pre post : OS} {c : Addr} {v₀ : Option Value} {Q : Unit → Shared → Prop} (hst : St X s₀ env.locals m (pre ++ (c, CObj v₀) :: post) s)
    (k : ∀ s', St X s₀ env.locals m (pre ++ (c, CObj (some v)) :: post) s' → Q () s')
    (hk : env.scope.kind = .function) (hl : env.kindOf x = some .cell) (hc : env.cells.lookup x = some c) : wpAny (model prog w) A (storeName env x v) Q E s :=
  wpAny_storeName_cell hk hl hc (hst.cell (List.mem_append_right _ (List.mem_cons_self ..))) fun h' hv hs => by
    obtain ⟨o, ho, hd⟩ := hv
    exact k _ (hst.setAt (tk := s.toks) hs.extBut ho hd)
/-- x = e, x a local -/
theorem ex_assign {x : Str} {e : Expr} {px pos : Pos} {R : Heap → Value → Heap → Prop} {Q : Flow → Shared → Prop} (hst : St X s₀ env.locals m os s) (he : EvR prog w A s.heap (eval e env) R)
    (k : ∀ v h' tk, Sub s.heap h' → R s.heap v h' → ∃ os', St X s₀ env.locals m os' { s with heap := h', toks := tk } ∧ ∀ s', St X s₀ env.locals (upd m x v) os' s' → Q .next s')
    (hl : env.kindOf x = some .local) (hp : (env.scope.kind == .class || (env.scope.kind == .module && env.locals != env.globals)) = false)
    (hs : swapsWith e (some (.Name x px)) pos.line env = pure false) : wpAny (model prog w) A (exec (.Assign [.Name x px] e pos) env) Q E s :=
  wpAny_Assign_Name (he.wp (Sub.refl _) fun v h' tk hk r => by
    obtain ⟨os', st', k'⟩ := k v h' tk hk r
    exact ex_store st' k' hl hp) hs
/-- x = e, x a cell -/
theorem ex_assignC {x : Str} {e : Expr} {px pos : Pos} {R : Heap → Value → Heap → Prop} {c : Addr} {Q : Flow → Shared → Prop} (he : EvR prog w A s.heap (eval e env) R)
    (k : ∀ v h' tk, Sub s.heap h' → R s.heap v h' → ∃ pre post v₀, St X s₀ env.locals m (pre ++ (c, CObj v₀) :: post) { s with heap := h', toks := tk } ∧ ∀ s', St X s₀ env.locals m (pre ++ (c, CObj (some v)) :: post) s' → Q .next s')
    (hk : env.scope.kind = .function) (hl : env.kindOf x = some .cell) (hc : env.cells.lookup x = some c)
    (hs : swapsWith e (some (.Name x px)) pos.line env = pure false) : wpAny (model prog w) A (exec (.Assign [.Name x px] e pos) env) Q E s :=
  wpAny_Assign_Name (he.wp (Sub.refl _) fun v h' tk hk' r => by
    obtain ⟨pre, post, v₀, st', k'⟩ := k v h' tk hk' r
    exact ex_storeC st' k' hk hl hc) hs
end

/-! what a loop goes over -/
def plainIt (o : Obj) : Prop := o.cls = .type "list_iterator" ∨ o.cls = .type "range_iterator" ∨ o.cls = .type "str_ascii_iterator"
def EvIt (prog : Program) (w : World) (A : Around) (h : Heap) (t : Sem Value) (n : Nat) (P : Nat → Value → Prop) (old : List Addr) : Prop :=
  ∀ (s : Shared) (Q : Value → Shared → Prop) (E : Value → Shared → Prop), Sub h s.heap →
    (∀ I h' tk T, Sub s.heap h' → s.heap.get? I = none → I ∉ old → (∀ b ∈ I :: old, b < h'.objs.size) → Walks prog w A I (I :: old) [I] n P T → T 0 h' → (∀ i h₂, T i h₂ → ∃ o, h₂.get? I = some o ∧ plainIt o) → Q (.ref I) { s with heap := h', toks := tk }) →
    wpAny (model prog w) A t (fun x s₁ => wpAny (model prog w) A (pyIter x) Q E s₁) E s
theorem none_of_size {h : Heap} {a : Addr} (ha : h.objs.size ≤ a) : h.get? a = none := by
  cases e : h.get? a with
  | none => rfl
  | some o => exact absurd (Heap.lt_size e) (Nat.not_lt.mpr ha)
section
variable {prog : Program} {w : World} {A : Around} {h : Heap}
theorem EvIt.list {t : Sem Value} {ax : Addr} {items : Array Value} (hA : A.handled = none) (ht : Ev prog w A h t (· = .ref ax)) (hl : h.IsList ax items) : EvIt prog w A h t items.size (fun i v => items[i]? = some v) [ax] :=
  fun s Q E hs k => ht.wp hs fun v h₁ t₁ k₁ r₁ => by
    subst r₁
    have hl₁ : h₁.IsList ax items := hl.at fun o e => k₁ _ _ (hs _ _ e)
    have hlt : ax < h₁.objs.size := let ⟨o, e, _⟩ := hl₁; Heap.lt_size e
    refine wpAny_pyIter_list hl₁ (k h₁.objs.size _ t₁ _ (fun b o e => Heap.get?_push_of_some _ (k₁ b o e)) ?_ ?_ ?_ (Walks.list hA h₁.objs.size ax (Nat.ne_of_lt hlt) items) ⟨⟨_, Heap.get?_push_size _ rfl, rfl, rfl⟩, hl₁.push _⟩ fun i h₂ x => let ⟨o, e, hc, _⟩ := x.1; ⟨o, e, .inl hc⟩)
    · cases e : s.heap.get? h₁.objs.size with
      | none => rfl
      | some o => exact absurd (Heap.lt_size (k₁ _ _ e)) (Nat.lt_irrefl _)
    · intro hm
      rw [List.mem_singleton] at hm
      exact Nat.ne_of_lt hlt hm.symm
    · intro b hb
      rw [Heap.size_push]
      rcases List.mem_cons.mp hb with rfl | hb
      · exact Nat.lt_succ_self _
      · rw [List.mem_singleton.mp hb]; exact Nat.lt_succ_of_lt hlt
end
end Mine
end

/-! part M4 -/
section
open PySem PySem.W PyProof.Rows PySem.Calls
set_option linter.unusedVariables false
set_option Elab.async false
set_option maxRecDepth 100000
namespace Mine
theorem walks_impl {prog : Program} {w : World} {A : Around} {I : Addr} {fp wr : List Addr} {n : Nat} {P P' : Nat → Value → Prop} {T : Nat → Heap → Prop} (W : Walks prog w A I fp wr n P T) (k : ∀ i v, P i v → P' i v) : Walks prog w A I fp wr n P' T :=
  ⟨W.sub, W.frame, fun i s Q E hi st hQ => W.item i s Q E hi st fun v h' tk hp st' hk => hQ v h' tk (k i v hp) st' hk, W.done, W.self⟩
section
variable {prog : Program} {w : World} {A : Around} {h : Heap} {env : Env}
theorem it_range (hA : A.handled = none) {a b : Int} {n : Nat} {t : Sem Value} (hn : n = (b - a).toNat) (ha : -(2 ^ 62) ≤ a) (ha' : a < 2 ^ 62) (hb : -(2 ^ 62) ≤ b) (hb' : b < 2 ^ 62)
    (ht : EvR prog w A h t (fun h₁ v h₂ => ∃ r t₁ u₁ v₁, v = .ref r ∧ h₁.get? r = none ∧ IsRange h₂ r a b 1 t₁ u₁ v₁)) :
    EvIt prog w A h t n (fun i v => isI (a + (i : Int)) v) [] :=
  fun s Q E hs k => ht.wp hs fun v h₁ tk₁ k₁ r₁ => by
    obtain ⟨r, t₁, u₁, v₁, rfl, hr, hR⟩ := r₁
    refine wpAny_pyIter_range hR (small_one ha ha' hb hb') ?_
    have hsz : Builtin.Range.rangeSize a b 1 = (n : Int) := by rw [rangeSize_nat, hn]
    refine k h₁.objs.size _ tk₁ _ (fun b o e => Heap.get?_push_of_some _ (k₁ b o e)) ?_ (by simp) ?_ (walks_impl (Walks.range hA h₁.objs.size a 1 n) (P' := fun i v => isI (a + (i : Int)) v) fun i v hp => ?_) ?_ ?_
    · cases e : s.heap.get? h₁.objs.size with
      | none => rfl
      | some o => exact absurd (Heap.lt_size (k₁ _ _ e)) (Nat.lt_irrefl _)
    · intro b hb
      rw [Heap.size_push]
      rcases List.mem_cons.mp hb with rfl | hb
      · exact Nat.lt_succ_self _
      · cases hb
    · obtain ⟨t, e⟩ := hp
      exact ⟨t, by rw [e, Int.mul_one]⟩
    · show IsRangeIter _ _ _ _ _
      have := Heap.get?_push_size (h := h₁) (o := { cls := .type "range_iterator", data := .fields #[rawInt a, rawInt (Builtin.Range.rangeSize a b 1), rawInt 1] }) rfl
      rw [hsz] at this
      simpa [hsz] using this
    · exact fun i h₂ x => ⟨_, x, .inr (.inl rfl)⟩
theorem ev_range1 {func a₁ : Expr} {pos : Pos} {n : Int} (hf : Ev prog w A h (eval func env) (· = .type "range")) (h₁ : Ev prog w A h (eval a₁ env) (isI n))
    (hs₁ : starEach [a₁] env = [(false, eval a₁ env)]) (he : eval (.Call func [a₁] [] pos) env = (do callWith pos (← eval func env) [] (backTo pos (starEach [a₁] env)) (backToKw pos (keywordEach [] env)))) :
    EvR prog w A h (eval (.Call func [a₁] [] pos) env) (fun h₁ v h₂ => ∃ r t₁ u₁ v₁, v = .ref r ∧ h₁.get? r = none ∧ IsRange h₂ r 0 n 1 t₁ u₁ v₁) :=
  EvR.of fun s Q E hs k => Call_ (hf.wp hs fun fv h₀ t₀ k₀ r₀ => by
    subst r₀
    rw [hs₁]
    refine PySem.callWith_type rfl (evalArgs_plain (spliced_cons (h₁.wp (hs.trans k₀) fun v h₁ t₁ k₁ r₁ => spliced_nil ?_)))
    obtain ⟨u, rfl⟩ := r₁
    refine call_range_1 (k _ _ _ (fun b o e => Heap.get?_push_of_some _ (k₁ _ _ (k₀ _ _ e))) ⟨_, _, _, _, rfl, ?_, IsRange.new ..⟩)
    cases e : s.heap.get? h₁.objs.size with
    | none => rfl
    | some o => exact absurd (Heap.lt_size (k₁ _ _ (k₀ _ _ e))) (Nat.lt_irrefl _)) he
theorem ev_range2 {func a₁ a₂ : Expr} {pos : Pos} {a b : Int} (hf : Ev prog w A h (eval func env) (· = .type "range")) (h₁ : Ev prog w A h (eval a₁ env) (isI a)) (h₂ : Ev prog w A h (eval a₂ env) (isI b))
    (hs₁ : starEach [a₁, a₂] env = [(false, eval a₁ env), (false, eval a₂ env)]) (he : eval (.Call func [a₁, a₂] [] pos) env = (do callWith pos (← eval func env) [] (backTo pos (starEach [a₁, a₂] env)) (backToKw pos (keywordEach [] env)))) :
    EvR prog w A h (eval (.Call func [a₁, a₂] [] pos) env) (fun h₁ v h₂ => ∃ r t₁ u₁ v₁, v = .ref r ∧ h₁.get? r = none ∧ IsRange h₂ r a b 1 t₁ u₁ v₁) :=
  EvR.of fun s Q E hs k => Call_ (hf.wp hs fun fv h₀ t₀ k₀ r₀ => by
    subst r₀
    rw [hs₁]
    refine PySem.callWith_type rfl (evalArgs_plain (spliced_cons (h₁.wp (hs.trans k₀) fun v h₁ t₁ k₁ r₁ => spliced_cons (h₂.wp (hs.trans (k₀.trans k₁)) fun v₂ h₂ t₂ k₂ r₂ => spliced_nil ?_))))
    obtain ⟨u, rfl⟩ := r₁
    obtain ⟨u₂, rfl⟩ := r₂
    refine call_range_2 (k _ _ _ (fun b o e => Heap.get?_push_of_some _ (k₂ _ _ (k₁ _ _ (k₀ _ _ e)))) ⟨_, _, _, _, rfl, ?_, IsRange.new ..⟩)
    cases e : s.heap.get? h₂.objs.size with
    | none => rfl
    | some o => exact absurd (Heap.lt_size (k₂ _ _ (k₁ _ _ (k₀ _ _ e)))) (Nat.lt_irrefl _)) he

/-- the tests of a comprehension -/
abbrev tests (ifs : List Expr) (env : Env) : Sem Bool := forIn ifs true fun c r => if r = true then do let ok ← isTrue c env (eval c env); pure (ForInStep.yield ok) else pure (ForInStep.yield r)
theorem ev_tests0 : Ev prog w A h (tests [] env) (· = true) := EvR.of fun s _ _ _ k => wpAny_tests_nil (k _ s.heap s.toks (Sub.refl _) rfl)
theorem ev_tests1 {c : Expr} {b : Bool} (x : Ev prog w A h (isTrue c env (eval c env)) (· = b)) : Ev prog w A h (tests [c] env) (· = b) :=
  EvR.of fun s _ _ hs k => wpAny_tests_one (x.wp hs fun v h' tk hk r => k v h' tk hk r)

/-- a list comprehension: its tests and its element are quiet -/
theorem ev_comp {elt iter : Expr} {x : Str} {px : Pos} {ifs : List Expr} {scope : Scope} {pos : Pos} {cl : List (Str × Addr)} {n : Nat} {P : Nat → Value → Prop} {old : List Addr} (p : Value → Bool) (F : Value → Value → Prop)
    (hit : EvIt prog w A h (eval iter env) n P old)
    (htest : ∀ C i v h' m, Sub h h' → i < n → P i v → h'.Ns C m → m x = some v → Ev prog w A h' (tests ifs (compEnvC scope cl C env)) (· = p v))
    (helt : ∀ C i v h' m, Sub h h' → i < n → P i v → p v = true → h'.Ns C m → m x = some v → Ev prog w A h' (eval elt (compEnvC scope cl C env)) (F v))
    (hclos : closureFor scope env = pure cl) (hcell : ∀ y ∈ scope.names, y.2 ≠ .cell) (hkind : scope.kind = .function)
    (hnames : ∀ y ∈ scope.names, y.2 = .local → scope.names.lookup y.1 = some .local) (hx : scope.names.lookup x = some .local) (hs : ∀ x, foldedSetIterable iter env x = pure x) (hsz : n ≤ sizeLine) :
    EvR prog w A h (eval (.ListComp elt [⟨.Name x px, iter, ifs, 0⟩] scope pos) env) (fun h₁ v h₂ => ∃ (D : Addr) (ys : Array Value) (vs : List Value), v = .ref D ∧ h₁.get? D = none ∧ h₂.PlainList D ys ∧ vs.length = n ∧ (∀ j u, vs[j]? = some u → P j u) ∧ Paired F (vs.filter p) ys.toList) :=
  EvR.of fun s Q E hsub k => by
    refine wpAny_ListComp_free p F hclos hcell hkind hnames hx (hit s _ E hsub fun I h₁ t₁ T k₁ hI hIo hfp W hT hl => ?_) hs
    refine ⟨I, I :: old, [I], n, _, T, rfl, W.bound, hsz, hT, hfp, ⟨fun C i v s₃ m₃ E' hC hP hn hm hk _ => ?_, fun C i v s₃ m₃ E' hC hP hp hn hm hk _ => ?_⟩, fun D h' tk ys vs hD hl' hpl hlen hPs hF hk => ?_⟩
    · exact htest C i v s₃.heap m₃ (fun b o e => hk b o (by intro hb; rw [List.mem_singleton] at hb; subst hb; have := hsub _ _ e; rw [hI] at this; cases this) (k₁ _ _ (hsub _ _ e))) hP.1 hP.2 hn hm s₃ E' (Sub.refl _)
    · exact helt C i v s₃.heap m₃ (fun b o e => hk b o (by intro hb; rw [List.mem_singleton] at hb; subst hb; have := hsub _ _ e; rw [hI] at this; cases this) (k₁ _ _ (hsub _ _ e))) hP.1 hP.2 hp hn hm s₃ E' (Sub.refl _)
    · refine k (.ref D) h' tk (fun b o e => hk b o (by intro hb; rw [List.mem_singleton] at hb; subst hb; rw [hI] at e; cases e) (k₁ _ _ e)) ⟨D, ys, vs, rfl, ?_, hpl, hlen, fun j u hj => (hPs j u hj).2, hF⟩
      cases e : s.heap.get? D with
      | none => rfl
      | some o => have := k₁ _ _ e; rw [hD] at this; cases this
end

section
variable {prog : Program} {w : World} {A : Around} {E : Value → Shared → Prop} {X : List Addr} {s₀ s : Shared} {m : Map} {os : OS} {env : Env}
theorem ex_for {target iter : Expr} {body : List Stmt} {pos : Pos} {n : Nat} {P : Nat → Value → Prop} {old : List Addr} {Q : Flow → Shared → Prop} (J : Nat → Map → OS → Prop)
    (hst : St X s₀ env.locals m os s) (hit : EvIt prog w A s.heap (eval iter env) n P old) (hX : ∀ I, s.heap.get? I = none → I ∉ X)
    (hold : ∀ b ∈ old, ∃ o, ∀ i m' os' s', J i m' os' → St X s₀ env.locals m' os' s' → s'.heap.get? b = some o) (h0 : J 0 m os)
    (turn : ∀ i v m' os' s' I p (Q' : Shared → Prop) (E' : Value → Shared → Prop), i < n → P i v → J i m' os' → St X s₀ env.locals m' ((I, p) :: os') s' →
      (∀ m'' os'' s'', J (i + 1) m'' os'' → St X s₀ env.locals m'' ((I, p) :: os'') s'' → Q' s'') →
      wpAny (model prog w) A (assign target env v) (fun _ s₂ => wpAny (model prog w) A (execs body env) (fun f s₃ => f = .next ∧ Q' s₃) E' s₂) E' s')
    (done : ∀ m' os' s', J n m' os' → St X s₀ env.locals m' os' s' → Q .next s')
    (hs : ∀ x, foldedSetIterable iter env x = pure x) (ht : ∀ it v, letOwnedTupleGo target it v = pure ()) :
    wpAny (model prog w) A (exec (.For target iter body [] pos) env) Q E s := by
  refine wpAny_For (hit s _ E (Sub.refl _) fun I h₁ t₁ T k₁ hI hIo hfp W hT hl => ?_) hs
  obtain ⟨oI, hoI, _⟩ := hl 0 h₁ hT
  refine codeAny_forLoop (fun k s' => ∃ i m' os' oI, k = n + 1 - i ∧ i ≤ n ∧ J i m' os' ∧ St X s₀ env.locals m' ((I, (· = oI)) :: os') s' ∧ T i s'.heap) ?_ (n + 1)
    ⟨0, m, os, oI, rfl, Nat.zero_le _, h0, hst.push k₁ hI hoI rfl (hX I hI), hT⟩ (ht _)
  rintro k s' ⟨i, m', os', oI, rfl, hi, hJ, st, hTi⟩
  by_cases hlt : i < n
  · refine W.item i s' _ _ hlt hTi fun v h₂ t₂ hP hT₂ hk₂ => ?_
    obtain ⟨oI', hoI', _⟩ := hl _ _ hT₂
    have ext : Heap.ExtBut I s'.heap h₂ := fun b o hb e => hk₂ b o (by intro q; exact hb (List.mem_singleton.mp q)) e
    have st₂ : St X s₀ env.locals m' ((I, (· = oI')) :: os') { s' with heap := h₂, toks := t₂ } := St.setAt (pre := []) st ext hoI' rfl
    refine wpAny_mono (turn i v m' os' _ I _ (fun s₃ => ∃ m, m < n + 1 - i ∧ ∃ i m' os' oI, m = n + 1 - i ∧ i ≤ n ∧ J i m' os' ∧ St X s₀ env.locals m' ((I, (· = oI)) :: os') s₃ ∧ T i s₃.heap) _ hlt hP hJ st₂ fun m'' os'' s'' hJ'' st'' => ?_)
      (fun _ s₂ hb => wpAny_mono hb (fun f s₃ hf => by obtain ⟨rfl, hf⟩ := hf; exact hf) fun _ _ e => e) fun _ _ e => e
    refine ⟨n + 1 - (i + 1), by omega, i + 1, m'', os'', oI', rfl, hlt, hJ'', st'', W.frame _ _ _ hT₂ fun b hb o e => ?_⟩
    rcases List.mem_cons.mp hb with rfl | hb
    · obtain ⟨o', e', rfl⟩ := st''.mem _ (List.mem_cons_self ..)
      rw [hoI'] at e; cases e
      exact e'
    · obtain ⟨ob, hob⟩ := hold b hb
      have e1 := hob i m' os' _ hJ (St.drop (pre := []) st₂)
      have e2 := hob (i + 1) m'' os'' _ hJ'' (St.drop (pre := []) st'')
      have e1' : h₂.get? b = some ob := e1
      rw [e1'] at e; cases e
      exact e2
  · have hin : i = n := by omega
    subst hin
    refine W.done s' _ _ hTi fun h₂ t₂ hk₂ => ?_
    have ext : Heap.ExtBut I s'.heap h₂ := fun b o hb e => hk₂ b o (by intro q; exact hb (List.mem_singleton.mp q)) e
    exact wpAny_execs_nil (done m' os' _ hJ (st.lose ext))
end
end Mine
end

/-! part M5 -/
section
open PySem PySem.W PyProof.Rows PySem.Calls
set_option linter.unusedVariables false
set_option Elab.async false
set_option maxRecDepth 100000
namespace Mine
section
variable {prog : Program} {w : World} {A : Around} {h : Heap}
theorem St.ofCall {s s₁ : Shared} {L : Addr} {m cm : Map} {cs : List (Str × Addr)} (x : InCallC s L m cs cm s₁) (hn : ∀ q ∈ cs, cs.lookup q.1 = some q.2) : St [] s L m (cs.map fun q => (q.2, CObj (cm q.1))) s₁ := by
  refine ⟨x.toInCall.same, x.toInCall.ns, fun b o _ e => x.toInCall.keep b o e, none_of_size x.toInCall.fresh, fun p hp => ?_, fun p hp => ?_, ?_⟩
  · obtain ⟨q, hq, rfl⟩ := List.mem_map.mp hp
    obtain ⟨o, e, hd⟩ := x.cell q.1 q.2 (hn q hq)
    exact ⟨o, e, hd⟩
  · obtain ⟨q, hq, rfl⟩ := List.mem_map.mp hp
    have := x.above q.1 q.2 hq
    have hf := x.toInCall.fresh
    exact ⟨Nat.ne_of_gt this, .inl (none_of_size (Nat.le_trans hf (Nat.le_of_lt this)))⟩
  · rw [List.map_map]
    exact List.pairwise_map.mpr x.apart
/-- how a body ends: with a value, all that stood before still standing -/
def Ret (R : Heap → Value → Heap → Prop) (s : Shared) (f : Flow) (s' : Shared) : Prop := ∃ v, f = .ret v ∧ R s.heap v s'.heap ∧ Keeps s s'
theorem Ret.of {R : Heap → Value → Heap → Prop} {s s' : Shared} {L : Addr} {m : Map} {os : OS} {v : Value} (x : St [] s L m os s') (r : R s.heap v s'.heap) : Ret R s (.ret v) s' :=
  ⟨v, rfl, r, let ⟨h, tk, e⟩ := x.same; ⟨h, tk, e, by have := x.sub; rw [e] at this; exact this⟩⟩
theorem call_fn {n : Nat} {a : Addr} {o : Obj} {fd : FuncData} {body : List Stmt} {vals : List Value} {binds : List (Str × Value)} {R : Heap → Value → Heap → Prop} (hA : OkA (n + 1) A) (S : Std w h)
    (ho : h.get? a = some o) (hd : o.data = .func fd) (hcd : h.CodeRec fd.code fd.qualname) (hbody : fd.body = .stmts body) (hbind : bindArgs fd ⟨vals, []⟩ = pure binds) (hclo : fd.closure = [])
    (hkind : ∀ L, ∀ x ∈ binds, fd.scope.names.lookup x.1 = some .local ∨ (fd.scope.names.lookup x.1 = some .cell ∧ ((cellsFrom (L + 1) fd.scope.names []).lookup x.1).isSome = true))
    (hn : ∀ L, ∀ q ∈ cellsFrom (L + 1) fd.scope.names [], (cellsFrom (L + 1) fd.scope.names []).lookup q.1 = some q.2)
    (hb : ∀ (s s₁ : Shared) (L : Addr) (E : Value → Shared → Prop), Sub h s.heap →
      St [] s L (bindL (callEnvC fd L a).kindOf binds fun _ => none) ((cellsFrom (L + 1) fd.scope.names []).map fun q => (q.2, CObj (bindC (callEnvC fd L a).kindOf binds (fun _ => none) q.1))) s₁ →
      wpAny (model prog w) (A.deeper (callEnvC fd L a)) (execs body (callEnvC fd L a)) (Ret R s) E s₁)
    (hco : fd.scope.isCoroutine = false) (hgen : fd.scope.isGenerator = false) (hk : fd.scope.kind = .function) :
    EvR prog w A h (call (.ref a) vals) R :=
  EvR.of fun s Q E hs k => by
    refine wpAny_call (codeAny_call_cells hA.depth (hs _ _ ho) hd (S.nl.keeps hs) (hcd.keeps hs) hbody hbind hclo (hkind _) (fun s₁ x => ?_) hco hgen hk)
    refine wpAny_mono (hb s s₁ _ (fun _ _ => False) hs (St.ofCall x (hn _))) (fun f s' r => ?_) fun _ _ e => e.elim
    obtain ⟨v, rfl, r, h', tk, rfl, hk'⟩ := r
    exact k v h' tk hk' r
theorem Std.fn (S : Std w h) {a : Addr} {d : Data} (e : ((hd.heap_39 w.params).lookup a).map (·.data) = some d) : ∃ o, h.get? a = some o ∧ o.data = d := by
  cases q : (hd.heap_39 w.params).lookup a with
  | none => rw [q] at e; cases e
  | some o => rw [q] at e; exact ⟨o, S.K a o q, Option.some.inj e⟩
theorem Std.code (S : Std w h) {c : Addr} {vs : Array Value} {q : Str} {t : Tok} (e : ((hd.heap_39 w.params).lookup c).map (·.data) = some (.fields vs)) (hq : vs[1]? = some (.str q t)) : h.CodeRec (.ref c) q := by
  obtain ⟨o, ho, hd⟩ := S.fn e
  exact ⟨c, o, vs, t, rfl, ho, hd, hq⟩
end

/-! eq -/
def fdEq : { fd : FuncData // ∀ P, ((hd.heap_39 P).lookup 35).map (·.data) = some (.func fd) } := ⟨_, fun P => rfl⟩
theorem c_eq {prog : Program} {w : World} {A : Around} {h : Heap} {n : Nat} {x y : Value} {p q : Str} (hA : OkA (n + 1) A) (S : Std w h) (hx : isS p x) (hy : isS q y) : Ev prog w A h (call (.ref 35) [x, y]) (isB (p == q)) := by
  obtain ⟨o, ho, hd⟩ := S.fn (fdEq.2 _)
  refine call_fn hA S ho hd (S.code (c := 34) rfl rfl) (body := _) rfl (binds := [("a", x), ("b", y)]) rfl rfl (fun L => ?_) (fun L => ?_) (fun s s₁ L E hs st => ?_) rfl rfl rfl
  · intro z hz; simp at hz; rcases hz with rfl | rfl <;> exact .inl rfl
  · intro z hz; exact nomatch hz
  · refine wpAny_execs_cons (wpAny_Return_some ((ev_cmp (R := isB (p == q)) (ev_local st.ns (v := x) rfl rfl rfl rfl) (ev_local st.ns (v := y) rfl rfl rfl rfl) (fun a b ra rb => by subst ra; subst rb; exact ev_eqs hx hy) rfl).wp (Sub.refl _) fun v h' tk hk r => ?_))
    exact Ret.of (st.quiet hk) r
end Mine
end

/-! part P1 -/
section
open PySem PySem.W PyProof.Rows PySem.Calls PySem.Builtin PySem.Builtin.Str
set_option linter.unusedVariables false
set_option Elab.async false
set_option maxRecDepth 100000
namespace Mine
/-! texts as lists of signs -/
def T (l : List Nat) : PySem.Str := ⟨l.toArray⟩
theorem T_cps (l : List Nat) : (T l).cps.toList = l := rfl
theorem T_len (l : List Nat) : (T l).length = l.length := by simp [T, PySem.Str.length]
theorem T_append (a b : List Nat) : T a ++ T b = T (a ++ b) := by
  show PySem.Str.mk (a.toArray ++ b.toArray) = PySem.Str.mk (a ++ b).toArray
  simp
theorem T_inj {a b : List Nat} : T a = T b ↔ a = b := ⟨fun h => by have := congrArg (fun s => s.cps.toList) h; simpa [T] using this, fun h => by rw [h]⟩
theorem T_beq (a b : List Nat) : (T a == T b) = (a == b) := by
  rw [Bool.eq_iff_iff, beq_iff_eq, beq_iff_eq]; exact T_inj
theorem T_bne (a b : List Nat) : (T a != T b) = (a != b) := by unfold bne; rw [T_beq]
theorem slice_ix (l : List Nat) (lo hi : Option Int) (a b : Nat) (hab : a ≤ b) (hb : b ≤ l.length)
    (e : strSliceIndices lo hi 1 l.length = strSliceIndices (some (a : Int)) (some (b : Int)) 1 l.length) : Txt.slice (T l) lo hi = T ((l.drop a).take (b - a)) := by
  unfold Txt.slice
  rw [T_len, e]
  have h1 := StrLaws.sliced_plain (T l) hab (by rw [T_len]; exact hb)
  rw [T_len, T_cps] at h1
  split
  · rename_i hc
    rw [StrLaws.strSliceIndices_plain hab hb] at hc
    simp at hc
    have ha : a = 0 := by omega
    have hbl : b = l.length := by omega
    subst ha hbl
    simp
  · rw [h1]; rfl
theorem T_to (l : List Nat) (j : Nat) : Txt.slice (T l) none (some (j : Int)) = T (l.take j) := by
  have := slice_ix l none (some (j : Int)) 0 (min j l.length) (Nat.zero_le _) (Nat.min_le_right ..) (by
    simp only [strSliceIndices, show ((1 : Int) > 0) = True from by simp, if_true]
    congr 1
    split <;> split <;> omega)
  rw [this]
  rw [List.drop_zero, Nat.sub_zero]
  congr 1
  rw [List.take_eq_take_iff]; omega
theorem T_from (l : List Nat) (i : Nat) (hi : i ≤ l.length) : Txt.slice (T l) (some (i : Int)) none = T (l.drop i) := by
  have := slice_ix l (some (i : Int)) none i l.length hi (Nat.le_refl _) (by
    simp only [strSliceIndices, show ((1 : Int) > 0) = True from by simp, if_true]
    congr 1
    split <;> omega)
  rw [this]
  congr 1
  rw [List.take_of_length_le]; simp
theorem T_last (l : List Nat) (i : Nat) (hi : 0 < i) : Txt.slice (T l) (some (-(i : Int))) none = T (l.drop (l.length - i)) := by
  have := slice_ix l (some (-(i : Int))) none (l.length - i) l.length (Nat.sub_le ..) (Nat.le_refl _) (by
    simp only [strSliceIndices, show ((1 : Int) > 0) = True from by simp, if_true]
    congr 1
    · split <;> split <;> omega
    · split <;> omega)
  rw [this]
  congr 1
  rw [List.take_of_length_le]; simp
/-- b is found within a -/
def within (a b : List Nat) : Bool := (List.range (a.length + 1)).any fun i => (a.drop i).take b.length == b
theorem T_in (a b : List Nat) : (!(occurrences (T a) (T b) 0 (T a).length 1).isEmpty) = within a b := by
  rw [Bool.eq_iff_iff, StrLaws.found_iff]
  unfold within
  rw [List.any_eq_true]
  simp only [T_len, List.mem_range, beq_iff_eq]
  constructor
  · rintro ⟨i, hi, h⟩
    refine ⟨i, by omega, ?_⟩
    rw [StrLaws.subAt_eq, T_cps, T_cps, T_len] at h
    exact beq_iff_eq.mp h
  · rintro ⟨i, hi, h⟩
    have hl : ((a.drop i).take b.length).length = b.length := by rw [h]
    rw [List.length_take, List.length_drop] at hl
    by_cases hb : b.length = 0
    · refine ⟨0, by omega, ?_⟩
      rw [StrLaws.subAt_eq, T_cps, T_cps, T_len, hb]
      have : b = [] := List.length_eq_zero_iff.mp hb
      subst this; simp
    · refine ⟨i, by omega, ?_⟩
      rw [StrLaws.subAt_eq, T_cps, T_cps, T_len]
      exact beq_iff_eq.mpr h
end Mine
end

/-! part M6 -/
section
open PySem PySem.W PyProof.Rows PySem.Calls
set_option linter.unusedVariables false
set_option Elab.async false
set_option maxRecDepth 100000
namespace Mine
/-- a value that is this text -/
def isT (l : List Nat) (v : Value) : Prop := isS (T l) v
section
variable {prog : Program} {w : World} {A : Around} {h : Heap} {env : Env} {R R₁ R₂ : Value → Prop}
theorem ev_item {value slice : Expr} {pos : Pos} {l : Addr} {items : Array Value} {k : Int} {x : Value} (hv : Ev prog w A h (eval value env) (· = .ref l)) (hl : h.IsList l items) (hi : Ev prog w A h (eval slice env) (isI k))
    (h0 : 0 ≤ k) (hk : k < 2 ^ 63) (hx : items[k.toNat]? = some x) (hs : ∀ t, ∃ ops, subscripted slice false (.ref l) (.int k t) = operate ops (getItem (.ref l) (.int k t))) :
    Ev prog w A h (eval (.Subscript value slice pos) env) (· = x) :=
  EvR.of fun s Q E hsub q => Subscript_ (hv.wp hsub fun v h₁ t₁ k₁ r₁ => hi.wp (hsub.trans k₁) fun u h₂ t₂ k₂ r₂ => by
    subst r₁
    obtain ⟨t, rfl⟩ := r₂
    obtain ⟨ops, hs⟩ := hs t
    have hl₂ : h₂.IsList l items := hl.at fun o e => k₂ _ _ (k₁ _ _ (hsub _ _ e))
    exact tail_any (Heap.IsList.typeIs (s := { s with heap := h₂, toks := t₂ }) hl₂) slot_list_getitem.lookup (wpAny_getItem_list hl₂ h0 hk hx (q _ h₂ t₂ (k₁.trans k₂) rfl)) hs)
theorem keptSub {h : Heap} : KeptH (Sub h) := fun h' ob k => fun b o e => Heap.get?_push_of_some _ (k b o e)
theorem ev_slice_to {value u : Expr} {p pos : Pos} {x : Str} {j : Int} (hv : Ev prog w A h (eval value env) (isS x)) (hu : Ev prog w A h (eval u env) (isI j)) (hz : x.length ≤ sizeLine)
    (hs : ∀ t a, ∃ ops, subscripted (.Slice none (some u) none p) false (.str x t) (.ref a) = operate ops (getItem (.str x t) (.ref a))) (ht : ∀ t r, letTemporaryGo value (.str x t) r = pure ()) :
    Ev prog w A h (eval (.Subscript value (.Slice none (some u) none p) pos) env) (isS (Txt.slice x none (some j))) :=
  EvR.of fun s Q E hsub q => Subscript_ (hv.wp hsub fun v h₁ t₁ k₁ r₁ => wpAny_Slice (wpAny_of_eq (evalPart_none env) (by
    rw [evalPart_some]
    refine hu.wp (hsub.trans k₁) fun v₂ h₂ t₂ k₂ r₂ => wpAny_of_eq (evalPart_none env) ?_
    obtain ⟨t, rfl⟩ := r₁
    obtain ⟨t', rfl⟩ := r₂
    obtain ⟨ops, hs⟩ := hs t h₂.objs.size
    exact tail_of_ItemOn (SBH.sliceItem_ns (s := { s with heap := h₂, toks := t₂ }) (P := Sub h₂) keptSub (Sub.refl _) (fun h' t' k' hp => q _ h' k' (k₁.trans (k₂.trans hp)) ⟨_, rfl⟩) hz) hs (ht t))))
theorem ev_slice_from {value l : Expr} {p pos : Pos} {x : Str} {i : Int} (hv : Ev prog w A h (eval value env) (isS x)) (hl : Ev prog w A h (eval l env) (isI i)) (hz : x.length ≤ sizeLine)
    (hs : ∀ t a, ∃ ops, subscripted (.Slice (some l) none none p) false (.str x t) (.ref a) = operate ops (getItem (.str x t) (.ref a))) (ht : ∀ t r, letTemporaryGo value (.str x t) r = pure ()) :
    Ev prog w A h (eval (.Subscript value (.Slice (some l) none none p) pos) env) (isS (Txt.slice x (some i) none)) :=
  EvR.of fun s Q E hsub q => Subscript_ (hv.wp hsub fun v h₁ t₁ k₁ r₁ => wpAny_Slice (by
    rw [evalPart_some]
    refine hl.wp (hsub.trans k₁) fun v₂ h₂ t₂ k₂ r₂ => wpAny_of_eq (evalPart_none env) (wpAny_of_eq (evalPart_none env) ?_)
    obtain ⟨t, rfl⟩ := r₁
    obtain ⟨t', rfl⟩ := r₂
    obtain ⟨ops, hs⟩ := hs t h₂.objs.size
    exact tail_of_ItemOn (SBH.sliceItem_sn (s := { s with heap := h₂, toks := t₂ }) (P := Sub h₂) keptSub (Sub.refl _) (fun h' t' k' hp => q _ h' k' (k₁.trans (k₂.trans hp)) ⟨_, rfl⟩) hz) hs (ht t)))
theorem ev_item_str {value slice : Expr} {pos : Pos} {x : Str} {k : Int} (hv : Ev prog w A h (eval value env) (isS x)) (hi : Ev prog w A h (eval slice env) (isI k))
    (hr : fitsSsize k = true) (h1 : -(x.length : Int) ≤ k) (h2 : k < x.length)
    (hs : ∀ t u, ∃ ops, subscripted slice false (.str x t) (.int k u) = operate ops (getItem (.str x t) (.int k u))) (ht : ∀ t r, letTemporaryGo value (.str x t) r = pure ()) :
    Ev prog w A h (eval (.Subscript value slice pos) env) (isS (Txt.item x k)) :=
  EvR.of fun s Q E hsub q => Subscript_ (hv.wp hsub fun v h₁ t₁ k₁ r₁ => hi.wp (hsub.trans k₁) fun u h₂ t₂ k₂ r₂ => by
    obtain ⟨t, rfl⟩ := r₁
    obtain ⟨t', rfl⟩ := r₂
    obtain ⟨ops, hs⟩ := hs t t'
    exact tail_of_ItemOn (SB.item hr (charAt_isSome h1 h2) (q _ h₂ _ (k₁.trans k₂) ⟨_, rfl⟩)) hs (ht t))
end

section
variable {prog : Program} {w : World} {A : Around} {h : Heap} {n : Nat} {x y : Value} {p q : List Nat} {a b : Int}
def fdSub : { fd : FuncData // ∀ P, ((hd.heap_39 P).lookup 49).map (·.data) = some (.func fd) } := ⟨_, fun P => rfl⟩
theorem c_sub (hA : OkA (n + 1) A) (S : Std w h) (hx : isI a x) (hy : isI b y) : Ev prog w A h (call (.ref 49) [x, y]) (isI (a - b)) := by
  obtain ⟨o, ho, hd⟩ := S.fn (fdSub.2 _)
  refine call_fn hA S ho hd (S.code (c := 48) rfl rfl) (body := _) rfl (binds := [("a", x), ("b", y)]) rfl rfl (fun L => ?_) (fun L => ?_) (fun s s₁ L E hs st => ?_) rfl rfl rfl
  · intro z hz; simp at hz; rcases hz with rfl | rfl <;> exact .inl rfl
  · intro z hz; exact nomatch hz
  · refine wpAny_execs_cons (wpAny_Return_some ((ev_binop (R := isI (a - b)) (ev_local st.ns (v := x) rfl rfl rfl rfl) (ev_local st.ns (v := y) rfl rfl rfl rfl) (fun a b ra rb => by subst ra; subst rb; exact ev_sub hx hy)).wp (Sub.refl _) fun v h' tk hk r => ?_))
    exact Ret.of (st.quiet hk) r
def fdMul : { fd : FuncData // ∀ P, ((hd.heap_39 P).lookup 42).map (·.data) = some (.func fd) } := ⟨_, fun P => rfl⟩
theorem c_mul (hA : OkA (n + 1) A) (S : Std w h) (hm : IntMulOk a b) (hx : isI a x) (hy : isI b y) : Ev prog w A h (call (.ref 42) [x, y]) (isI (a * b)) := by
  obtain ⟨o, ho, hd⟩ := S.fn (fdMul.2 _)
  refine call_fn hA S ho hd (S.code (c := 41) rfl rfl) (body := _) rfl (binds := [("a", x), ("b", y)]) rfl rfl (fun L => ?_) (fun L => ?_) (fun s s₁ L E hs st => ?_) rfl rfl rfl
  · intro z hz; simp at hz; rcases hz with rfl | rfl <;> exact .inl rfl
  · intro z hz; exact nomatch hz
  · refine wpAny_execs_cons (wpAny_Return_some ((ev_binop (R := isI (a * b)) (ev_local st.ns (v := x) rfl rfl rfl rfl) (ev_local st.ns (v := y) rfl rfl rfl rfl) (fun a b ra rb => by subst ra; subst rb; exact ev_mul hm hx hy)).wp (Sub.refl _) fun v h' tk hk r => ?_))
    exact Ret.of (st.quiet hk) r
theorem c_eqT (hA : OkA (n + 1) A) (S : Std w h) (hx : isT p x) (hy : isT q y) : Ev prog w A h (call (.ref 35) [x, y]) (isB (p == q)) := by
  have := c_eq (prog := prog) hA S hx hy
  rw [T_beq] at this; exact this
def fdContains : { fd : FuncData // ∀ P, ((hd.heap_39 P).lookup 63).map (·.data) = some (.func fd) } := ⟨_, fun P => rfl⟩
theorem c_contains (hA : OkA (n + 1) A) (S : Std w h) (hx : isT p x) (hy : isT q y) : Ev prog w A h (call (.ref 63) [x, y]) (isB (within p q)) := by
  obtain ⟨o, ho, hd⟩ := S.fn (fdContains.2 _)
  refine call_fn hA S ho hd (S.code (c := 62) rfl rfl) (body := _) rfl (binds := [("a", x), ("b", y)]) rfl rfl (fun L => ?_) (fun L => ?_) (fun s s₁ L E hs st => ?_) rfl rfl rfl
  · intro z hz; simp at hz; rcases hz with rfl | rfl <;> exact .inl rfl
  · intro z hz; exact nomatch hz
  · refine wpAny_execs_cons (wpAny_Return_some ((ev_cmp (R := isB (within p q)) (ev_local st.ns (v := y) rfl rfl rfl rfl) (ev_local st.ns (v := x) rfl rfl rfl rfl) (fun a b ra rb => by subst ra; subst rb; rw [← T_in]; exact ev_ins hx hy) rfl).wp (Sub.refl _) fun v h' tk hk r => ?_))
    exact Ret.of (st.quiet hk) r
def fdConcat : { fd : FuncData // ∀ P, ((hd.heap_39 P).lookup 56).map (·.data) = some (.func fd) } := ⟨_, fun P => rfl⟩
theorem c_concat (hA : OkA (n + 1) A) (S : Std w h) (hz : p.length + q.length ≤ sizeLine) (hx : isT p x) (hy : isT q y) : Ev prog w A h (call (.ref 56) [x, y]) (isT (p ++ q)) := by
  obtain ⟨o, ho, hd⟩ := S.fn (fdConcat.2 _)
  refine call_fn hA S ho hd (S.code (c := 55) rfl rfl) (body := _) rfl (binds := [("a", x), ("b", y)]) rfl rfl (fun L => ?_) (fun L => ?_) (fun s s₁ L E hs st => ?_) rfl rfl rfl
  · intro z hz; simp at hz; rcases hz with rfl | rfl <;> exact .inl rfl
  · intro z hz; exact nomatch hz
  · have S₁ : Std w s₁.heap := S.sub (hs.trans st.sub)
    refine wpAny_execs_cons (wpAny_If (EvR.wp (h := s₁.heap) (R := fun _ b _ => b = !true) (ev_true_not (ev_true_val (ev_callb2 (ev_builtin S₁ rfl boot_hasattr (by decide) rfl rfl rfl rfl rfl) (ev_local st.ns (v := x) rfl rfl rfl rfl) ev_const_str
      (fun v u rv ru => by subst rv; exact ev_hasattr hx ru) (fun _ _ _ _ _ r => r) rfl rfl) rfl)) (Sub.refl _) fun v h' tk hk r => ?_))
    subst r
    simp only [Bool.not_true, Bool.false_eq_true, if_false]
    have st' := st.quiet (tk := tk) hk
    refine wpAny_execs_nil (wpAny_execs_cons (wpAny_Return_some ((ev_binop (R := isT (p ++ q)) (ev_local st'.ns (v := x) rfl rfl rfl rfl) (ev_local st'.ns (v := y) rfl rfl rfl rfl) (fun a b ra rb => by
      subst ra; subst rb; unfold isT; rw [← T_append]; exact ev_cat (by rw [T_len, T_len]; exact hz) hx hy)).wp (Sub.refl _) fun v h' tk hk r => ?_)))
    exact Ret.of (st'.quiet hk) r
end
end Mine
end

/-! part M7 -/
section
open PySem PySem.W PyProof.Rows PySem.Calls
set_option linter.unusedVariables false
set_option Elab.async false
set_option maxRecDepth 100000
namespace Mine
/-! the rules at the expression's level -/
section
variable {prog : Program} {w : World} {A : Around} {h : Heap} {env : Env} {R R₁ R₂ : Value → Prop} {m : Map} {l r e e₁ e₂ : Expr} {pos np : Pos} {a b c : Int} {p q : List Nat} {x : Str} {v : Value}
theorem xLoc (hn : h.Ns env.locals m) (r : R v) (hv : m x = some v := by rfl) (hk : env.scope.kind = .function := by rfl) (hl : env.kindOf x = some .local := by rfl) (hd : (x == ("__debug__" : Str)) = false := by rfl) :
    Ev prog w A h (eval (.Name x pos) env) R := (ev_local hn hv hk hl hd).mono fun _ u _ _ _ q => by subst q; exact r
theorem xCell {c : Addr} (hc : h.IsCell c (some v)) (r : R v) (he : env.cells.lookup x = some c := by rfl) (hk : env.scope.kind = .function := by rfl) (hl : env.kindOf x = some .cell := by rfl) (hd : (x == ("__debug__" : Str)) = false := by rfl) :
    Ev prog w A h (eval (.Name x pos) env) R := (ev_cell hc hk hl he hd).mono fun _ u _ _ _ q => by subst q; exact r
theorem xFree {c : Addr} (hc : h.IsCell c (some v)) (r : R v) (he : env.cells.lookup x = some c := by rfl) (hk : env.scope.kind = .function := by rfl) (hl : env.kindOf x = some .free := by rfl) (hd : (x == ("__debug__" : Str)) = false := by rfl)
    (hn : (x == ("__classdict__" : Str)) = false := by rfl) : Ev prog w A h (eval (.Name x pos) env) R := (ev_free hc hk hl he hd hn).mono fun _ u _ _ _ q => by subst q; exact r
theorem xInt {i : Int} {k : Nat} (hc : i = c := by rfl) : Ev prog w A h (eval (.Constant (.int i) k pos) env) (isI c) := hc ▸ ev_const_int
theorem xStr {k : Nat} (hp : x = T p) : Ev prog w A h (eval (.Constant (.str x) k pos) env) (isT p) := hp ▸ ev_const_str
theorem xAdd (hl : Ev prog w A h (eval l env) (isI a)) (hr : Ev prog w A h (eval r env) (isI b)) (hc : a + b = c) : Ev prog w A h (eval (.BinOp l .Add r pos) env) (isI c) := ev_binop hl hr fun _ _ ra rb => hc ▸ ev_add ra rb
theorem xSub (hl : Ev prog w A h (eval l env) (isI a)) (hr : Ev prog w A h (eval r env) (isI b)) (hc : a - b = c) : Ev prog w A h (eval (.BinOp l .Sub r pos) env) (isI c) := ev_binop hl hr fun _ _ ra rb => hc ▸ ev_sub ra rb
theorem xMul (hl : Ev prog w A h (eval l env) (isI a)) (hr : Ev prog w A h (eval r env) (isI b)) (hc : a * b = c) (hm : IntMulOk a b) : Ev prog w A h (eval (.BinOp l .Mult r pos) env) (isI c) := ev_binop hl hr fun _ _ ra rb => hc ▸ ev_mul hm ra rb
theorem xDiv (hl : Ev prog w A h (eval l env) (isI a)) (hr : Ev prog w A h (eval r env) (isI b)) (hb : 0 < b) (hb2 : b < 1073741824) (hc : a / b = c) : Ev prog w A h (eval (.BinOp l .FloorDiv r pos) env) (isI c) :=
  ev_binop hl hr fun _ _ ra rb => by
    have := ev_div (prog := prog) (w := w) (A := A) (h := h) (by omega) (by omega) ra rb
    rwa [Int.fdiv_eq_ediv_of_nonneg _ (by omega), hc] at this
theorem xMod (hl : Ev prog w A h (eval l env) (isI a)) (hr : Ev prog w A h (eval r env) (isI b)) (hb : 0 < b) (hc : a % b = c) : Ev prog w A h (eval (.BinOp l .Mod r pos) env) (isI c) :=
  ev_binop hl hr fun _ _ ra rb => by
    have := ev_mod (prog := prog) (w := w) (A := A) (h := h) (by omega) ra rb
    rwa [Int.fmod_eq_emod_of_nonneg _ (by omega), hc] at this
theorem xPow (hl : Ev prog w A h (eval l env) (isI a)) (hr : Ev prog w A h (eval r env) (isI b)) (hn : 0 ≤ b) (hsz : (Builtin.Int.intBits a : Int) * b ≤ 2 ^ 27) (hc : a ^ b.toNat = c) : Ev prog w A h (eval (.BinOp l .Pow r pos) env) (isI c) :=
  ev_binop hl hr fun _ _ ra rb => hc ▸ ev_pow hn hsz ra rb
theorem xCat (hl : Ev prog w A h (eval l env) (isT p)) (hr : Ev prog w A h (eval r env) (isT q)) (hz : p.length + q.length ≤ 10000) : Ev prog w A h (eval (.BinOp l .Add r pos) env) (isT (p ++ q)) :=
  ev_binop hl hr fun _ _ ra rb => by
    unfold isT; rw [← T_append]
    exact ev_cat (by rw [T_len, T_len, show sizeLine = 16777216 by decide]; omega) ra rb
theorem xNeg (he : Ev prog w A h (eval e env) (isI a)) : Ev prog w A h (eval (.UnaryOp .USub e pos) env) (isI (-a)) := ev_unary he fun _ r => ev_neg r
theorem xLen (S : Std w h) (he : Ev prog w A h (eval e env) (isT p)) (hz : p.length ≤ 10000) (hg : env.globals = mainGlobals := by rfl) (hb : env.builtins = builtinsNs := by rfl) (hk : env.scope.kind = .function := by rfl)
    (hx : env.kindOf "len" = some .globalImplicit := by rfl) (hs : starEach [e] env = [(false, eval e env)] := by rfl)
    (hc : eval (.Call (.Name "len" np) [e] [] pos) env = (do callWith pos (← eval (.Name "len" np) env) [] (backTo pos (starEach [e] env)) (backToKw pos (keywordEach [] env))) := by rfl) :
    Ev prog w A h (eval (.Call (.Name "len" np) [e] [] pos) env) (isI p.length) :=
  ev_callb1 (ev_builtin S rfl boot_len (by decide) hg hb hk hx rfl) he (fun v rv => by
    have := ev_lens (prog := prog) (w := w) (A := A) (h := h) (p := T p) (by rw [T_len, show sizeLine = 16777216 by decide]; omega) rv
    rwa [T_len] at this) (fun _ _ _ _ _ r => r) hs hc
theorem xMax (S : Std w h) (hA : A.handled = none) (h₁ : Ev prog w A h (eval e₁ env) (isI a)) (h₂ : Ev prog w A h (eval e₂ env) (isI b)) (hc' : max a b = c) (hg : env.globals = mainGlobals := by rfl) (hb : env.builtins = builtinsNs := by rfl) (hk : env.scope.kind = .function := by rfl)
    (hx : env.kindOf "max" = some .globalImplicit := by rfl) (hs : starEach [e₁, e₂] env = [(false, eval e₁ env), (false, eval e₂ env)] := by rfl)
    (hc : eval (.Call (.Name "max" np) [e₁, e₂] [] pos) env = (do callWith pos (← eval (.Name "max" np) env) [] (backTo pos (starEach [e₁, e₂] env)) (backToKw pos (keywordEach [] env))) := by rfl) :
    Ev prog w A h (eval (.Call (.Name "max" np) [e₁, e₂] [] pos) env) (isI c) :=
  ev_callb2 (ev_builtin S rfl boot_max (by decide) hg hb hk hx rfl) h₁ h₂ (fun v u rv ru => hc' ▸ ev_max hA rv ru) (fun _ _ _ _ _ r => r) hs hc
theorem xMin (S : Std w h) (hA : A.handled = none) (h₁ : Ev prog w A h (eval e₁ env) (isI a)) (h₂ : Ev prog w A h (eval e₂ env) (isI b)) (hc' : min a b = c) (hg : env.globals = mainGlobals := by rfl) (hb : env.builtins = builtinsNs := by rfl) (hk : env.scope.kind = .function := by rfl)
    (hx : env.kindOf "min" = some .globalImplicit := by rfl) (hs : starEach [e₁, e₂] env = [(false, eval e₁ env), (false, eval e₂ env)] := by rfl)
    (hc : eval (.Call (.Name "min" np) [e₁, e₂] [] pos) env = (do callWith pos (← eval (.Name "min" np) env) [] (backTo pos (starEach [e₁, e₂] env)) (backToKw pos (keywordEach [] env))) := by rfl) :
    Ev prog w A h (eval (.Call (.Name "min" np) [e₁, e₂] [] pos) env) (isI c) :=
  ev_callb2 (ev_builtin S rfl boot_min (by decide) hg hb hk hx rfl) h₁ h₂ (fun v u rv ru => hc' ▸ ev_min hA rv ru) (fun _ _ _ _ _ r => r) hs hc
/-- a call of one of the text's own defs, two arguments -/
theorem xCall2 {f : Addr} {fd : FuncData} {fn : Str} {R : Heap → Value → Heap → Prop} (S : Std w h) (hg : nsIn (hd.heap_39 w.params) mainGlobals fn = some (some (.ref f))) (hd : ((hd.heap_39 w.params).lookup f).map (·.data) = some (.func fd))
    (h₁ : Ev prog w A h (eval e₁ env) R₁) (h₂ : Ev prog w A h (eval e₂ env) R₂) (hc : ∀ v u, R₁ v → R₂ u → EvR prog w A h (call (.ref f) [v, u]) R) (hR : ∀ h₁ h₂ v h₃, Sub h₁ h₂ → R h₂ v h₃ → R h₁ v h₃ := by intro _ _ _ _ _ r; exact r)
    (hgl : env.globals = mainGlobals := by rfl) (hk : env.scope.kind = .function := by rfl) (hx : env.kindOf fn = some .globalImplicit := by rfl) (hdb : (fn == ("__debug__" : Str)) = false := by rfl)
    (hs : starEach [e₁, e₂] env = [(false, eval e₁ env), (false, eval e₂ env)] := by rfl)
    (he : eval (.Call (.Name fn np) [e₁, e₂] [] pos) env = (do callWith pos (← eval (.Name fn np) env) [] (backTo pos (starEach [e₁, e₂] env)) (backToKw pos (keywordEach [] env))) := by rfl) :
    EvR prog w A h (eval (.Call (.Name fn np) [e₁, e₂] [] pos) env) R := by
  obtain ⟨o, ho, hdat⟩ := S.fn hd
  exact ev_call2 (ev_glob S hg hgl hk hx hdb) ho hdat h₁ h₂ hc hR hs he
theorem xCall1 {f : Addr} {fd : FuncData} {fn : Str} {R : Heap → Value → Heap → Prop} (S : Std w h) (hg : nsIn (hd.heap_39 w.params) mainGlobals fn = some (some (.ref f))) (hd : ((hd.heap_39 w.params).lookup f).map (·.data) = some (.func fd))
    (h₁ : Ev prog w A h (eval e₁ env) R₁) (hc : ∀ v, R₁ v → EvR prog w A h (call (.ref f) [v]) R) (hR : ∀ h₁ h₂ v h₃, Sub h₁ h₂ → R h₂ v h₃ → R h₁ v h₃ := by intro _ _ _ _ _ r; exact r)
    (hgl : env.globals = mainGlobals := by rfl) (hk : env.scope.kind = .function := by rfl) (hx : env.kindOf fn = some .globalImplicit := by rfl) (hdb : (fn == ("__debug__" : Str)) = false := by rfl)
    (hs : starEach [e₁] env = [(false, eval e₁ env)] := by rfl)
    (he : eval (.Call (.Name fn np) [e₁] [] pos) env = (do callWith pos (← eval (.Name fn np) env) [] (backTo pos (starEach [e₁] env)) (backToKw pos (keywordEach [] env))) := by rfl) :
    EvR prog w A h (eval (.Call (.Name fn np) [e₁] [] pos) env) R := by
  obtain ⟨o, ho, hdat⟩ := S.fn hd
  exact ev_call1 (ev_glob S hg hgl hk hx hdb) ho hdat h₁ hc hR hs he
theorem xTo {u : Expr} {ps : Pos} {j : Nat} (hv : Ev prog w A h (eval e env) (isT p)) (hu : Ev prog w A h (eval u env) (isI (j : Int))) (hz : p.length ≤ 10000)
    (hs : ∀ t a, ∃ ops, subscripted (.Slice none (some u) none ps) false (.str (T p) t) (.ref a) = operate ops (getItem (.str (T p) t) (.ref a)) := by intro _ _; exact ⟨_, rfl⟩) (ht : ∀ t r, letTemporaryGo e (.str (T p) t) r = pure () := by intro _ _; rfl) :
    Ev prog w A h (eval (.Subscript e (.Slice none (some u) none ps) pos) env) (isT (p.take j)) := by
  have := ev_slice_to (pos := pos) hv hu (by rw [T_len, show sizeLine = 16777216 by decide]; omega) hs ht
  rwa [T_to] at this
theorem xFrom {u : Expr} {ps : Pos} {j : Nat} (hv : Ev prog w A h (eval e env) (isT p)) (hu : Ev prog w A h (eval u env) (isI (j : Int))) (hj : j ≤ p.length) (hz : p.length ≤ 10000)
    (hs : ∀ t a, ∃ ops, subscripted (.Slice (some u) none none ps) false (.str (T p) t) (.ref a) = operate ops (getItem (.str (T p) t) (.ref a)) := by intro _ _; exact ⟨_, rfl⟩) (ht : ∀ t r, letTemporaryGo e (.str (T p) t) r = pure () := by intro _ _; rfl) :
    Ev prog w A h (eval (.Subscript e (.Slice (some u) none none ps) pos) env) (isT (p.drop j)) := by
  have := ev_slice_from (pos := pos) hv hu (by rw [T_len, show sizeLine = 16777216 by decide]; omega) hs ht
  rwa [T_from _ _ hj] at this
theorem xLast {u : Expr} {ps : Pos} {j : Nat} (hv : Ev prog w A h (eval e env) (isT p)) (hu : Ev prog w A h (eval u env) (isI (-(j : Int)))) (hj : 0 < j) (hz : p.length ≤ 10000)
    (hs : ∀ t a, ∃ ops, subscripted (.Slice (some u) none none ps) false (.str (T p) t) (.ref a) = operate ops (getItem (.str (T p) t) (.ref a)) := by intro _ _; exact ⟨_, rfl⟩) (ht : ∀ t r, letTemporaryGo e (.str (T p) t) r = pure () := by intro _ _; rfl) :
    Ev prog w A h (eval (.Subscript e (.Slice (some u) none none ps) pos) env) (isT (p.drop (p.length - j))) := by
  have := ev_slice_from (pos := pos) hv hu (by rw [T_len, show sizeLine = 16777216 by decide]; omega) hs ht
  rwa [T_last _ _ hj] at this
theorem xItem {l : Addr} {items : Array Value} {k : Nat} (hv : Ev prog w A h (eval e₁ env) (· = .ref l)) (hl : h.IsList l items) (hi : Ev prog w A h (eval e₂ env) (isI (k : Int))) (hx : items[k]? = some v) (r : R v)
    (hs : ∀ t, ∃ ops, subscripted e₂ false (.ref l) (.int (k : Int) t) = operate ops (getItem (.ref l) (.int (k : Int) t)) := by intro _; exact ⟨_, rfl⟩) (hk : k < 2 ^ 62 := by omega) :
    Ev prog w A h (eval (.Subscript e₁ e₂ pos) env) R :=
  (ev_item hv hl hi (by omega) (by omega) (by simpa using hx) hs).mono fun _ u _ _ _ q => by subst q; exact r
end
section
variable {prog : Program} {w : World} {A : Around} {E : Value → Shared → Prop} {X : List Addr} {s₀ s : Shared} {m : Map} {os : OS} {env : Env}
theorem ex_assignQ {x : Str} {e : Expr} {px pos : Pos} {R : Value → Prop} {Q : Flow → Shared → Prop} (hst : St X s₀ env.locals m os s) (he : Ev prog w A s.heap (eval e env) R)
    (k : ∀ v s', R v → St X s₀ env.locals (upd m x v) os s' → Q .next s')
    (hl : env.kindOf x = some .local := by rfl) (hp : (env.scope.kind == .class || (env.scope.kind == .module && env.locals != env.globals)) = false := by rfl)
    (hs : swapsWith e (some (.Name x px)) pos.line env = pure false := by rfl) : wpAny (model prog w) A (exec (.Assign [.Name x px] e pos) env) Q E s :=
  ex_assign hst he (fun v h' tk hk r => ⟨os, hst.quiet hk, fun s' st' => k v s' r st'⟩) hl hp hs
theorem ex_ret {e : Expr} {pos : Pos} {R : Value → Prop} {Q : Flow → Shared → Prop} {L : Addr} (hst : St X s₀ L m os s) (he : Ev prog w A s.heap (eval e env) R) (k : ∀ v s', R v → St X s₀ L m os s' → Q (.ret v) s') :
    wpAny (model prog w) A (exec (.Return (some e) pos) env) Q E s :=
  wpAny_Return_some (he.wp (Sub.refl _) fun v h' tk hk r => k v _ r (hst.quiet hk))
theorem ex_if {test : Expr} {body orelse : List Stmt} {pos : Pos} {b : Bool} {Q : Flow → Shared → Prop} (hst : St X s₀ env.locals m os s) (ht : Ev prog w A s.heap (isTrue test env (eval test env)) (· = b))
    (k : ∀ s', St X s₀ env.locals m os s' → wpAny (model prog w) A (execs (if b then body else orelse) env) Q E s') : wpAny (model prog w) A (exec (.If test body orelse pos) env) Q E s :=
  wpAny_If (ht.wp (Sub.refl _) fun v h' tk hk r => by
    subst r
    have := k _ (hst.quiet (tk := tk) hk)
    cases v <;> simpa using this)
end
theorem dots : Str.ofString "..." = T [46, 46, 46] := by decide +kernel
section
variable {prog : Program} {w : World} {A : Around} {h : Heap} {n : Nat} {x y : Value} {p q : List Nat} {a b : Int}
def fdCram : { fd : FuncData // ∀ P, ((hd.heap_39 P).lookup 21).map (·.data) = some (.func fd) } := ⟨_, fun P => rfl⟩
theorem c_cram (hA : OkA (n + 1) A) (S : Std w h) (k : Nat) (hk : 2 * k + 3 < p.length) (hz : p.length ≤ 1000) (hx : isT p x) (hy : isI (2 * k + 3 : Int) y) :
    Ev prog w A h (call (.ref 21) [x, y]) (isT (p.take k ++ [46, 46, 46] ++ p.drop (p.length - k))) := by
  obtain ⟨o, ho, hd⟩ := S.fn (fdCram.2 _)
  refine call_fn hA S ho hd (S.code (c := 20) rfl rfl) (body := _) rfl (binds := [("text", x), ("maxlen", y)]) rfl rfl (fun L => ?_) (fun L => ?_) (fun s s₁ L E hs st => ?_) rfl rfl rfl
  · intro z hz; simp at hz; rcases hz with rfl | rfl <;> exact .inl rfl
  · intro z hz; exact nomatch hz
  have hA1 := (hA.deeper (callEnvC fdCram.1 L 21)).1
  have S₁ : Std w s₁.heap := S.sub (hs.trans st.sub)
  refine wpAny_execs_cons (ex_if st (ev_true_cmp (xLen S₁ (xLoc st.ns hx) (by omega)) (xLoc st.ns hy) (fun a b ra rb => ev_gti ra rb) rfl) fun s₂ st => ?_)
  rw [show decide (2 * (k : Int) + 3 < (p.length : Int)) = true by simp; omega]
  have S₂ : Std w s₂.heap := S.sub (hs.trans st.sub)
  refine wpAny_execs_cons (ex_assignQ st (xMax S₂ hA1 (c := k) xInt (xDiv (c := k) (xSub (c := 2 * k) (xLoc st.ns hy) xInt (by omega)) xInt (by decide) (by decide) (by omega)) (by omega)) fun pre s₃ rpre st => ?_)
  have S₃ : Std w s₃.heap := S.sub (hs.trans st.sub)
  refine wpAny_execs_cons (ex_assignQ st (xMax S₃ hA1 (c := k) xInt (xSub (c := k) (xSub (c := 2 * k) (xLoc st.ns hy) xInt (by omega)) (xLoc st.ns rpre) (by omega)) (by omega)) fun post s₄ rpost st => ?_)
  have S₄ : Std w s₄.heap := S.sub (hs.trans st.sub)
  refine wpAny_execs_cons (ex_ret st (xCat (xCat (xTo (xLoc st.ns hx) (xLoc st.ns rpre) (by omega)) (xStr dots) (by simp; omega))
    (xFrom (j := p.length - k) (xLoc st.ns hx) (xSub (xLen S₄ (xLoc st.ns hx) (by omega)) (xLoc st.ns rpost) (by omega)) (by omega) (by omega)) (by simp; omega)) fun v s' r st => Ret.of st r)
end
end Mine
end

/-! part M8 -/
section
open PySem PySem.W PyProof.Rows PySem.Calls
set_option linter.unusedVariables false
set_option Elab.async false
set_option maxRecDepth 100000
namespace Mine
/-! lists of texts -/
abbrev Texts (ts : List (List Nat)) (vs : List Value) : Prop := Paired isT ts vs
theorem Paired.get {α β : Type} {F : α → β → Prop} : ∀ {l₁ : List α} {l₂ : List β}, Paired F l₁ l₂ → ∀ {i : Nat} {b : β}, l₂[i]? = some b → ∃ a, l₁[i]? = some a ∧ F a b
  | _, _, .nil, i, b, h => by simp at h
  | _, _, .cons h t, 0, b, e => by simp at e; subst e; exact ⟨_, rfl, h⟩
  | _, _, .cons h t, i + 1, b, e => by simp at e; obtain ⟨a, ha, hf⟩ := Paired.get t e; exact ⟨a, by simpa using ha, hf⟩
theorem Paired.get' {α β : Type} {F : α → β → Prop} : ∀ {l₁ : List α} {l₂ : List β}, Paired F l₁ l₂ → ∀ {i : Nat} {a : α}, l₁[i]? = some a → ∃ b, l₂[i]? = some b ∧ F a b
  | _, _, .nil, i, b, h => by simp at h
  | _, _, .cons h t, 0, b, e => by simp at e; subst e; exact ⟨_, rfl, h⟩
  | _, _, .cons h t, i + 1, b, e => by simp at e; obtain ⟨a, ha, hf⟩ := Paired.get' t e; exact ⟨a, by simpa using ha, hf⟩
theorem Paired.append {α β : Type} {F : α → β → Prop} : ∀ {l₁ l₃ : List α} {l₂ l₄ : List β}, Paired F l₁ l₂ → Paired F l₃ l₄ → Paired F (l₁ ++ l₃) (l₂ ++ l₄)
  | _, _, _, _, .nil, h => h
  | _, _, _, _, .cons h t, h' => .cons h (Paired.append t h')

section
variable {prog : Program} {w : World} {A : Around} {h : Heap} {env : Env} {R₁ R₂ R₃ : Value → Prop} {pos : Pos} {e₁ e₂ e₃ : Expr}
theorem fresh_at {h₁ h₂ : Heap} (k : Sub h₁ h₂) : h₁.get? h₂.objs.size = none := by
  cases e : h₁.get? h₂.objs.size with
  | none => rfl
  | some o => exact absurd (Heap.lt_size (k _ _ e)) (Nat.lt_irrefl _)
theorem push_sub (h : Heap) (o : Obj) : Sub h (h.push o) := fun b o e => Heap.get?_push_of_some _ e
theorem xList0 : EvR prog w A h (eval (.List [] pos) env) (fun h₁ v h₂ => ∃ a, v = .ref a ∧ h₁.get? a = none ∧ h₂.PlainList a #[]) :=
  EvR.of fun s Q E hs k => wpAny_List (wpAny_items_nil ⟨by simp, k _ _ _ (push_sub _ _) ⟨_, rfl, fresh_at (Sub.refl _), 0, Heap.get?_push_size _ rfl⟩⟩)
theorem xList1 (h₁ : Ev prog w A h (eval e₁ env) R₁) (he : starEach [e₁] env = (false, eval e₁ env) :: starEach [] env := by rfl) :
    EvR prog w A h (eval (.List [e₁] pos) env) (fun h₁ v h₂ => ∃ a u, v = .ref a ∧ h₁.get? a = none ∧ h₂.PlainList a #[u] ∧ R₁ u) :=
  EvR.of fun s Q E hs k => wpAny_List (wpAny_items_cons (h₁.wp hs fun v h₁ t₁ k₁ r₁ => wpAny_items_nil
    ⟨by simp [show sizeLine = 16777216 by decide], k _ _ _ (k₁.trans (push_sub _ _)) ⟨_, v, rfl, fresh_at k₁, ⟨0, Heap.get?_push_size _ rfl⟩, r₁⟩⟩) he)
theorem xList3 (h₁ : Ev prog w A h (eval e₁ env) R₁) (h₂ : Ev prog w A h (eval e₂ env) R₂) (h₃ : Ev prog w A h (eval e₃ env) R₃) (he₁ : starEach [e₁, e₂, e₃] env = (false, eval e₁ env) :: starEach [e₂, e₃] env := by rfl)
    (he₂ : starEach [e₂, e₃] env = (false, eval e₂ env) :: starEach [e₃] env := by rfl) (he₃ : starEach [e₃] env = (false, eval e₃ env) :: starEach [] env := by rfl) :
    EvR prog w A h (eval (.List [e₁, e₂, e₃] pos) env) (fun h₁ v h₂ => ∃ a u₁ u₂ u₃, v = .ref a ∧ h₁.get? a = none ∧ h₂.PlainList a #[u₁, u₂, u₃] ∧ R₁ u₁ ∧ R₂ u₂ ∧ R₃ u₃) :=
  EvR.of fun s Q E hs k => wpAny_List (wpAny_items_cons (h₁.wp hs fun v h₁ t₁ k₁ r₁ => wpAny_items_cons (h₂.wp (hs.trans k₁) fun v₂ h₂ t₂ k₂ r₂ => wpAny_items_cons (h₃.wp (hs.trans (k₁.trans k₂)) fun v₃ h₃ t₃ k₃ r₃ => wpAny_items_nil
    ⟨by simp [show sizeLine = 16777216 by decide], k _ _ _ (k₁.trans (k₂.trans (k₃.trans (push_sub _ _)))) ⟨_, v, v₂, v₃, rfl, fresh_at (k₁.trans (k₂.trans k₃)), ⟨0, Heap.get?_push_size _ rfl⟩, r₁, r₂, r₃⟩⟩) he₃) he₂) he₁)
theorem xTuple2 {k₀ : Nat} (h₁ : Ev prog w A h (eval e₁ env) R₁) (h₂ : Ev prog w A h (eval e₂ env) R₂) (he₁ : starEach [e₁, e₂] env = (false, eval e₁ env) :: starEach [e₂] env := by rfl) (he₂ : starEach [e₂] env = (false, eval e₂ env) :: starEach [] env := by rfl) :
    EvR prog w A h (eval (.Tuple [e₁, e₂] k₀ pos) env) (fun h₁ v h₂ => ∃ a u₁ u₂, v = .ref a ∧ h₁.get? a = none ∧ h₂.get? a = some { cls := .type "tuple", data := .seq #[u₁, u₂] } ∧ R₁ u₁ ∧ R₂ u₂) :=
  EvR.of fun s Q E hs k => wpAny_Tuple (wpAny_items_cons (h₁.wp hs fun v h₁ t₁ k₁ r₁ => wpAny_items_cons (h₂.wp (hs.trans k₁) fun v₂ h₂ t₂ k₂ r₂ => wpAny_items_nil
    ⟨by simp [show sizeLine = 16777216 by decide], k _ _ _ (k₁.trans (k₂.trans (push_sub _ _))) ⟨_, v, v₂, rfl, fresh_at (k₁.trans k₂), Heap.get?_push_size _ rfl, r₁, r₂⟩⟩) he₂) he₁)
end
section
variable {prog : Program} {w : World} {A : Around} {E : Value → Shared → Prop} {X : List Addr} {s₀ s : Shared} {m : Map} {pre post : OS} {env : Env}
theorem ex_append {o elt : Expr} {apos cpos epos : Pos} {D : Addr} {items : Array Value} {R : Value → Prop} {Q : Flow → Shared → Prop} (hst : St X s₀ env.locals m (pre ++ (D, LObj items) :: post) s)
    (ho : Ev prog w A s.heap (eval o env) (· = .ref D)) (he : Ev prog w A s.heap (eval elt env) R) (hz : items.size ≤ 100000)
    (k : ∀ v s', R v → St X s₀ env.locals m (pre ++ (D, LObj (items.push v)) :: post) s' → Q .next s')
    (hbase : attributeBase o "append" env (eval o env) = eval o env := by rfl)
    (hfew : ((backTo cpos (starEach [elt] env)).all (fun x => !x.1) && (backToKw cpos (keywordEach [] env)).all (fun x => x.1.isSome)
      && decide (([elt] : List Expr).length + ([] : List Keyword).length + (if ([] : List Keyword).isEmpty then 0 else 1) < 30)) = true := by rfl)
    (hline : (apos.endLine == cpos.line) = true := by rfl) (htrees : backTo cpos (starEach [elt] env) = [(false, eval elt env)] := by rfl)
    (hi : interactive env = false := by rfl) (hs : swapsWith (.Call (.Attribute o "append" apos) [elt] [] cpos) none epos.line env = pure false := by rfl) :
    wpAny (model prog w) A (exec (.Expr (.Call (.Attribute o "append" apos) [elt] [] cpos) epos) env) Q E s := by
  refine wpAny_Expr (wpAny_Call_append hbase hfew hline htrees (ho.wp (Sub.refl _) fun ov h₁ t₁ k₁ r₁ => ⟨D, items, r₁, ?_, he.wp k₁ fun y h₂ t₂ k₂ r₂ => ?_⟩)) hi hs
  · obtain ⟨n, e⟩ := (hst.quiet (tk := t₁) k₁).list (List.mem_append_right _ (List.mem_cons_self ..))
    exact ⟨_, n, e, rfl, rfl, rfl⟩
  · have st₂ := hst.quiet (tk := t₂) (k₁.trans k₂)
    refine wpAny_list_append_plain (hsz := by rw [show sizeLine = 16777216 by decide]; omega) (st₂.list (List.mem_append_right _ (List.mem_cons_self ..))) fun h' hl hs' => ?_
    obtain ⟨n, e⟩ := hl
    exact k y _ r₂ (st₂.setAt (tk := t₂) hs'.extBut e ⟨n, rfl⟩)
end
end Mine
end

/-! part M9 -/
section
open PySem PySem.W PyProof.Rows PySem.Calls
set_option linter.unusedVariables false
set_option Elab.async false
set_option maxRecDepth 100000
namespace Mine
section
variable {prog : Program} {w : World} {A : Around} {h : Heap} {n : Nat}
def fdSplit : { fd : FuncData // ∀ P, ((hd.heap_39 P).lookup 28).map (·.data) = some (.func fd) } := ⟨_, fun P => rfl⟩
theorem c_split (hA : OkA (n + 1) A) (S : Std w h) {ax f : Addr} {items : Array Value} {ts : List (List Nat)} {fd : FuncData} {o : Obj} (pr : List Nat → Bool) (hl : h.IsList ax items) (ht : Texts ts items.toList) (hz : ts.length ≤ 1000)
    (hf : h.get? f = some o) (hfd : o.data = .func fd) (hpred : ∀ (A' : Around) (h' : Heap) (t : List Nat) (x : Value), OkA n A' → Sub h h' → t ∈ ts → isT t x → Ev prog w A' h' (call (.ref f) [x]) (isB (pr t))) :
    EvR prog w A h (call (.ref 28) [.ref ax, .ref f]) (fun h₁ v h₂ => ∃ tp ya na ys ns, v = .ref tp ∧ h₁.get? tp = none ∧ h₁.get? ya = none ∧ h₁.get? na = none ∧ ya ≠ na ∧ h₂.get? tp = some { cls := .type "tuple", data := .seq #[.ref ya, .ref na] } ∧
      h₂.PlainList ya ys ∧ h₂.PlainList na ns ∧ Texts (ts.filter pr) ys.toList ∧ Texts (ts.filter fun t => !pr t) ns.toList) := by
  have hlen : items.size = ts.length := by have := Paired.length ht; simp at this; omega
  obtain ⟨o', ho, hd⟩ := S.fn (fdSplit.2 _)
  refine call_fn hA S ho hd (S.code (c := 27) rfl rfl) (body := _) rfl (binds := [("s", .ref ax), ("predicate", .ref f)]) rfl rfl (fun L => ?_) (fun L => ?_) (fun s s₁ L E hs st => ?_) rfl rfl rfl
  · intro z hz; simp at hz; rcases hz with rfl | rfl <;> exact .inl rfl
  · intro z hz; exact nomatch hz
  have hA1 := hA.deeper (callEnvC fdSplit.1 L 28)
  -- yes = [], no = []
  refine wpAny_execs_cons (ex_assign st xList0 (fun v h₁ t₁ k₁ r₁ => ?_) rfl rfl rfl)
  obtain ⟨ya, rfl, hya, ny, ey⟩ := r₁
  refine ⟨_, st.push (p := LObj #[]) k₁ hya ey ⟨ny, rfl⟩ (by simp), fun s₂ st => ?_⟩
  refine wpAny_execs_cons (ex_assign st xList0 (fun v h₁ t₁ k₁ r₁ => ?_) rfl rfl rfl)
  obtain ⟨na, rfl, hna, nn, en⟩ := r₁
  refine ⟨_, st.push (p := LObj #[]) k₁ hna en ⟨nn, rfl⟩ (by simp), fun s₃ st => ?_⟩
  -- the loop
  refine wpAny_execs_cons (ex_for (fun i m' os' => m' "yes" = some (.ref ya) ∧ m' "no" = some (.ref na) ∧ m' "predicate" = some (.ref f) ∧ ∃ ys ns : Array Value, os' = [(na, LObj ns), (ya, LObj ys)] ∧
    Texts ((ts.take i).filter pr) ys.toList ∧ Texts ((ts.take i).filter fun t => !pr t) ns.toList) st
    (EvIt.list hA1.1 (xLoc st.ns rfl) (hl.at fun o e => st.sub _ _ (hs _ _ e))) (fun I _ => by simp) (fun b hb => ?_) ⟨rfl, rfl, rfl, #[], #[], rfl, by simpa using Paired.nil, by simpa using Paired.nil⟩ ?_ ?_ (fun _ => rfl) (fun _ _ => rfl))
  · obtain ⟨ol, hol, _⟩ := hl
    rw [List.mem_singleton.mp hb]
    exact ⟨ol, fun i m' os' s' _ st' => st'.sub _ _ (hs _ _ hol)⟩
  · rintro i v m' os' s' I p Q' E' hi hv ⟨h1, h2, h3, ys, ns, rfl, hy, hn⟩ st k
    obtain ⟨t, hti, htv⟩ := Paired.get ht (by simpa using hv)
    have htm : t ∈ ts := List.mem_of_getElem? hti
    have e1 : ts.take (i + 1) = ts.take i ++ [t] := by rw [List.take_add_one, hti]; rfl
    have hys : ys.size ≤ 1000 := by
      have := Paired.length hy
      have l2 : ((ts.take i).filter pr).length ≤ (ts.take i).length := List.length_filter_le _ _
      simp at this l2; omega
    have hns : ns.size ≤ 1000 := by
      have := Paired.length hn
      have l2 : ((ts.take i).filter fun t => !pr t).length ≤ (ts.take i).length := List.length_filter_le _ _
      simp at this l2; omega
    refine wpAny_assign_Name (ex_store st (fun s₂ st => ?_) rfl rfl)
    refine wpAny_execs_cons (ex_if (b := pr t) st (ev_true_val (ev_call1 (R₁ := (· = v)) (xLoc st.ns (v := .ref f) rfl (hv := h3)) (st.sub _ _ (hs _ _ hf)) hfd (xLoc st.ns rfl) (fun u ru => by
      rw [ru]; exact hpred _ _ t v hA1 (hs.trans st.sub) htm htv) (fun _ _ _ _ _ r => r) rfl rfl) rfl) fun s₃ st => ?_)
    cases hp : pr t with
    | true =>
      refine wpAny_execs_cons (ex_append (pre := [(I, p), (na, LObj ns)]) (post := []) st (xLoc st.ns rfl (hv := h1)) (xLoc st.ns (R := isT t) htv) (by omega) fun u s₄ ru st => wpAny_execs_nil (wpAny_execs_nil ⟨rfl, k (upd m' "x" v) _ _ ⟨h1, h2, h3, ys.push u, ns, rfl, ?_, ?_⟩ st⟩))
      · rw [e1, List.filter_append]; simpa [hp] using Paired.snoc hy ru
      · rw [e1, List.filter_append]; simpa [hp] using hn
    | false =>
      refine wpAny_execs_cons (ex_append (pre := [(I, p)]) (post := [(ya, LObj ys)]) st (xLoc st.ns rfl (hv := h2)) (xLoc st.ns (R := isT t) htv) (by omega) fun u s₄ ru st => wpAny_execs_nil (wpAny_execs_nil ⟨rfl, k (upd m' "x" v) _ _ ⟨h1, h2, h3, ys, ns.push u, rfl, ?_, ?_⟩ st⟩))
      · rw [e1, List.filter_append]; simpa [hp] using hy
      · rw [e1, List.filter_append]; simpa [hp] using Paired.snoc hn ru
  · rintro m' os' s' ⟨h1, h2, h3, ys, ns, rfl, hy, hn⟩ st
    rw [hlen, List.take_length] at hy hn
    refine wpAny_execs_cons (wpAny_Return_some ((xTuple2 (xLoc st.ns (v := .ref ya) (R := (· = .ref ya)) rfl (hv := h1)) (xLoc st.ns (v := .ref na) (R := (· = .ref na)) rfl (hv := h2))).wp (Sub.refl _) fun v h' tk hk r => ?_))
    obtain ⟨tp, u₁, u₂, rfl, htp, etp, rfl, rfl⟩ := r
    have st' := st.quiet (tk := tk) hk
    have fy := (st.fresh (ya, LObj ys) (by simp)).2.resolve_right (by simp)
    have fn := (st.fresh (na, LObj ns) (by simp)).2.resolve_right (by simp)
    refine Ret.of st' ⟨tp, ya, na, ys, ns, rfl, ?_, fy, fn, ?_, etp, st'.list (by simp), st'.list (by simp), hy, hn⟩
    · cases e : s.heap.get? tp with
      | none => rfl
      | some o => have := st.sub _ _ e; rw [htp] at this; cases this
    · intro e
      have := st.nodup
      simp at this
      exact this e.symm
end
end Mine
end

/-! part M10 -/
section
open PySem PySem.W PyProof.Rows PySem.Calls
set_option linter.unusedVariables false
set_option Elab.async false
set_option maxRecDepth 100000
namespace Mine
theorem Paired.of_get {α β : Type} {F : α → β → Prop} : ∀ {l₁ : List α} {l₂ : List β}, l₁.length = l₂.length → (∀ (i : Nat) (a : α) (b : β), l₁[i]? = some a → l₂[i]? = some b → F a b) → Paired F l₁ l₂
  | [], [], _, _ => .nil
  | [], _ :: _, h, _ => by simp at h
  | _ :: _, [], h, _ => by simp at h
  | a :: l₁, b :: l₂, h, k => .cons (k 0 a b rfl rfl) (Paired.of_get (by simpa using h) fun i x y hx hy => k (i + 1) x y (by simpa using hx) (by simpa using hy))
theorem isI_inj {a b : Int} {v : Value} (h : isI a v) (h' : isI b v) : a = b := by obtain ⟨t, rfl⟩ := h; obtain ⟨u, e⟩ := h'; cases e; rfl
theorem isT_inj {a b : List Nat} {v : Value} (h : isT a v) (h' : isT b v) : a = b := by obtain ⟨t, rfl⟩ := h; obtain ⟨u, e⟩ := h'; injection e with e _; exact T_inj.mp e
/-- what a comprehension over a range makes -/
theorem paired_range {β : Type} {n : Nat} {a : Int} {vs ys : List Value} {F : Value → Value → Prop} {G : β → Value → Prop} (f : Nat → β) (hlen : vs.length = n) (hP : ∀ (j : Nat) (u : Value), vs[j]? = some u → isI (a + (j : Int)) u)
    (hF : Paired F (vs.filter fun _ => true) ys) (k : ∀ (j : Nat) (u y : Value), j < n → isI (a + (j : Int)) u → F u y → G (f j) y) : Paired G ((List.range n).map f) ys := by
  rw [List.filter_eq_self.mpr (by simp)] at hF
  refine Paired.of_get (by rw [List.length_map, List.length_range, ← hlen]; exact Paired.length hF) fun i x y hx hy => ?_
  obtain ⟨u, hu, hf⟩ := Paired.get hF hy
  have hi : i < n := by rw [← hlen]; exact (List.getElem?_eq_some_iff.mp hu).1
  rw [List.getElem?_map, List.getElem?_range hi] at hx
  simp at hx; subst hx
  exact k i u y hi (hP i u hu) hf
theorem texts_values : ∀ {ts : List (List Nat)} {vs : List Value}, Texts ts vs → ∃ l : List (Str × Tok), strValues l = vs ∧ l.map (·.1) = ts.map T
  | _, _, .nil => ⟨[], rfl, rfl⟩
  | _, _, .cons (b := b) h t => by
    obtain ⟨l, e1, e2⟩ := texts_values t
    obtain ⟨u, rfl⟩ := h
    exact ⟨(T _, u) :: l, by rw [← e1]; rfl, by rw [List.map_cons, List.map_cons, e2]⟩
theorem join_nil : ∀ ts : List (List Nat), PySem.Str.join (T []) (ts.map T) = T ts.flatten
  | [] => rfl
  | [x] => by simp [PySem.Str.join]
  | x :: y :: r => by
    have ih := join_nil (y :: r)
    simp only [List.map_cons] at ih ⊢
    rw [PySem.Str.join, ih, T_append, T_append]
    · simp
    · simp
section
variable {prog : Program} {w : World} {A : Around} {h : Heap} {env : Env}
theorem xJoin {e : Expr} {x : Str} {kc : Nat} {pc ap pos : Pos} {ts : List (List Nat)} {R : Heap → Value → Heap → Prop} (hx : x = T []) (he : EvR prog w A h (eval e env) R) (hR : ∀ h₁ v h₂, Sub h h₁ → Sub h₁ h₂ → R h₁ v h₂ → ∃ D ys, v = .ref D ∧ h₂.IsList D ys ∧ Texts ts ys.toList)
    (hz : ts.length ≤ 100) (hz2 : ∀ t ∈ ts, t.length ≤ 100)
    (hbase : attributeBase (.Constant (.str x) kc pc) "join" env (eval (.Constant (.str x) kc pc) env) = eval (.Constant (.str x) kc pc) env := by rfl)
    (hfew : ((backTo pos (starEach [e] env)).all (fun x => !x.1) && (backToKw pos (keywordEach [] env)).all (fun x => x.1.isSome)
      && decide (([e] : List Expr).length + ([] : List Keyword).length + (if ([] : List Keyword).isEmpty then 0 else 1) < 30)) = true := by rfl)
    (hline : (ap.endLine == pos.line) = true := by rfl) (hs : starEach [e] env = [(false, eval e env)] := by rfl) :
    Ev prog w A h (eval (.Call (.Attribute (.Constant (.str x) kc pc) "join" ap) [e] [] pos) env) (isT ts.flatten) :=
  EvR.of fun s Q E hsub k => by
    refine wpAny_Call_method (T := "str") (id := "str.join") hbase hfew hline F.plainAttrs_str F.slot_str_join F.type_str_join (wpAny_Constant_str ⟨typeIs_str _ _ _, (fun a e => nomatch e), ?_⟩)
    rw [hs]
    refine callWith_builtin rfl (evalArgs_plain (spliced_cons (he.wp (s := { s with toks := s.toks + 1 }) hsub fun v h₁ t₁ k₁ r₁ => spliced_nil ?_)))
    obtain ⟨D, ys, rfl, hl, ht⟩ := hR _ _ _ hsub k₁ r₁
    obtain ⟨l, e1, e2⟩ := texts_values ht
    have hl' : h₁.IsList D (strValues l).toArray := by rw [e1]; simpa using hl
    refine SC.join (s := { s with heap := h₁, toks := t₁ }) hl' e2 ?_ fun t' tk => k _ h₁ tk k₁ ⟨t', ?_⟩
    · unfold JoinOk
      rw [Bool.not_eq_true', StrLaws.joinTotal]
      have h1 := StrLaws.sumLen_le (B := 100) (ts.map T) (by intro y hy; obtain ⟨t, ht, rfl⟩ := List.mem_map.mp hy; rw [T_len]; exact hz2 t ht)
      have h2 : x.length = 0 := by rw [hx]; rfl
      rw [h2]
      rw [List.length_map] at h1 ⊢
      have : ts.length * 100 ≤ 10000 := by omega
      simp only [Builtin.Str.tooLong, show sizeLine = 16777216 by decide, decide_eq_false_iff_not]
      omega
    · show Value.str (Builtin.Str.glued x (ts.map T)) t' = _
      rw [StrLaws.glued_eq_join, hx, join_nil]
end
/-- the word of a number -/
def bit (N : Int) (i : Nat) : Nat := if N / 3 / 2 ^ i % 2 = 0 then 97 else 98
def word (N : Int) : List Nat := (List.range (2 + (N % 3).toNat)).map (bit N)
theorem txt_ab0 : Txt.item (Str.ofString "ab") 0 = T [97] := by decide +kernel
theorem txt_ab1 : Txt.item (Str.ofString "ab") 1 = T [98] := by decide +kernel
theorem txt_empty : Str.ofString "" = T [] := by decide +kernel
theorem ab_len : (Str.ofString "ab").length = 2 := by decide +kernel
section
variable {prog : Program} {w : World} {A : Around} {h : Heap} {n : Nat} {x : Value} {N : Int}
def fdWord : { fd : FuncData // ∀ P, ((hd.heap_39 P).lookup 68).map (·.data) = some (.func fd) } := ⟨_, fun P => rfl⟩
theorem flatten_sing {α : Type} (l : List α) : (l.map fun a => [a]).flatten = l := by induction l with | nil => rfl | cons a l ih => simp [ih]
theorem c_word (hA : OkA (n + 1) A) (S : Std w h) (hx : isI N x) : Ev prog w A h (call (.ref 68) [x]) (isT (word N)) := by
  obtain ⟨o, ho, hd⟩ := S.fn (fdWord.2 _)
  refine call_fn hA S ho hd (S.code (c := 67) rfl rfl) (body := _) rfl (binds := [("number", x)]) rfl rfl (fun L => ?_) (fun L => ?_) (fun s s₁ L E hs st => ?_) rfl rfl rfl
  · intro z hz; simp at hz; subst hz; exact .inr ⟨rfl, rfl⟩
  · intro z hz
    have e : cellsFrom (L + 1) fdWord.1.scope.names [] = [(Str.ofString "number", L + 1)] := rfl
    rw [e] at hz ⊢
    simp at hz; subst hz; rfl
  have hA1 := hA.deeper (callEnvC fdWord.1 L 68)
  replace st : St [] s (callEnvC fdWord.1 L 68).locals (fun _ => none) [(L + 1, CObj (some x))] s₁ := st
  have hm0 : 0 ≤ N % 3 := Int.emod_nonneg _ (by decide)
  have hm3 : N % 3 < 3 := Int.emod_lt_of_pos _ (by decide)
  refine wpAny_execs_cons (ex_assignQ st (xAdd (c := (2 + (N % 3).toNat : Nat)) xInt (xMod (xCell (st.cell (c := L + 1) (v := some x) (by simp)) hx) xInt (by decide) rfl) (by omega)) fun sz s₂ rsz st => ?_)
  have S₂ : Std w s₂.heap := S.sub (hs.trans st.sub)
  have hc := st.cell (c := L + 1) (v := some x) (by simp)
  refine wpAny_execs_cons (ex_ret st (R := isT (word N)) ((xJoin (ts := (List.range (2 + (N % 3).toNat)).map fun i => [bit N i]) txt_empty
    (ev_comp (fun _ => true) (fun v y => ∀ j : Nat, isI (j : Int) v → isT [bit N j] y)
      (it_range hA1.1 (a := 0) (b := (2 + (N % 3).toNat : Nat)) (n := 2 + (N % 3).toNat) (by omega) (by omega) (by omega) (by omega) (by omega) (ev_range1 (ev_builtin S₂ rfl boot_range (by decide) rfl rfl rfl rfl rfl) (xLoc st.ns rsz) rfl rfl))
      (fun C i v h' m hsub hi hP hn hm => ev_tests0)
      (fun C i v h' m hsub hi hP _ hn hm => ?_)
      rfl (by decide) rfl (by decide) rfl (fun _ => rfl) (by rw [show sizeLine = 16777216 by decide]; omega))
    (fun h₁ v h₂ _ _ r => ?_) (by simp; omega) (by intro t ht; simp at ht; obtain ⟨a, _, rfl⟩ := ht; simp)).mono fun _ v _ _ _ r => ?_) fun v s' r st => Ret.of st r)
  · -- the element
    rw [Int.zero_add] at hP
    refine EvR.mono (R := fun _ u _ => isT [bit N i] u) ?_ (fun _ u _ _ _ r j hj => ?_)
    · have hb0 : 0 ≤ N / 3 / 2 ^ i % 2 := Int.emod_nonneg _ (by decide)
      have hb2 : N / 3 / 2 ^ i % 2 < 2 := Int.emod_lt_of_pos _ (by decide)
      refine (ev_item_str (k := N / 3 / 2 ^ i % 2) ev_const_str (xMod (xDiv (b := 2 ^ i) (xDiv (xCell (hc.keeps hsub) hx) xInt (by decide) (by decide) rfl) (xPow xInt (xLoc hn (v := v) hP (hv := hm)) (by omega) ?_ (by simp)) ?_ ?_ rfl) xInt (by decide) rfl) ?_ ?_ ?_ (fun _ _ => ⟨_, rfl⟩) (fun _ _ => rfl)).mono fun _ u _ _ _ r => ?_
      · have : Builtin.Int.intBits 2 = 2 := by decide
        rw [this]; omega
      · exact Int.pow_pos (by decide)
      · have : i ≤ 3 := by omega
        have : i = 0 ∨ i = 1 ∨ i = 2 ∨ i = 3 := by omega
        rcases this with rfl | rfl | rfl | rfl <;> decide
      · unfold fitsSsize; simp; omega
      · rw [ab_len]; omega
      · rw [ab_len]; omega
      · unfold bit
        by_cases hz : N / 3 / 2 ^ i % 2 = 0
        · rw [if_pos hz]; rw [hz, txt_ab0] at r; exact r
        · have : N / 3 / 2 ^ i % 2 = 1 := by omega
          rw [if_neg hz]; rw [this, txt_ab1] at r; exact r
    · have := isI_inj hP hj
      have : i = j := by omega
      subst this; exact r
  · obtain ⟨D, ys, vs, rfl, _, hpl, hlen, hPs, hF⟩ := r
    refine ⟨D, ys, rfl, hpl.isList, paired_range (a := 0) (fun i => [bit N i]) hlen hPs hF fun j u y hj hu hf => hf j (by rw [Int.zero_add] at hu; exact hu)⟩
  · have e : ((List.range (2 + (N % 3).toNat)).map fun i => [bit N i]).flatten = word N := by
      have := flatten_sing (word N)
      unfold word at this ⊢
      rw [List.map_map] at this
      exact this
    rw [e] at r; exact r
end
end Mine
end

/-! part M11 -/
section
open PySem PySem.W PyProof.Rows PySem.Calls
set_option linter.unusedVariables false
set_option Elab.async false
set_option maxRecDepth 100000
namespace Mine
section
variable {prog : Program} {w : World} {A : Around} {h : Heap} {env : Env} {e : Expr} {pos np : Pos}
theorem xLenL {l : Addr} {items : Array Value} (S : Std w h) (he : Ev prog w A h (eval e env) (· = .ref l)) (hl : h.IsList l items) (hz : items.size ≤ 100000) (hg : env.globals = mainGlobals := by rfl) (hb : env.builtins = builtinsNs := by rfl) (hk : env.scope.kind = .function := by rfl)
    (hx : env.kindOf "len" = some .globalImplicit := by rfl) (hs : starEach [e] env = [(false, eval e env)] := by rfl)
    (hc : eval (.Call (.Name "len" np) [e] [] pos) env = (do callWith pos (← eval (.Name "len" np) env) [] (backTo pos (starEach [e] env)) (backToKw pos (keywordEach [] env))) := by rfl) :
    Ev prog w A h (eval (.Call (.Name "len" np) [e] [] pos) env) (isI items.size) :=
  ev_callb1 (ev_builtin S rfl boot_len (by decide) hg hb hk hx rfl) he (fun v rv => by
    subst rv
    exact EvR.of fun s Q E hsub k => call_len_list (hl.at fun o e => hsub _ _ e) (by omega) (k _ s.heap _ (Sub.refl _) ⟨_, rfl⟩)) (fun _ _ _ _ _ r => r) hs hc
end
/-- the other words that word k has within itself, in so far as they count -/
def hit (ws : List (List Nat)) (k j : Nat) : Bool := (j : Int) != (k : Int) && (within (ws.getD k []) (ws.getD j []) && (decide ((j : Int) < (k : Int)) || (ws.getD j [] != ws.getD k [])))
def clean (ws : List (List Nat)) (k : Nat) : Bool := (List.range ws.length).all fun j => !hit ws k j
section
variable {prog : Program} {w : World} {A : Around} {h : Heap} {n : Nat}
def fdWithin : { fd : FuncData // ∀ P, ((hd.heap_39 P).lookup 73).map (·.data) = some (.func fd) } := ⟨_, fun P => rfl⟩
def natOf (v : Value) : Nat := match v with | .int i _ => i.toNat | _ => 0
theorem natOf_isI {i : Nat} {v : Value} (h : isI (i : Int) v) : natOf v = i := by obtain ⟨t, rfl⟩ := h; simp [natOf]
theorem c_within (hA : OkA (n + 2) A) (S : Std w h) {lw : Addr} {items : Array Value} {ws : List (List Nat)} {x : Value} {k : Nat} (hl : h.IsList lw items) (ht : Texts ws items.toList) (hz : ws.length ≤ 100) (hx : isI (k : Int) x) (hk : k < ws.length) :
    EvR prog w A h (call (.ref 73) [.ref lw, x]) (fun h₁ v h₂ => ∃ D ys, v = .ref D ∧ h₁.get? D = none ∧ h₂.PlainList D ys ∧ (ys.size = 0 ↔ clean ws k = true)) := by
  have hlen : items.size = ws.length := by have := Paired.length ht; simp at this; omega
  obtain ⟨o, ho, hd⟩ := S.fn (fdWithin.2 _)
  refine call_fn hA S ho hd (S.code (c := 72) rfl rfl) (body := _) rfl (binds := [("words", .ref lw), ("k", x)]) rfl rfl (fun L => ?_) (fun L => ?_) (fun s s₁ L E hs st => ?_) rfl rfl rfl
  · intro z hz; simp at hz; rcases hz with rfl | rfl <;> exact .inr ⟨rfl, rfl⟩
  · intro z hz
    have e : cellsFrom (L + 1) fdWithin.1.scope.names [] = [(Str.ofString "k", L + 1 + 1), (Str.ofString "words", L + 1)] := rfl
    rw [e] at hz ⊢
    simp at hz; rcases hz with rfl | rfl <;> rfl
  have hA1 := hA.deeper (callEnvC fdWithin.1 L 73)
  replace st : St [] s (callEnvC fdWithin.1 L 73).locals (fun _ => none) [(L + 1 + 1, CObj (some x)), (L + 1, CObj (some (.ref lw)))] s₁ := st
  have S₁ : Std w s₁.heap := S.sub (hs.trans st.sub)
  have hck := st.cell (c := L + 1 + 1) (v := some x) (by simp)
  have hcw := st.cell (c := L + 1) (v := some (.ref lw)) (by simp)
  have hl₁ : s₁.heap.IsList lw items := hl.at fun o e => st.sub _ _ (hs _ _ e)
  have item : ∀ j, j < ws.length → ∃ u, items[j]? = some u ∧ isT (ws.getD j []) u := fun j hj => by
    obtain ⟨u, hu, hf⟩ := Paired.get' ht (List.getElem?_eq_getElem hj)
    exact ⟨u, by simpa using hu, by rw [List.getD_eq_getElem?_getD, List.getElem?_eq_getElem hj]; exact hf⟩
  refine wpAny_execs_cons (wpAny_Return_some (EvR.wp (h := s₁.heap) (ev_comp (fun v => hit ws k (natOf v)) (fun v y => True)
      (it_range hA1.1 (a := 0) (b := items.size) (n := items.size) (by omega) (by omega) (by omega) (by omega) (by omega) (ev_range1 (ev_builtin S₁ rfl boot_range (by decide) rfl rfl rfl rfl rfl) (xLenL S₁ (xCell hcw rfl) hl₁ (by omega)) rfl rfl))
      (fun C i v h' m hsub hi hP hn hm => ?_) (fun C i v h' m hsub hi hP _ hn hm => xLoc hn (v := v) trivial (hv := hm))
      rfl (by decide) rfl (by decide) rfl (fun _ => rfl) (by rw [show sizeLine = 16777216 by decide]; omega)) (Sub.refl _) fun v h' tk hk' r => ?_))
  · rw [Int.zero_add] at hP
    rw [natOf_isI hP]
    have hi' : i < ws.length := by omega
    obtain ⟨uk, huk, htk⟩ := item k hk
    obtain ⟨ui, hui, hti⟩ := item i hi'
    have S' := S₁.sub hsub
    have hl' : h'.IsList lw items := hl₁.at fun o e => hsub _ _ e
    refine ev_tests1 ?_
    unfold hit
    refine ev_true_and3 (ev_true_cmp (xLoc hn (v := v) hP (hv := hm)) (xCell (hck.keeps hsub) hx) (fun a b ra rb => ev_nei ra rb) rfl)
      (fun _ => ev_true_val (xCall2 S' rfl (fdContains.2 _) (xItem (k := k) (xCell (hcw.keeps hsub) rfl) hl' (xCell (hck.keeps hsub) hx) huk htk) (xItem (k := i) (xCell (hcw.keeps hsub) rfl) hl' (xLoc hn (v := v) hP (hv := hm)) hui hti)
        (fun v u rv ru => c_contains hA1 S' rv ru)) rfl)
      (fun _ _ => ev_true_or2 (ev_true_cmp (xLoc hn (v := v) hP (hv := hm)) (xCell (hck.keeps hsub) hx) (fun a b ra rb => ev_lti ra rb) rfl)
        (ev_true_cmp (xItem (k := i) (xCell (hcw.keeps hsub) rfl) hl' (xLoc hn (v := v) hP (hv := hm)) hui hti) (xItem (k := k) (xCell (hcw.keeps hsub) rfl) hl' (xCell (hck.keeps hsub) hx) huk htk) (fun a b ra rb => by rw [← T_bne]; exact ev_nes ra rb) rfl))
  · obtain ⟨D, ys, vs, rfl, hD, hpl, hlv, hPs, hF⟩ := r
    have st' := st.quiet (tk := tk) hk'
    refine Ret.of st' ⟨D, ys, rfl, ?_, hpl, ?_⟩
    · cases e : s.heap.get? D with
      | none => rfl
      | some o => have := st.sub _ _ e; rw [hD] at this; cases this
    · have hsz : ys.size = (vs.filter fun v => hit ws k (natOf v)).length := by have := Paired.length hF; simp at this; omega
      rw [hsz, List.length_eq_zero_iff, List.filter_eq_nil_iff]
      unfold clean
      rw [List.all_eq_true]
      constructor
      · intro h j hj
        have hj' := List.mem_range.mp hj
        have hjv : j < vs.length := by omega
        have hu := hPs j _ (List.getElem?_eq_getElem hjv)
        rw [Int.zero_add] at hu
        have := h _ (List.getElem_mem hjv)
        rw [natOf_isI hu] at this
        simpa using this
      · intro h v hv
        obtain ⟨j, hj, rfl⟩ := List.getElem_of_mem hv
        have hu := hPs j _ (List.getElem?_eq_getElem hj)
        rw [Int.zero_add] at hu
        rw [natOf_isI hu]
        have := h j (List.mem_range.mpr (by omega))
        simpa using this
end
end Mine
end

/-! part M12 -/
section
open PySem PySem.W PyProof.Rows PySem.Calls
set_option linter.unusedVariables false
set_option Elab.async false
set_option maxRecDepth 100000
namespace Mine
/-- new objects, as they stand -/
structure Made (te : OS) (h₁ h₂ : Heap) : Prop where
  mem : ∀ p ∈ te, ∃ o, h₂.get? p.1 = some o ∧ p.2 o
  fresh : ∀ p ∈ te, h₁.get? p.1 = none
  nodup : (te.map (·.1)).Nodup
theorem Made.anti {te : OS} {h₁ h₂ h₃ : Heap} (x : Made te h₂ h₃) (k : Sub h₁ h₂) : Made te h₁ h₃ := by
  refine ⟨x.mem, fun p hp => ?_, x.nodup⟩
  cases e : h₁.get? p.1 with
  | none => rfl
  | some o => have := k _ _ e; rw [x.fresh p hp] at this; cases this
theorem Made.sub {te : OS} {h₁ h₂ h₃ : Heap} (x : Made te h₁ h₂) (k : Sub h₂ h₃) : Made te h₁ h₃ := ⟨fun p hp => let ⟨o, e, r⟩ := x.mem p hp; ⟨o, k _ _ e, r⟩, x.fresh, x.nodup⟩
theorem St.made {s₀ s : Shared} {L : Addr} {m : Map} {te : OS} (x : St [] s₀ L m te s) : Made te s₀.heap s.heap := ⟨x.mem, fun p hp => (x.fresh p hp).2.resolve_right (by simp), x.nodup⟩
theorem St.perm {X : List Addr} {s₀ s : Shared} {L : Addr} {m : Map} {os os' : OS} (x : St X s₀ L m os s) (h : os.Perm os') : St X s₀ L m os' s :=
  ⟨x.same, x.ns, x.keep, x.new, fun p hp => x.mem p (h.mem_iff.mpr hp), fun p hp => x.fresh p (h.mem_iff.mpr hp), (h.map _).nodup_iff.mp x.nodup⟩
section
variable {prog : Program} {w : World} {A : Around} {E : Value → Shared → Prop} {X : List Addr} {s₀ s : Shared} {m : Map} {pre post : OS} {env : Env}
theorem ex_appendR {o elt : Expr} {apos cpos epos : Pos} {D : Addr} {items : Array Value} {R : Heap → Value → Heap → Prop} {Q : Flow → Shared → Prop} (hst : St X s₀ env.locals m (pre ++ (D, LObj items) :: post) s)
    (ho : Ev prog w A s.heap (eval o env) (· = .ref D)) (he : EvR prog w A s.heap (eval elt env) R) (hz : items.size ≤ 100000)
    (k : ∀ v h₁ h₂ t₂, Sub s.heap h₁ → Sub h₁ h₂ → R h₁ v h₂ → ∃ pre' post', St X s₀ env.locals m (pre' ++ (D, LObj items) :: post') { s with heap := h₂, toks := t₂ } ∧ ∀ s', St X s₀ env.locals m (pre' ++ (D, LObj (items.push v)) :: post') s' → Q .next s')
    (hbase : attributeBase o "append" env (eval o env) = eval o env := by rfl)
    (hfew : ((backTo cpos (starEach [elt] env)).all (fun x => !x.1) && (backToKw cpos (keywordEach [] env)).all (fun x => x.1.isSome)
      && decide (([elt] : List Expr).length + ([] : List Keyword).length + (if ([] : List Keyword).isEmpty then 0 else 1) < 30)) = true := by rfl)
    (hline : (apos.endLine == cpos.line) = true := by rfl) (htrees : backTo cpos (starEach [elt] env) = [(false, eval elt env)] := by rfl)
    (hi : interactive env = false := by rfl) (hs : swapsWith (.Call (.Attribute o "append" apos) [elt] [] cpos) none epos.line env = pure false := by rfl) :
    wpAny (model prog w) A (exec (.Expr (.Call (.Attribute o "append" apos) [elt] [] cpos) epos) env) Q E s := by
  refine wpAny_Expr (wpAny_Call_append hbase hfew hline htrees (ho.wp (Sub.refl _) fun ov h₁ t₁ k₁ r₁ => ⟨D, items, r₁, ?_, he.wp k₁ fun y h₂ t₂ k₂ r₂ => ?_⟩)) hi hs
  · obtain ⟨n, e⟩ := (hst.quiet (tk := t₁) k₁).list (List.mem_append_right _ (List.mem_cons_self ..))
    exact ⟨_, n, e, rfl, rfl, rfl⟩
  · obtain ⟨pre', post', st₂, k'⟩ := k y h₁ h₂ t₂ k₁ k₂ r₂
    refine wpAny_list_append_plain (hsz := by rw [show sizeLine = 16777216 by decide]; omega) (st₂.list (List.mem_append_right _ (List.mem_cons_self ..))) fun h' hl hs' => ?_
    obtain ⟨n, e⟩ := hl
    exact k' _ (st₂.setAt (tk := t₂) hs'.extBut e ⟨n, rfl⟩)
end
abbrev tup (u₁ u₂ : Value) : Obj := { cls := .type "tuple", data := .seq #[u₁, u₂] }
/-- the ledger holds these pairs -/
abbrev PairsIn (te : OS) (ps : List (Nat × Nat)) (vs : List Value) : Prop := Paired (fun jt v => ∃ a u₁ u₂, v = .ref a ∧ (a, (· = tup u₁ u₂)) ∈ te ∧ isI (jt.1 : Int) u₁ ∧ isI (jt.2 : Int) u₂) ps vs
theorem Paired.imp {α β : Type} {F G : α → β → Prop} (k : ∀ a b, F a b → G a b) : ∀ {l₁ : List α} {l₂ : List β}, Paired F l₁ l₂ → Paired G l₁ l₂
  | _, _, .nil => .nil
  | _, _, .cons h t => .cons (k _ _ h) (Paired.imp k t)
theorem PairsIn.mono {te te' : OS} {ps : List (Nat × Nat)} {vs : List Value} (h : PairsIn te ps vs) (k : ∀ q ∈ te, q ∈ te') : PairsIn te' ps vs :=
  Paired.imp (fun _ _ ⟨a, u₁, u₂, e, hm, r⟩ => ⟨a, u₁, u₂, e, k _ hm, r⟩) h
/-- the letters that the words share -/
def okSh (wi wj : List Nat) (t : Nat) : Bool := (wi.take t ++ [46, 46, 46]) == (wj.drop (wj.length - t) ++ [46, 46, 46])
def shTo (ws : List (List Nat)) (i j r : Nat) : List (Nat × Nat) := ((List.range r).filter fun r => okSh (ws.getD i []) (ws.getD j []) (1 + r)).map fun r => (j, 1 + r)
def shN (ws : List (List Nat)) (i j : Nat) : Nat := min (ws.getD i []).length ((ws.getD j []).length + 1) - 1
def sharedL (ws : List (List Nat)) (i : Nat) : List (Nat × Nat) := (List.range ws.length).flatMap fun j => shTo ws i j (shN ws i j)
theorem shTo_succ (ws : List (List Nat)) (i j r : Nat) : shTo ws i j (r + 1) = shTo ws i j r ++ (if okSh (ws.getD i []) (ws.getD j []) (1 + r) then [(j, 1 + r)] else []) := by
  unfold shTo
  rw [List.range_succ, List.filter_append, List.map_append]
  congr 1
  by_cases h : okSh (ws.getD i []) (ws.getD j []) (1 + r) = true
  · rw [if_pos h]
    simp only [List.filter_cons, List.filter_nil, h, if_true, List.map_cons, List.map_nil]
  · rw [if_neg h]
    simp only [List.filter_cons, List.filter_nil, h, if_false, List.map_nil, Bool.false_eq_true]
theorem dashes : Str.ofString "---------" = T (List.replicate 9 45) := by decide +kernel
theorem told_eq (wi wj : List Nat) (t : Nat) (h1 : t ≤ wi.length) (h2 : t ≤ wj.length) :
    (wi ++ List.replicate 9 45 ++ wj).take t ++ [46, 46, 46] ++ (wi ++ List.replicate 9 45 ++ wj).drop ((wi ++ List.replicate 9 45 ++ wj).length - t) = wi.take t ++ [46, 46, 46] ++ wj.drop (wj.length - t) := by
  congr 1
  · rw [List.append_assoc, List.take_append_of_le_length h1]
  · rw [List.drop_append]
    have e : (wi ++ List.replicate 9 45 ++ wj).length = (wi ++ List.replicate 9 45).length + wj.length := by rw [List.length_append]
    rw [List.drop_of_length_le (by rw [e]; omega)]
    simp only [List.nil_append]
    congr 1
    rw [e]; omega

section
variable {prog : Program} {w : World} {A : Around} {h : Heap} {n : Nat}
def fdShared : { fd : FuncData // ∀ P, ((hd.heap_39 P).lookup 80).map (·.data) = some (.func fd) } := ⟨_, fun P => rfl⟩
theorem shTo_len (ws : List (List Nat)) (i j r : Nat) : (shTo ws i j r).length ≤ r := by
  unfold shTo; rw [List.length_map]; exact Nat.le_trans (List.length_filter_le _ _) (by simp)
theorem flat_len (ws : List (List Nat)) (i : Nat) (hs : ∀ t ∈ ws, t.length ≤ 100) : ∀ q, ((List.range q).flatMap fun j => shTo ws i j (shN ws i j)).length ≤ q * 100
  | 0 => by simp
  | q + 1 => by
    have ih := flat_len ws i hs q
    have h1 := shTo_len ws i q (shN ws i q)
    have h2 : shN ws i q ≤ 100 := by
      unfold shN
      have : (ws.getD i []).length ≤ 100 := by
        rw [List.getD_eq_getElem?_getD]
        cases e : ws[i]? with
        | none => simp
        | some t => exact hs t (List.mem_of_getElem? e)
      omega
    rw [List.range_succ, List.flatMap_append, List.length_append]
    simp only [List.flatMap_cons, List.flatMap_nil, List.append_nil]
    omega
theorem c_shared (hA : OkA (n + 2) A) (S : Std w h) {lw : Addr} {items : Array Value} {ws : List (List Nat)} {x : Value} {i : Nat} (hl : h.IsList lw items) (ht : Texts ws items.toList) (hz : ws.length ≤ 100) (hz2 : ∀ t ∈ ws, t.length ≤ 100)
    (hx : isI (i : Int) x) (hi : i < ws.length) :
    EvR prog w A h (call (.ref 80) [.ref lw, x]) (fun h₁ v h₂ => ∃ D ys te, v = .ref D ∧ Made (te ++ [(D, LObj ys)]) h₁ h₂ ∧ PairsIn te (sharedL ws i) ys.toList) := by
  have hlen : items.size = ws.length := by have := Paired.length ht; simp at this; omega
  obtain ⟨o, ho, hd⟩ := S.fn (fdShared.2 _)
  refine call_fn hA S ho hd (S.code (c := 79) rfl rfl) (body := _) rfl (binds := [("words", .ref lw), ("i", x)]) rfl rfl (fun L => ?_) (fun L => ?_) (fun s s₁ L E hs st => ?_) rfl rfl rfl
  · intro z hz; simp at hz; rcases hz with rfl | rfl <;> exact .inl rfl
  · intro z hz; exact nomatch hz
  have hA1 := hA.deeper (callEnvC fdShared.1 L 80)
  have item : ∀ j, j < ws.length → ∃ u, items[j]? = some u ∧ isT (ws.getD j []) u ∧ (ws.getD j []).length ≤ 100 := fun j hj => by
    obtain ⟨u, hu, hf⟩ := Paired.get' ht (List.getElem?_eq_getElem hj)
    have e : ws.getD j [] = ws[j] := by rw [List.getD_eq_getElem?_getD, List.getElem?_eq_getElem hj]; rfl
    exact ⟨u, by simpa using hu, by rw [e]; exact hf, by rw [e]; exact hz2 _ (List.getElem_mem hj)⟩
  obtain ⟨ui, hui, hti, hlti⟩ := item i hi
  generalize hwi : ws.getD i [] = wi at hti hlti
  refine wpAny_execs_cons (ex_assign st xList0 (fun v h₁ t₁ k₁ r₁ => ?_) rfl rfl rfl)
  obtain ⟨D, rfl, hD, nD, eD⟩ := r₁
  refine ⟨_, st.push (p := LObj #[]) k₁ hD eD ⟨nD, rfl⟩ (by simp), fun s₂ st => ?_⟩
  have S₂ : Std w s₂.heap := S.sub (hs.trans st.sub)
  have hl₂ : s₂.heap.IsList lw items := hl.at fun o e => st.sub _ _ (hs _ _ e)
  refine wpAny_execs_cons (ex_for (fun q m' os' => m' "words" = some (.ref lw) ∧ m' "i" = some x ∧ m' "shared" = some (.ref D) ∧ ∃ te ys, os' = te ++ [(D, LObj ys)] ∧ PairsIn te ((List.range q).flatMap fun j => shTo ws i j (shN ws i j)) ys.toList) st
    (it_range hA1.1 (a := 0) (b := items.size) (n := items.size) (by omega) (by omega) (by omega) (by omega) (by omega) (ev_range1 (ev_builtin S₂ rfl boot_range (by decide) rfl rfl rfl rfl rfl) (xLenL S₂ (xLoc st.ns rfl) hl₂ (by omega)) rfl rfl))
    (fun I _ => by simp) (fun b hb => nomatch hb) ⟨rfl, rfl, rfl, [], #[], rfl, by simpa using Paired.nil⟩ ?_ ?_ (fun _ => rfl) (fun _ _ => rfl))
  · rintro j vj m' os' s' I p Q' E' hj hP ⟨h1, h2, h3, te, ys, rfl, hps⟩ st k
    rw [Int.zero_add] at hP
    have hj' : j < ws.length := by omega
    obtain ⟨uj, huj, htj, hltj⟩ := item j hj'
    generalize hwj : ws.getD j [] = wj at htj hltj
    refine wpAny_assign_Name (ex_store st (fun s₂ st => ?_) rfl rfl)
    have S₂ : Std w s₂.heap := S.sub (hs.trans st.sub)
    have hl₂ : s₂.heap.IsList lw items := hl.at fun o e => st.sub _ _ (hs _ _ e)
    have hshN : shN ws i j = min wi.length (wj.length + 1) - 1 := by unfold shN; rw [hwi, hwj]
    refine wpAny_execs_cons (ex_for (fun r m' os' => m' "words" = some (.ref lw) ∧ m' "i" = some x ∧ m' "shared" = some (.ref D) ∧ m' "j" = some vj ∧ ∃ te ys, os' = (I, p) :: (te ++ [(D, LObj ys)]) ∧
        PairsIn te (((List.range j).flatMap fun j => shTo ws i j (shN ws i j)) ++ shTo ws i j r) ys.toList) st
      (it_range hA1.1 (a := 1) (b := min (wi.length : Int) (wj.length + 1)) (n := shN ws i j) (by omega) (by omega) (by omega) (by omega) (by omega) (ev_range2 (ev_builtin S₂ rfl boot_range (by decide) rfl rfl rfl rfl rfl) xInt
        (xMin S₂ hA1.1 (xLen S₂ (xItem (k := i) (xLoc st.ns rfl (hv := h1)) hl₂ (xLoc st.ns hx (hv := h2)) hui hti) (by omega)) (xAdd (xLen S₂ (xItem (k := j) (xLoc st.ns rfl (hv := h1)) hl₂ (xLoc st.ns hP) huj htj) (by omega)) xInt rfl) rfl) rfl rfl))
      (fun I _ => by simp) (fun b hb => nomatch hb) ⟨h1, h2, h3, rfl, te, ys, rfl, by simpa [shTo] using hps⟩ ?_ ?_ (fun _ => rfl) (fun _ _ => rfl))
    · rintro r vr m' os' s' I2 p2 Q2 E2 hr hPr ⟨h1, h2, h3, h4, te, ys, rfl, hps⟩ st k
      have hPr' : isI ((1 + r : Nat) : Int) vr := by have : (1 + (r : Int)) = ((1 + r : Nat) : Int) := by omega
                                                     rwa [this] at hPr
      have hr1 : 1 + r ≤ wi.length := by omega
      have hr2 : 1 + r ≤ wj.length := by omega
      have hysz : ys.size ≤ 20000 := by
        have l1 : ((List.range j).flatMap fun j => shTo ws i j (shN ws i j)).length + (shTo ws i j r).length = ys.size := by
          rw [← List.length_append, Paired.length hps, Array.length_toList]
        have l2 := flat_len ws i hz2 j
        have l3 := shTo_len ws i j r
        omega
      refine wpAny_assign_Name (ex_store st (fun s₂ st => ?_) rfl rfl)
      have S₂ : Std w s₂.heap := S.sub (hs.trans st.sub)
      have hl₂ : s₂.heap.IsList lw items := hl.at fun o e => st.sub _ _ (hs _ _ e)
      refine wpAny_execs_cons (ex_assignQ st (R := isT (wi.take (1 + r) ++ [46, 46, 46] ++ wj.drop (wj.length - (1 + r)))) (xCall2 S₂ rfl (fdCram.2 _)
        (xCall2 (R := fun _ v _ => isT (wi ++ List.replicate 9 45 ++ wj) v) S₂ rfl (fdConcat.2 _) (xCall2 (R := fun _ v _ => isT (wi ++ List.replicate 9 45) v) S₂ rfl (fdConcat.2 _) (xItem (k := i) (xLoc st.ns rfl (hv := h1)) hl₂ (xLoc st.ns hx (hv := h2)) hui hti) (xStr dashes)
            (fun v u rv ru => c_concat hA1 S₂ (by rw [show sizeLine = 16777216 by decide]; simp; omega) rv ru))
          (xItem (k := j) (xLoc st.ns rfl (hv := h1)) hl₂ (xLoc st.ns hP (hv := h4)) huj htj) (fun v u rv ru => c_concat hA1 S₂ (by rw [show sizeLine = 16777216 by decide]; simp; omega) rv ru))
        (xAdd (c := 2 * (1 + r : Nat) + 3) (xMul (c := 2 * (1 + r : Nat)) xInt (xLoc st.ns hPr') rfl (IntMulOk.of_left (by decide))) xInt rfl)
        (fun v u rv ru => by
          have := c_cram (prog := prog) hA1 S₂ (1 + r) (p := wi ++ List.replicate 9 45 ++ wj) (by simp; omega) (by simp; omega) rv ru
          rwa [told_eq wi wj (1 + r) hr1 hr2] at this)) fun told s₃ rtold st => ?_)
      have S₃ : Std w s₃.heap := S.sub (hs.trans st.sub)
      have hl3 : (wi.take (1 + r) ++ [46, 46, 46] ++ wj.drop (wj.length - (1 + r))).length ≤ 1000 := by simp; omega
      have et : (wi.take (1 + r) ++ [46, 46, 46] ++ wj.drop (wj.length - (1 + r))).take (1 + r + 3) = wi.take (1 + r) ++ [46, 46, 46] := by
        rw [List.take_append_of_le_length (by simp; omega), List.take_of_length_le (by simp; omega)]
      have ed : (wi.take (1 + r) ++ [46, 46, 46] ++ wj.drop (wj.length - (1 + r))).drop (1 + r + 3) = wj.drop (wj.length - (1 + r)) := by
        rw [List.drop_append_of_le_length (by simp; omega), List.drop_of_length_le (by simp; omega)]; rfl
      refine wpAny_execs_cons (ex_if (b := okSh wi wj (1 + r)) st (ev_true_val (xCall2 S₃ rfl (fdEq.2 _) (R₁ := isT (wi.take (1 + r) ++ [46, 46, 46])) (R₂ := isT (wj.drop (wj.length - (1 + r)) ++ [46, 46, 46]))
        ((xTo (j := 1 + r + 3) (xLoc st.ns rtold) (xAdd (c := (1 + r + 3 : Nat)) (xLoc st.ns hPr') xInt (by omega)) (by omega)).mono fun _ v _ _ _ q => by rw [et] at q; exact q)
        (xCall2 S₃ rfl (fdConcat.2 _) (R₁ := isT (wj.drop (wj.length - (1 + r)))) ((xFrom (j := 1 + r + 3) (xLoc st.ns rtold) (xAdd (c := (1 + r + 3 : Nat)) (xLoc st.ns hPr') xInt (by omega)) (by simp; omega) (by omega)).mono fun _ v _ _ _ q => by rw [ed] at q; exact q) (xStr dots)
          (fun v u rv ru => c_concat hA1 S₃ (by rw [show sizeLine = 16777216 by decide]; simp; omega) rv ru))
        (fun v u rv ru => c_eqT hA1 S₃ rv ru)) rfl) fun s₄ st => ?_)
      have hsucc := shTo_succ ws i j r
      rw [hwi, hwj] at hsucc
      cases hok : okSh wi wj (1 + r) with
      | false =>
        rw [hok] at hsucc
        simp only [Bool.false_eq_true, if_false, List.append_nil] at hsucc
        exact wpAny_execs_nil (wpAny_execs_nil ⟨rfl, k (upd (upd m' "size" vr) "told" told) _ _ ⟨h1, h2, h3, h4, te, ys, rfl, by rw [hsucc]; exact hps⟩ st⟩)
      | true =>
        rw [hok] at hsucc
        simp only [if_true] at hsucc
        refine wpAny_execs_cons (ex_appendR (pre := (I2, p2) :: (I, p) :: te) (post := []) st (xLoc st.ns rfl (hv := h3)) (xTuple2 (R₁ := isI (j : Int)) (R₂ := isI ((1 + r : Nat) : Int)) (xLoc st.ns hP (hv := h4)) (xLoc st.ns hPr')) (by omega) fun v h₁ h₂ t₂ k₁ k₂ rv => ?_)
        obtain ⟨a, u₁, u₂, rfl, ha, ea, r1, r2⟩ := rv
        have ha' : s₄.heap.get? a = none := by
          cases e : s₄.heap.get? a with
          | none => rfl
          | some o => have := k₁ _ _ e; rw [ha] at this; cases this
        have st' := (st.push (p := (· = tup u₁ u₂)) (tk := t₂) (k₁.trans k₂) ha' ea rfl (by simp)).perm (os' := (I2, p2) :: (I, p) :: (a, (· = tup u₁ u₂)) :: (te ++ [(D, LObj ys)])) (List.perm_middle (l₁ := [(I2, p2), (I, p)]) (l₂ := te ++ [(D, LObj ys)]) (a := (a, (· = tup u₁ u₂)))).symm
        refine ⟨(I2, p2) :: (I, p) :: (a, (· = tup u₁ u₂)) :: te, [], st', fun s₅ st => wpAny_execs_nil (wpAny_execs_nil ⟨rfl, k (upd (upd m' "size" vr) "told" told) _ _ ⟨h1, h2, h3, h4, (a, (· = tup u₁ u₂)) :: te, ys.push (.ref a), rfl, ?_⟩ st⟩)⟩
        rw [hsucc, ← List.append_assoc, Array.toList_push]
        exact Paired.append (hps.mono fun q hq => List.mem_cons_of_mem _ hq) (.cons ⟨a, u₁, u₂, rfl, List.mem_cons_self .., r1, r2⟩ .nil)
    · rintro m' os' s' ⟨h1, h2, h3, h4, te, ys, rfl, hps⟩ st
      refine wpAny_execs_nil ⟨rfl, k m' _ _ ⟨h1, h2, h3, te, ys, rfl, ?_⟩ st⟩
      rw [List.range_succ, List.flatMap_append]
      simpa using hps
  · rintro m' os' s' ⟨h1, h2, h3, te, ys, rfl, hps⟩ st
    refine wpAny_execs_cons (wpAny_Return_some ((xLoc st.ns (v := .ref D) (R := (· = .ref D)) rfl (hv := h3)).wp (Sub.refl _) fun v h' tk hk r => ?_))
    subst r
    have st' := st.quiet (tk := tk) hk
    have e : sharedL ws i = (List.range items.size).flatMap fun j => shTo ws i j (shN ws i j) := by rw [hlen]; rfl
    refine Ret.of st' ⟨D, ys, te, rfl, st'.made, ?_⟩
    rw [e]; exact hps
end
end Mine
end

/-! part M13 -/
section
open PySem PySem.W PyProof.Rows PySem.Calls
set_option linter.unusedVariables false
set_option Elab.async false
set_option maxRecDepth 100000
namespace Mine
section
variable {X : List Addr} {s₀ s : Shared} {L : Addr} {m : Map} {os : OS}
theorem St.extBut (x : St X s₀ L m os s) {h' : Heap} {tk : Nat} {c : Addr} (k : Heap.ExtBut c s.heap h') (hL : c ≠ L) (hos : ∀ p ∈ os, p.1 ≠ c) (hn : s₀.heap.get? c = none) : St X s₀ L m os { s with heap := h', toks := tk } := by
  obtain ⟨h, t, rfl⟩ := x.same
  refine ⟨⟨h', tk, rfl⟩, x.ns.extBut k (Ne.symm hL), fun b o hb e => k b o (fun eb => ?_) (x.keep b o hb e), x.new, fun p hp => let ⟨o, e, q⟩ := x.mem p hp; ⟨o, k _ _ (hos p hp) e, q⟩, x.fresh, x.nodup⟩
  rw [eb, hn] at e; cases e
theorem St.pushAll (x : St X s₀ L m os s) : ∀ {te : OS} {h' : Heap} {tk : Nat}, Sub s.heap h' → Made te s.heap h' → (∀ p ∈ te, p.1 ∉ X) → St X s₀ L m (te ++ os) { s with heap := h', toks := tk } := by
  intro te
  induction te with
  | nil => intro h' tk k _ _; exact x.quiet k
  | cons q te ih =>
    intro h' tk k M hX
    have y := ih (tk := tk) k ⟨fun p hp => M.mem p (List.mem_cons_of_mem _ hp), fun p hp => M.fresh p (List.mem_cons_of_mem _ hp), (List.nodup_cons.mp M.nodup).2⟩ fun p hp => hX p (List.mem_cons_of_mem _ hp)
    have hq := M.fresh q (List.mem_cons_self ..)
    refine ⟨y.same, y.ns, y.keep, y.new, fun p hp => ?_, fun p hp => ?_, ?_⟩
    · rcases List.mem_cons.mp hp with rfl | hp
      · exact M.mem p (List.mem_cons_self ..)
      · exact y.mem p hp
    · rcases List.mem_cons.mp hp with rfl | hp
      · refine ⟨fun e => ?_, .inl ?_⟩
        · obtain ⟨oL, _, _, e', _⟩ := x.ns
          rw [← e, hq] at e'; cases e'
        · cases e : s₀.heap.get? p.1 with
          | none => rfl
          | some o' => have := x.keep p.1 o' (hX p (List.mem_cons_self ..)) e; rw [hq] at this; cases this
      · exact y.fresh p hp
    · show ((q :: (te ++ os)).map (·.1)).Nodup
      rw [List.map_cons]
      refine List.nodup_cons.mpr ⟨fun hm => ?_, y.nodup⟩
      rw [List.map_append] at hm
      rcases List.mem_append.mp hm with hm | hm
      · exact (List.nodup_cons.mp M.nodup).1 hm
      · obtain ⟨p, hp, e⟩ := List.mem_map.mp hm
        obtain ⟨o', e', _⟩ := x.mem p hp
        rw [e, hq] at e'; cases e'
end

section
variable {prog : Program} {w : World} {A : Around} {X : List Addr} {s₀ s : Shared} {L : Addr} {m : Map} {os : OS}
/-- any loop over what an iterator gives, by what holds between the turns -/
theorem walk_St {c : Code} {R : Result → Shared → Prop} {EE : Value → Shared → Prop} {B : Value → (Shared → Prop) → Shared → Prop} {I : Addr} {n : Nat} {P : Nat → Value → Prop} {old : List Addr} {T : Nat → Heap → Prop} {oI : Obj}
    (J : Nat → Map → OS → Prop) (hB : ∀ v (Q₁ Q₂ : Shared → Prop) s, (∀ s', Q₁ s' → Q₂ s') → B v Q₁ s → B v Q₂ s)
    (hloop : ∀ (Iv : Nat → Shared → Prop), (∀ k s, Iv k s → wpAny (model prog w) A (pyNext (.ref I)) (fun r s₁ => match r with | none => R (.ok .next) s₁ | some v => B v (fun s' => ∃ m, m < k ∧ Iv m s') s₁) EE s) → ∀ k s, Iv k s → codeAny (model prog w) A c R s)
    (W : Walks prog w A I (I :: old) [I] n P T) (hl : ∀ i h₂, T i h₂ → ∃ o, h₂.get? I = some o ∧ plainIt o) (hT : T 0 s.heap)
    (hst : St X s₀ L m ((I, (· = oI)) :: os) s)
    (hold : ∀ b ∈ old, ∃ o, ∀ i m' os' s', J i m' os' → St X s₀ L m' os' s' → s'.heap.get? b = some o) (h0 : J 0 m os)
    (turn : ∀ i v m' os' s' p (Q' : Shared → Prop), i < n → P i v → (∀ o, p o → plainIt o) → J i m' os' → St X s₀ L m' ((I, p) :: os') s' → (∀ m'' os'' s'', J (i + 1) m'' os'' → St X s₀ L m'' ((I, p) :: os'') s'' → Q' s'') → B v Q' s')
    (done : ∀ m' os' s', J n m' os' → St X s₀ L m' os' s' → R (.ok .next) s') : codeAny (model prog w) A c R s := by
  refine hloop (fun k s' => ∃ i m' os' oI, k = n + 1 - i ∧ i ≤ n ∧ J i m' os' ∧ St X s₀ L m' ((I, (· = oI)) :: os') s' ∧ T i s'.heap) ?_ (n + 1) s ⟨0, m, os, oI, rfl, Nat.zero_le _, h0, hst, hT⟩
  rintro k s' ⟨i, m', os', oI, rfl, hi, hJ, st, hTi⟩
  by_cases hlt : i < n
  · refine W.item i s' _ _ hlt hTi fun v h₂ t₂ hP hT₂ hk₂ => ?_
    obtain ⟨oI', hoI', hpI'⟩ := hl _ _ hT₂
    have ext : Heap.ExtBut I s'.heap h₂ := fun b o hb e => hk₂ b o (by intro q; exact hb (List.mem_singleton.mp q)) e
    have st₂ : St X s₀ L m' ((I, (· = oI')) :: os') { s' with heap := h₂, toks := t₂ } := St.setAt (pre := []) st ext hoI' rfl
    refine turn i v m' os' _ (· = oI') _ hlt hP (fun o e => by rw [show o = oI' from e]; exact hpI') hJ st₂ fun m'' os'' s'' hJ'' st'' => ?_
    refine ⟨n + 1 - (i + 1), by omega, i + 1, m'', os'', oI', rfl, hlt, hJ'', st'', W.frame _ _ _ hT₂ fun b hb o e => ?_⟩
    rcases List.mem_cons.mp hb with rfl | hb
    · obtain ⟨o', e', rfl⟩ := st''.mem _ (List.mem_cons_self ..)
      rw [hoI'] at e; cases e
      exact e'
    · obtain ⟨ob, hob⟩ := hold b hb
      have e1 := hob i m' os' _ hJ (St.drop (pre := []) st₂)
      have e2 := hob (i + 1) m'' os'' _ hJ'' (St.drop (pre := []) st'')
      have e1' : h₂.get? b = some ob := e1
      rw [e1'] at e; cases e
      exact e2
  · have hin : i = n := by omega
    subst hin
    refine W.done s' _ _ hTi fun h₂ t₂ hk₂ => ?_
    have ext : Heap.ExtBut I s'.heap h₂ := fun b o hb e => hk₂ b o (by intro q; exact hb (List.mem_singleton.mp q)) e
    exact done m' os' _ hJ (st.lose ext)
end

section
variable {prog : Program} {w : World} {A : Around} {E : Value → Shared → Prop} {s : Shared} {env : Env} {h : Heap}
/-- the frame of a comprehension: its list, its names -/
theorem comp_block {elt iter : Expr} {x : Str} {px : Pos} {ifs : List Expr} {rest : List Comprehension} {scope : Scope} {pos posc : Pos} {cl : List (Str × Addr)} {n : Nat} {P : Nat → Value → Prop} {old : List Addr} {Fin : Array Value → OS → Prop}
    {use : Option (Value → Sem Unit)} {Q : Value → Shared → Prop} (hit : EvIt prog w A h (eval iter env) n P old) (hsub : Sub h s.heap)
    (hrun : ∀ I T C D oI s₄ (R : Result → Shared → Prop), Walks prog w A I (I :: old) [I] n P T → T 0 s₄.heap → (∀ i h₂, T i h₂ → ∃ o, h₂.get? I = some o ∧ plainIt o) → I ∉ old →
      St [] s C (fun _ => none) [(I, (· = oI)), (D, LObj #[])] s₄ → (∀ m' s' ys te, Fin ys te → St [] s C m' ((D, LObj ys) :: te) s' → R (.ok .next) s') →
      codeAny (model prog w) A (.compLoop (.ListComp elt (⟨.Name x px, iter, ifs, 0⟩ :: rest) scope pos) 0 (.ref I) (.ref D) (compEnvC scope cl C env)) R s₄)
    (fin : ∀ D C ys te m' s', Fin ys te → St [] s C m' ((D, LObj ys) :: te) s' → compPost (model prog w) A E use Q (.ref D) C (.ok .next) s')
    (hclos : closureFor scope env = pure cl) (hcell : ∀ y ∈ scope.names, y.2 ≠ .cell) (hkind : scope.kind = .function) (hnames : ∀ y ∈ scope.names, y.2 = .local → scope.names.lookup y.1 = some .local)
    (hs : ∀ x, foldedSetIterable iter env x = pure x) :
    wpAny (model prog w) A (comprehension (.ListComp elt (⟨.Name x px, iter, ifs, 0⟩ :: rest) scope pos) scope env posc (newList []) false (eval iter env) use) Q E s := by
  refine wpAny_comprehension_free (use := use) rfl hs hclos hkind hnames (hit s _ E hsub fun I h₁ t₁ T k₁ hI hIo hfp W hT hl => ?_)
  obtain ⟨oI, hoI, hpI⟩ := hl 0 h₁ hT
  refine wpAny_newObj_type (wpAny_newFunctionEnv hcell (by intro y hy; simp at hy) (fun h₂ hns₂ hsb₂ => ?_) hkind)
  dsimp only at hns₂ hsb₂ ⊢
  generalize hH2 : h₁.push { cls := .type "list", dict := none, data := .seq ([] : List Value).toArray } = H2 at hns₂ hsb₂ ⊢
  have hC : H2.objs.size = h₁.objs.size + 1 := by rw [← hH2, Heap.size_push]
  have hDC : h₁.objs.size ≠ H2.objs.size := by rw [hC]; exact Nat.ne_of_lt (Nat.lt_succ_self _)
  have old : ∀ b o, h₁.get? b = some o → h₂.get? b = some o := fun b o e => hsb₂.extBut b o (by have := Heap.lt_size e; rw [hC]; exact Nat.ne_of_lt (Nat.lt_succ_of_lt this)) (Heap.get?_push_of_some _ (hH2 ▸ Heap.get?_push_of_some _ e))
  have hacc : h₂.get? h₁.objs.size = some { cls := .type "list", data := .seq #[] } := hsb₂.extBut _ _ hDC (Heap.get?_push_of_some _ (hH2 ▸ Heap.get?_push_size _ rfl))
  have hfs : ∀ a, h₁.objs.size ≤ a → s.heap.get? a = none := fun a ha => by
    cases e : s.heap.get? a with
    | none => rfl
    | some o => exact absurd (Heap.lt_size (k₁ _ _ e)) (Nat.not_lt.mpr ha)
  have hIlt := hfp I (List.mem_cons_self ..)
  have st : St [] s H2.objs.size (fun _ => none) [(I, (· = oI)), (h₁.objs.size, LObj #[])] { s with heap := h₂, toks := t₁ + ([] : List (Str × Value)).length } := by
    refine ⟨⟨_, _, rfl⟩, hns₂, fun b o _ e => old b o (k₁ b o e), hfs _ (by rw [hC]; exact Nat.le_succ _), fun p hp => ?_, fun p hp => ?_, ?_⟩
    · rcases List.mem_cons.mp hp with rfl | hp
      · exact ⟨oI, old _ _ hoI, rfl⟩
      · rw [List.mem_singleton.mp hp]; exact ⟨_, hacc, 0, rfl⟩
    · rcases List.mem_cons.mp hp with rfl | hp
      · exact ⟨by rw [hC]; exact Nat.ne_of_lt (Nat.lt_succ_of_lt hIlt), .inl hI⟩
      · rw [List.mem_singleton.mp hp]; exact ⟨hDC, .inl (hfs _ (Nat.le_refl _))⟩
    · simp only [List.map_cons, List.map_nil]
      refine List.nodup_cons.mpr ⟨fun hm => ?_, by simp⟩
      exact Nat.ne_of_lt hIlt (List.mem_singleton.mp hm)
  have hT₂ : T 0 h₂ := W.frame _ _ _ hT fun b _ o e => old b o e
  have loop := hrun I T H2.objs.size h₁.objs.size oI _ (compPost (model prog w) A E use Q (.ref h₁.objs.size) H2.objs.size) W hT₂ hl hIo st (fun m' s' ys te hF st' => fin _ _ ys te m' s' hF st')
  exact codeAny_compStart_list loop (W.self 0 _ _ _ hT₂ loop)
/-- its value -/
theorem comp_val {elt iter : Expr} {x : Str} {px : Pos} {ifs : List Expr} {rest : List Comprehension} {scope : Scope} {pos : Pos} {cl : List (Str × Addr)} {n : Nat} {P : Nat → Value → Prop} {old : List Addr} {Fin : Array Value → OS → Prop}
    (hit : EvIt prog w A h (eval iter env) n P old)
    (hrun : ∀ (s : Shared) I T C D oI s₄ (R : Result → Shared → Prop), Sub h s.heap → Walks prog w A I (I :: old) [I] n P T → T 0 s₄.heap → (∀ i h₂, T i h₂ → ∃ o, h₂.get? I = some o ∧ plainIt o) → I ∉ old →
      St [] s C (fun _ => none) [(I, (· = oI)), (D, LObj #[])] s₄ → (∀ m' s' ys te, Fin ys te → St [] s C m' ((D, LObj ys) :: te) s' → R (.ok .next) s') →
      codeAny (model prog w) A (.compLoop (.ListComp elt (⟨.Name x px, iter, ifs, 0⟩ :: rest) scope pos) 0 (.ref I) (.ref D) (compEnvC scope cl C env)) R s₄)
    (hclos : closureFor scope env = pure cl) (hcell : ∀ y ∈ scope.names, y.2 ≠ .cell) (hkind : scope.kind = .function) (hnames : ∀ y ∈ scope.names, y.2 = .local → scope.names.lookup y.1 = some .local)
    (hs : ∀ x, foldedSetIterable iter env x = pure x) :
    EvR prog w A h (eval (.ListComp elt (⟨.Name x px, iter, ifs, 0⟩ :: rest) scope pos) env) (fun h₁ v h₂ => ∃ D ys te, v = .ref D ∧ Fin ys te ∧ Made ((D, LObj ys) :: te) h₁ h₂) :=
  EvR.of fun s Q E hsub k => by
    rw [eval_ListComp]
    refine comp_block (Fin := Fin) (use := none) hit hsub (fun I T C D oI s₄ R => hrun s I T C D oI s₄ R hsub) (fun D C ys te m' s' hF st => ?_) hclos hcell hkind hnames hs
    refine ⟨m', st.ns, fun h' hs' => ?_⟩
    have st2 := st.made
    obtain ⟨h₄, t₄, rfl⟩ := st.same
    have hne : ∀ p ∈ (D, LObj ys) :: te, p.1 ≠ C := fun p hp => (st.fresh p hp).1
    exact k (.ref D) h' t₄ (fun b o e => hs'.extBut b o (by rintro rfl; rw [st.new] at e; cases e) (st.sub _ _ e)) ⟨D, ys, te, rfl, hF, ⟨fun p hp => let ⟨o, e, r⟩ := st2.mem p hp; ⟨o, hs'.extBut _ _ (hne p hp) e, r⟩, st2.fresh, st2.nodup⟩⟩
/-- y = [..], y a local: the store comes first -/
theorem ex_assign_comp {X : List Addr} {s₀ : Shared} {m : Map} {os : OS} {y : Str} {py spos : Pos} {elt iter : Expr} {x : Str} {px : Pos} {ifs : List Expr} {rest : List Comprehension} {scope : Scope} {pos : Pos} {cl : List (Str × Addr)} {n : Nat} {P : Nat → Value → Prop} {old : List Addr}
    {Fin : Array Value → OS → Prop} {Q : Flow → Shared → Prop} (hst : St X s₀ env.locals m os s) (hX : ∀ a, s.heap.get? a = none → a ∉ X)
    (hit : EvIt prog w A s.heap (eval iter env) n P old)
    (hrun : ∀ I T C D oI s₄ (R : Result → Shared → Prop), Walks prog w A I (I :: old) [I] n P T → T 0 s₄.heap → (∀ i h₂, T i h₂ → ∃ o, h₂.get? I = some o ∧ plainIt o) → I ∉ old →
      St [] s C (fun _ => none) [(I, (· = oI)), (D, LObj #[])] s₄ → (∀ m' s' ys te, Fin ys te → St [] s C m' ((D, LObj ys) :: te) s' → R (.ok .next) s') →
      codeAny (model prog w) A (.compLoop (.ListComp elt (⟨.Name x px, iter, ifs, 0⟩ :: rest) scope pos) 0 (.ref I) (.ref D) (compEnvC scope cl C env)) R s₄)
    (k : ∀ D ys te s', Fin ys te → St X s₀ env.locals (upd m y (.ref D)) ((D, LObj ys) :: te ++ os) s' → Q .next s')
    (hsw : swapsWith (.ListComp elt (⟨.Name x px, iter, ifs, 0⟩ :: rest) scope pos) (some (.Name y py)) spos.line env = pure true)
    (hclos : closureFor scope env = pure cl) (hcell : ∀ y ∈ scope.names, y.2 ≠ .cell) (hkind : scope.kind = .function) (hnames : ∀ y ∈ scope.names, y.2 = .local → scope.names.lookup y.1 = some .local)
    (hs : ∀ x, foldedSetIterable iter env x = pure x) (hy : env.kindOf y = some .local) (hp : (env.scope.kind == .class || (env.scope.kind == .module && env.locals != env.globals)) = false) :
    wpAny (model prog w) A (exec (.Assign [.Name y py] (.ListComp elt (⟨.Name x px, iter, ifs, 0⟩ :: rest) scope pos) spos) env) Q E s := by
  rw [exec_Assign_Name_used _ _ _ _ hsw]
  refine wpAny_bind (wpAny_standAt (wpAny_bind ?_))
  show wpAny _ A (do let _ ← comprehension (.ListComp elt (⟨.Name x px, iter, ifs, 0⟩ :: rest) scope pos) scope env _ (newList []) false (eval iter env) (some (assign (.Name y py) env))) _ _ s
  refine wpAny_bind (wpAny_mono (comp_block (Fin := Fin) (use := some (assign (.Name y py) env)) (Q := fun _ s' => Q .next s') hit (Sub.refl _) hrun (fun D C ys te m' s' hF st => ?_) hclos hcell hkind hnames hs) (fun _ s' hq => wpAny_pure (wpAny_pure hq)) fun _ _ e => e)
  have hCs : s.heap.get? C = none := st.new
  have hC0 : s₀.heap.get? C = none := by
    cases e : s₀.heap.get? C with
    | none => rfl
    | some o =>
      have := hst.keep C o (hX C hCs) e
      rw [hCs] at this; cases this
  have hLC : C ≠ env.locals := fun e => by obtain ⟨oL, _, _, e', _⟩ := hst.ns; rw [← e, hCs] at e'; cases e'
  have out : St X s₀ env.locals m ((D, LObj ys) :: te ++ os) s' := by
    obtain ⟨h₄, t₄, rfl⟩ := st.same
    exact hst.pushAll (tk := t₄) st.sub st.made fun p hp => hX _ (st.made.fresh p hp)
  have hne : ∀ p ∈ (D, LObj ys) :: te ++ os, p.1 ≠ C := fun p hp => by
    rcases List.mem_append.mp hp with hp | hp
    · exact (st.fresh p hp).1
    · intro e; obtain ⟨o, e', _⟩ := hst.mem p hp; rw [e, hCs] at e'; cases e'
  show wpAny _ A (assign (.Name y py) env (.ref D)) _ _ _
  refine wpAny_assign_Name (wpAny_storeName_local hy out.ns (fun h₂ hn₂ hs₂ => ?_) hp)
  refine ⟨m', st.ns.sameBut hs₂ hLC, fun h₃ hs₃ => ?_⟩
  have o2 : St X s₀ env.locals (upd m y (.ref D)) ((D, LObj ys) :: te ++ os) { s' with heap := h₂, toks := s'.toks + 1 } := out.local hn₂ hs₂.extBut
  exact k D ys te _ hF (o2.extBut (tk := s'.toks + 1) hs₃.extBut hLC hne hC0)

/-- one clause, no test -/
theorem run1 {elt iter : Expr} {x : Str} {px : Pos} {scope : Scope} {pos : Pos} {cl : List (Str × Addr)} {n : Nat} {P : Nat → Value → Prop} {old : List Addr} {Fin : Array Value → OS → Prop} (J : Nat → Array Value → OS → Prop)
    {I C D : Addr} {T : Nat → Heap → Prop} {oI : Obj} {s₄ : Shared} {R : Result → Shared → Prop} (h0 : J 0 #[] []) (hfin : ∀ ys te, J n ys te → Fin ys te) (hsz : ∀ i ys te, J i ys te → ys.size ≤ 100000)
    (hx : scope.names.lookup x = some .local) (hkind : scope.kind = .function) (hold : ∀ b ∈ old, ∃ o, s.heap.get? b = some o)
    (step : ∀ (i : Nat) (v : Value) (ys : Array Value) (te : OS) (s' : Shared) (m' : Map), i < n → P i v → J i ys te → Sub s.heap s'.heap → (∀ p ∈ te, ∃ o, s'.heap.get? p.1 = some o ∧ p.2 o) → s'.heap.Ns C m' → m' x = some v →
      EvR prog w A s'.heap (eval elt (compEnvC scope cl C env)) (fun h₁ y h₂ => ∃ te', Made te' h₁ h₂ ∧ J (i + 1) (ys.push y) (te' ++ te)))
    (W : Walks prog w A I (I :: old) [I] n P T) (hT : T 0 s₄.heap) (hl : ∀ i h₂, T i h₂ → ∃ o, h₂.get? I = some o ∧ plainIt o)
    (st : St [] s C (fun _ => none) [(I, (· = oI)), (D, LObj #[])] s₄) (k : ∀ m' s' ys te, Fin ys te → St [] s C m' ((D, LObj ys) :: te) s' → R (.ok .next) s') :
    codeAny (model prog w) A (.compLoop (.ListComp elt [⟨.Name x px, iter, [], 0⟩] scope pos) 0 (.ref I) (.ref D) (compEnvC scope cl C env)) R s₄ := by
  refine walk_St (L := C) (B := fun v Q' s₁ => ∀ E', wpAny (model prog w) A (assign (.Name x px) (compEnvC scope cl C env) v) (fun _ s₂ => wpAny (model prog w) A (eval elt (compEnvC scope cl C env)) (fun y s₃ =>
      wpAny (model prog w) A (call (.builtin "list.append") [.ref D, y]) (fun _ s₄ => Q' s₄) E' s₃) E' s₂) E' s₁)
    (fun i m' os' => ∃ ys te, os' = (D, LObj ys) :: te ∧ J i ys te)
    (fun v Q₁ Q₂ s hq hb E' => wpAny_mono (hb E') (fun _ _ h1 => wpAny_mono h1 (fun _ _ h2 => wpAny_mono h2 (fun _ s' h3 => hq s' h3) fun _ _ e => e) fun _ _ e => e) fun _ _ e => e)
    (fun Iv turn k s hI => codeAny_compLoop_list Iv (fun k s hI => wpAny_mono (turn k s hI) (fun r s₁ h₁ => by
      cases r with
      | none => exact h₁
      | some v => exact h₁ _) fun _ _ e => e) k hI) W hl hT st (fun b hb => ?_) ⟨#[], [], rfl, h0⟩ ?_ ?_
  · obtain ⟨o, ho⟩ := hold b hb
    exact ⟨o, fun i m' os' s' _ st' => st'.sub _ _ ho⟩
  · rintro i v m' os' s' p Q' hi hP _ ⟨ys, te, rfl, hJ⟩ st kk E'
    refine wpAny_assign_Name (ex_store (env := compEnvC scope cl C env) st (fun s₂ st => ?_) (lookup_relabel_local hx) (by simp [compEnvC, relabel, hkind]))
    refine (step i v ys te s₂ _ hi hP hJ st.sub (fun q hq => st.mem q (List.mem_cons_of_mem _ (List.mem_cons_of_mem _ hq))) st.ns (by simp [upd])).wp (Sub.refl _) fun y h₃ t₃ k₃ r₃ => ?_
    obtain ⟨te', M, hJ'⟩ := r₃
    have st₃ := (st.pushAll (tk := t₃) k₃ M (by simp)).perm (os' := (I, p) :: (D, LObj ys) :: (te' ++ te)) (by
      have h1 : (te' ++ (I, p) :: (D, LObj ys) :: te).Perm ((I, p) :: (te' ++ (D, LObj ys) :: te)) := List.perm_middle
      exact h1.trans (List.Perm.cons _ List.perm_middle))
    refine wpAny_list_append_plain (hsz := by have := hsz i ys te hJ; rw [show sizeLine = 16777216 by decide]; omega) (st₃.list (items := ys) (List.mem_cons_of_mem _ (List.mem_cons_self ..))) fun h' hl' hs' => ?_
    obtain ⟨nn, e⟩ := hl'
    exact kk _ _ _ ⟨ys.push y, te' ++ te, rfl, hJ'⟩ (St.setAt (pre := [(I, p)]) (tk := t₃) st₃ hs'.extBut e ⟨nn, rfl⟩)
  · rintro m' os' s' ⟨ys, te, rfl, hJ⟩ st
    exact k m' s' ys te (hfin ys te hJ) st
end
end Mine
end

/-! part M14 -/
section
open PySem PySem.W PyProof.Rows PySem.Calls
set_option linter.unusedVariables false
set_option Elab.async false
set_option maxRecDepth 100000
namespace Mine
abbrev Ints (is : List Int) (vs : List Value) : Prop := Paired isI is vs
theorem ints_all : ∀ {is : List Int} {vs : List Value}, Ints is vs → (∀ v ∈ vs, ∃ a t, v = .int a t) ∧ numsOf vs = is
  | _, _, .nil => ⟨by simp, rfl⟩
  | _, _, .cons (a := a) (b := b) h t => by
    obtain ⟨u, rfl⟩ := h
    obtain ⟨h1, h2⟩ := ints_all t
    refine ⟨fun v hv => ?_, by rw [numsOf, h2]⟩
    rcases List.mem_cons.mp hv with rfl | hv
    · exact ⟨a, u, rfl⟩
    · exact h1 v hv
section
variable {prog : Program} {w : World} {A : Around} {h : Heap} {env : Env} {e : Expr} {pos np : Pos}
theorem ev_sum {l : Addr} {items : Array Value} {is : List Int} (hA : A.handled = none) (hl : h.IsList l items) (hi : Ints is items.toList) : Ev prog w A h (call (.builtin "sum") [.ref l]) (isI is.sum) := by
  obtain ⟨h1, h2⟩ := ints_all hi
  have hall : AllInts items := fun v hv => h1 v (by simpa using hv)
  obtain ⟨xs, rfl⟩ := hall.items
  refine EvR.of fun s Q E hsub k => sum_intListG hA (hl.at fun o e => hsub _ _ e) fun h' tk t' hk => ?_
  have e : (numsOf (intItems xs).toList).sum = is.sum := by rw [h2]
  rw [nums_intItems] at e
  refine k _ h' tk hk ⟨t', ?_⟩
  rw [preSum_eq, List.take_of_length_le (by simp), e]
end
section
variable {prog : Program} {w : World} {A : Around} {E : Value → Shared → Prop} {X : List Addr} {s₀ s : Shared} {m : Map} {os : OS} {env : Env}
theorem ex_unpack2 {a b : Str} {pa pb pt : Pos} {k₀ : Nat} {t : Addr} {u v : Value} {Q : Unit → Shared → Prop} (hA : A.handled = none) (hst : St X s₀ env.locals m os s) (ht : s.heap.IsTuple t #[u, v])
    (k : ∀ s', St X s₀ env.locals (upd (upd m a u) b v) os s' → Q () s')
    (ha : env.kindOf a = some .local := by rfl) (hb : env.kindOf b = some .local := by rfl) (hp : (env.scope.kind == .class || (env.scope.kind == .module && env.locals != env.globals)) = false := by rfl) :
    wpAny (model prog w) A (assign (.Tuple [.Name a pa, .Name b pb] k₀ pt) env (.ref t)) Q E s := by
  refine wpAny_assign_Tuple hA ht rfl rfl fun h' hx => ?_
  have st' := hst.quiet (tk := s.toks) (h' := h') fun b o e => hx b o (Nat.ne_of_lt (Heap.lt_size e)) e
  show wpAny _ A (do holding [v] (assign (.Name a pa) env u); do holding [] (assign (.Name b pb) env v); pure ()) _ _ _
  refine wpAny_bind (wpAny_holding (wpAny_assign_Name (ex_store st' (fun s₂ st₂ => ?_) ha hp)))
  refine wpAny_bind (wpAny_holding (wpAny_assign_Name (ex_store st₂ (fun s₃ st₃ => ?_) hb hp)))
  exact wpAny_pure (k _ st₃)
theorem go_plain {elts : List Expr} {k₀ : Nat} {pt : Pos} {I a : Addr} {o : Obj} {Q : Unit → Shared → Prop} (ho : s.heap.get? I = some o) (hp : plainIt o) (h : Q () s) : wpAny (model prog w) A (letOwnedTupleGo (.Tuple elts k₀ pt) (.ref I) (.ref a)) Q E s := by
  unfold letOwnedTupleGo
  refine wpAny_bind (wpAny_load ho ?_)
  obtain ⟨c, d, dt, sl⟩ := o
  rcases hp with hp | hp | hp <;> (simp only at hp; subst hp; cases dt <;> exact wpAny_pure h)
/-- for a, b in ..: -/
theorem ex_forP {xa xb : Str} {pa pb pt : Pos} {k₀ : Nat} {iter : Expr} {body : List Stmt} {pos : Pos} {n : Nat} {P : Nat → Value → Prop} {old : List Addr} {Q : Flow → Shared → Prop} (J : Nat → Map → OS → Prop) (hA : A.handled = none)
    (hst : St X s₀ env.locals m os s) (hit : EvIt prog w A s.heap (eval iter env) n P old) (hX : ∀ I, s.heap.get? I = none → I ∉ X)
    (hold : ∀ b ∈ old, ∃ o, ∀ i m' os' s', J i m' os' → St X s₀ env.locals m' os' s' → s'.heap.get? b = some o) (h0 : J 0 m os)
    (turn : ∀ i v m' os' s' I p (Q' : Shared → Prop) (E' : Value → Shared → Prop), i < n → P i v → J i m' os' → St X s₀ env.locals m' ((I, p) :: os') s' →
      (∀ m'' os'' s'', J (i + 1) m'' os'' → St X s₀ env.locals m'' ((I, p) :: os'') s'' → Q' s'') →
      ∃ T u₁ u₂, v = .ref T ∧ s'.heap.IsTuple T #[u₁, u₂] ∧ ∀ s₂, St X s₀ env.locals (upd (upd m' xa u₁) xb u₂) ((I, p) :: os') s₂ → wpAny (model prog w) A (execs body env) (fun f s₃ => f = .next ∧ Q' s₃) E' s₂)
    (done : ∀ m' os' s', J n m' os' → St X s₀ env.locals m' os' s' → Q .next s')
    (hs : ∀ x, foldedSetIterable iter env x = pure x := by intro _; rfl) (ha : env.kindOf xa = some .local := by rfl) (hb : env.kindOf xb = some .local := by rfl)
    (hp : (env.scope.kind == .class || (env.scope.kind == .module && env.locals != env.globals)) = false := by rfl) :
    wpAny (model prog w) A (exec (.For (.Tuple [.Name xa pa, .Name xb pb] k₀ pt) iter body [] pos) env) Q E s := by
  refine wpAny_For (hit s _ E (Sub.refl _) fun I h₁ t₁ T k₁ hI hIo hfp W hT hl => ?_) hs
  obtain ⟨oI, hoI, _⟩ := hl 0 h₁ hT
  refine walk_St (L := env.locals) (X := X) (s₀ := s₀) (m := m) (os := os) (oI := oI)
    (B := fun v Q' s₁ => ∀ E', wpAny (model prog w) A (letOwnedTupleGo (.Tuple [.Name xa pa, .Name xb pb] k₀ pt) (.ref I) v) (fun _ s₁' => wpAny (model prog w) A (assign (.Tuple [.Name xa pa, .Name xb pb] k₀ pt) env v) (fun _ s₂ => wpAny (model prog w) A (execs body env) (fun f s₃ => f = .next ∧ Q' s₃) E' s₂) E' s₁') E' s₁) J
    (fun v Q₁ Q₂ s hq hb E' => wpAny_mono (hb E') (fun _ _ h0 => wpAny_mono h0 (fun _ _ h1 => wpAny_mono h1 (fun f s' h3 => ⟨h3.1, hq s' h3.2⟩) fun _ _ e => e) fun _ _ e => e) fun _ _ e => e)
    (fun Iv turn k s hI => codeAny_forLoop_any Iv (fun k s hI => wpAny_mono (turn k s hI) (fun r s₁ h₁ => by
      cases r with
      | none => exact wpAny_execs_nil h₁
      | some v => exact wpAny_mono (h₁ _) (fun _ _ h0 => wpAny_mono h0 (fun _ _ h1 => wpAny_mono h1 (fun f s' h3 => by obtain ⟨rfl, h3⟩ := h3; exact h3) fun _ _ e => e) fun _ _ e => e) fun _ _ e => e) fun _ _ e => e) k hI) W hl hT
    (hst.push k₁ hI hoI rfl (hX I hI)) hold h0 ?_ done
  intro i v m' os' s' p Q' hi hP hpl hJ st kk E'
  obtain ⟨Tu, u₁, u₂, rfl, htu, kb⟩ := turn i v m' os' s' I p Q' E' hi hP hJ st kk
  obtain ⟨o, eo, hpo⟩ := st.mem _ (List.mem_cons_self ..)
  exact go_plain eo (hpl o hpo) (ex_unpack2 hA st htu (fun s₂ st₂ => kb s₂ st₂) ha hb hp)
end
end Mine
end

/-! part P2 -/
section
open PySem PySem.W PyProof.Rows PySem.Calls
set_option linter.unusedVariables false
set_option Elab.async false
set_option maxRecDepth 100000
namespace Mine
/-! what _law_foretold reckons -/
def wl (ws : List (List Nat)) (i : Nat) : Nat := (ws.getD i []).length
def gAt (g : List (List Int)) (j k : Nat) : Int := (g.getD j []).getD k 0
def numTo (g : List (List Int)) (back : Nat) (ps : List (Nat × Nat)) (a : Int) : Int := ps.foldl (fun acc jt => acc - gAt g jt.1 (back + jt.2)) a
def numAt (ws : List (List Nat)) (l : List Int) (g : List (List Int)) (size i : Nat) : Int := if wl ws i ≤ size then numTo g (size - wl ws i) (sharedL ws i) (l.getD (size - wl ws i) 0) else 0
def partG (ws : List (List Nat)) (l : List Int) (g : List (List Int)) (size q : Nat) : List (List Int) := (List.range ws.length).map fun i => if i < q then g.getD i [] ++ [numAt ws l g size i] else g.getD i []
def stepG (ws : List (List Nat)) (l : List Int) (g : List (List Int)) (size : Nat) : List (List Int) := (List.range ws.length).map fun i => g.getD i [] ++ [numAt ws l g size i]
def stepL (l : List Int) (g : List (List Int)) (size : Nat) : List Int := l ++ [2 * l.getD (size - 1) 0 - (g.map fun row => row.getD size 0).sum]
noncomputable def foreT (ws : List (List Nat)) : Nat → List Int × List (List Int)
  | 0 => ([1], ws.map fun _ => [0])
  | k + 1 => (stepL (foreT ws k).1 (stepG ws (foreT ws k).1 (foreT ws k).2 (k + 1)) (k + 1), stepG ws (foreT ws k).1 (foreT ws k).2 (k + 1))
theorem partG_zero (ws : List (List Nat)) (l : List Int) (g : List (List Int)) (size : Nat) (hg : g.length = ws.length) : partG ws l g size 0 = g := by
  unfold partG
  refine List.ext_getElem (by simp [hg]) fun i h1 h2 => ?_
  simp [List.getElem?_eq_getElem h2]
theorem partG_end (ws : List (List Nat)) (l : List Int) (g : List (List Int)) (size : Nat) : partG ws l g size ws.length = stepG ws l g size := by
  unfold partG stepG
  refine List.map_congr_left fun i hi => ?_
  rw [if_pos (List.mem_range.mp hi)]
theorem partG_get (ws : List (List Nat)) (l : List Int) (g : List (List Int)) (size q i : Nat) (hi : i < ws.length) : (partG ws l g size q)[i]? = some (if i < q then g.getD i [] ++ [numAt ws l g size i] else g.getD i []) := by
  unfold partG; rw [List.getElem?_map, List.getElem?_range hi]; rfl
theorem partG_succ (ws : List (List Nat)) (l : List Int) (g : List (List Int)) (size q : Nat) (hq : q < ws.length) : partG ws l g size (q + 1) = (partG ws l g size q).set q (g.getD q [] ++ [numAt ws l g size q]) := by
  refine List.ext_getElem? fun i => ?_
  by_cases hi : i < ws.length
  · rw [partG_get _ _ _ _ _ _ hi, List.getElem?_set, partG_get _ _ _ _ _ _ hi]
    by_cases e : q = i
    · subst e; simp [partG, hq]
    · rw [if_neg e]
      by_cases h1 : i < q
      · rw [if_pos h1, if_pos (by omega)]
      · rw [if_neg h1, if_neg (by omega)]
  · rw [List.getElem?_eq_none (by simp [partG]; omega), List.getElem?_eq_none (by simp [partG]; omega)]
theorem foreT_len (ws : List (List Nat)) : ∀ k, (foreT ws k).1.length = k + 1 ∧ (foreT ws k).2.length = ws.length ∧ ∀ i, i < ws.length → ((foreT ws k).2.getD i []).length = k + 1
  | 0 => ⟨rfl, by simp [foreT], fun i hi => by simp [foreT, hi]⟩
  | k + 1 => by
    obtain ⟨h1, h2, h3⟩ := foreT_len ws k
    refine ⟨by simp [foreT, stepL, h1], by simp [foreT, stepG], fun i hi => ?_⟩
    have := h3 i hi
    simp only [foreT, stepG]
    rw [List.getD_eq_getElem?_getD, List.getElem?_map, List.getElem?_range hi]
    simp only [Option.map_some, Option.getD_some, List.length_append, List.length_singleton]
    omega
theorem mem_sharedL {ws : List (List Nat)} {i j t : Nat} (h : (j, t) ∈ sharedL ws i) : j < ws.length ∧ 1 ≤ t ∧ t < wl ws i ∧ t ≤ wl ws j := by
  unfold sharedL at h
  obtain ⟨j', hj', hm⟩ := List.mem_flatMap.mp h
  unfold shTo at hm
  obtain ⟨r, hr, e⟩ := List.mem_map.mp hm
  have hr' := List.mem_range.mp (List.mem_filter.mp hr).1
  simp only [Prod.mk.injEq] at e
  obtain ⟨rfl, rfl⟩ := e
  unfold shN at hr'
  unfold wl
  exact ⟨List.mem_range.mp hj', by omega, by omega, by omega⟩
theorem numTo_succ (g : List (List Int)) (back : Nat) (ps : List (Nat × Nat)) (a : Int) (r : Nat) {jt : Nat × Nat} (h : ps[r]? = some jt) : numTo g back (ps.take (r + 1)) a = numTo g back (ps.take r) a - gAt g jt.1 (back + jt.2) := by
  unfold numTo; rw [List.take_add_one, h, Option.toList_some, List.foldl_append]; rfl
end Mine
end

/-! part M15 -/
section
open PySem PySem.W PyProof.Rows PySem.Calls
set_option linter.unusedVariables false
set_option Elab.async false
set_option maxRecDepth 100000
namespace Mine
abbrev rowE (r : Addr × Array Value) : Addr × (Obj → Prop) := (r.1, LObj r.2)
abbrev refOf (r : Addr × Array Value) : Value := .ref r.1
abbrev Rows (g : List (List Int)) (rows : List (Addr × Array Value)) : Prop := Paired (fun row r => Ints row r.2.toList) g rows
theorem Paired.set {α β : Type} {F : α → β → Prop} : ∀ {l₁ : List α} {l₂ : List β}, Paired F l₁ l₂ → ∀ (i : Nat) {a : α} {b : β}, F a b → Paired F (l₁.set i a) (l₂.set i b)
  | _, _, .nil, _, _, _, _ => .nil
  | _, _, .cons _ t, 0, _, _, h => .cons h t
  | _, _, .cons h' t, i + 1, _, _, h => .cons h' (Paired.set t i h)
section
variable {prog : Program} {w : World} {A : Around} {h : Heap} {n : Nat}
def fdFore : { fd : FuncData // ∀ P, ((hd.heap_39 P).lookup 85).map (·.data) = some (.func fd) } := ⟨_, fun P => rfl⟩
/-- gone = [[0] for word in words], as a frame has it -/
def GoneJ (N i : Nat) (ys : Array Value) (te : OS) : Prop := ∃ rows : List (Addr × Array Value), rows.length = i ∧ i ≤ N ∧ ys.toList = rows.map refOf ∧ te.Perm (rows.map rowE) ∧ Rows (List.replicate i [0]) rows
theorem GoneJ.step {N i : Nat} {ys : Array Value} {te : OS} {a : Addr} {u : Value} (h : GoneJ N i ys te) (hi : i < N) (hu : isI 0 u) : GoneJ N (i + 1) (ys.push (.ref a)) ([(a, LObj #[u])] ++ te) := by
  obtain ⟨rows, h1, h2, h3, h4, h5⟩ := h
  refine ⟨rows ++ [(a, #[u])], by simp [h1], hi, by simp [h3], ?_, ?_⟩
  · rw [List.map_append]
    exact (List.Perm.cons _ h4).trans (by simpa using (List.perm_append_comm (l₁ := [rowE (a, #[u])]) (l₂ := rows.map rowE)))
  · rw [List.replicate_succ']
    exact Paired.snoc h5 (.cons hu .nil)
def SharJ (ws : List (List Nat)) (i : Nat) (ys : Array Value) (te : OS) : Prop := ∃ shs : List (Addr × Array Value), shs.length = i ∧ i ≤ ws.length ∧ ys.toList = shs.map refOf ∧
  ∀ (q : Nat) (r : Addr × Array Value), shs[q]? = some r → (∃ o, LObj r.2 o ∧ (r.1, (· = o)) ∈ te) ∧ PairsIn te (sharedL ws q) r.2.toList
theorem SharJ.step {ws : List (List Nat)} {i : Nat} {ys its : Array Value} {te te' : OS} {D : Addr} {o : Obj} (h : SharJ ws i ys te) (hi : i < ws.length) (ho : LObj its o) (hp : PairsIn te' (sharedL ws i) its.toList) :
    SharJ ws (i + 1) (ys.push (.ref D)) ((te' ++ [(D, (· = o))]) ++ te) := by
  obtain ⟨shs, h1, h2, h3, h4⟩ := h
  refine ⟨shs ++ [(D, its)], by simp [h1], hi, by simp [h3], fun q r hr => ?_⟩
  by_cases hq : q < shs.length
  · rw [List.getElem?_append_left hq] at hr
    obtain ⟨⟨o', h5, h5'⟩, h6⟩ := h4 q r hr
    exact ⟨⟨o', h5, List.mem_append_right _ h5'⟩, h6.mono fun z hz => List.mem_append_right _ hz⟩
  · have hq' : q = i := by
      have := (List.getElem?_eq_some_iff.mp hr).1
      simp at this; omega
    subst hq'
    rw [List.getElem?_append_right (by omega), h1, Nat.sub_self] at hr
    simp at hr; subst hr
    exact ⟨⟨o, ho, List.mem_append_left _ (List.mem_append_right _ (List.mem_singleton.mpr rfl))⟩, hp.mono fun z hz => List.mem_append_left _ (List.mem_append_left _ hz)⟩
theorem Made.exact {te : OS} {D : Addr} {its : Array Value} {h₁ h₂ : Heap} (M : Made (te ++ [(D, LObj its)]) h₁ h₂) : ∃ o, LObj its o ∧ Made (te ++ [(D, (· = o))]) h₁ h₂ := by
  obtain ⟨o, e, q⟩ := M.mem (D, LObj its) (by simp)
  refine ⟨o, q, fun p hp => ?_, fun p hp => ?_, by have := M.nodup; simpa using this⟩
  · rcases List.mem_append.mp hp with hp | hp
    · exact M.mem p (List.mem_append_left _ hp)
    · rw [List.mem_singleton.mp hp]; exact ⟨o, e, rfl⟩
  · rcases List.mem_append.mp hp with hp | hp
    · exact M.fresh p (List.mem_append_left _ hp)
    · rw [List.mem_singleton.mp hp]; exact M.fresh (D, LObj its) (by simp)
theorem SharJ.size {ws : List (List Nat)} {i : Nat} {ys : Array Value} {te : OS} (h : SharJ ws i ys te) : ys.size ≤ ws.length := by
  obtain ⟨shs, h1, h2, h3, _⟩ := h
  have : ys.size = shs.length := by rw [← Array.length_toList, h3, List.length_map]
  omega
theorem GoneJ.size {N i : Nat} {ys : Array Value} {te : OS} (h : GoneJ N i ys te) : ys.size ≤ N := by
  obtain ⟨shs, h1, h2, h3, _⟩ := h
  have : ys.size = shs.length := by rw [← Array.length_toList, h3, List.length_map]
  omega
theorem paired_get {g : List (List Int)} {rows : List (Addr × Array Value)} (h : Rows g rows) {j : Nat} {r : Addr × Array Value} (hr : rows[j]? = some r) : ∃ row, g[j]? = some row ∧ Ints row r.2.toList := Paired.get h hr
theorem int_at {row : List Int} {its : Array Value} (h : Ints row its.toList) {k : Nat} (hk : k < row.length) : ∃ u, its[k]? = some u ∧ isI (row.getD k 0) u := by
  obtain ⟨u, hu, hf⟩ := Paired.get' h (List.getElem?_eq_getElem hk)
  exact ⟨u, by simpa using hu, by rw [List.getD_eq_getElem?_getD, List.getElem?_eq_getElem hk]; exact hf⟩
theorem partG_row (ws : List (List Nat)) (l : List Int) (g : List (List Int)) (size q j k : Nat) (hj : j < ws.length) (hg : (g.getD j []).length = size) (hk : k < size) :
    ∃ row, (partG ws l g size q)[j]? = some row ∧ k < row.length ∧ row.getD k 0 = gAt g j k := by
  refine ⟨_, partG_get ws l g size q j hj, ?_, ?_⟩
  · split
    · rw [List.length_append]; omega
    · omega
  · unfold gAt
    split
    · rw [List.getD_eq_getElem?_getD, List.getElem?_append_left (by omega), ← List.getD_eq_getElem?_getD]
    · rfl
end
end Mine
end

/-! part M16 -/
section
open PySem PySem.W PyProof.Rows PySem.Calls
set_option linter.unusedVariables false
set_option Elab.async false
set_option maxRecDepth 100000
namespace Mine
section
variable {prog : Program} {w : World} {A : Around} {h : Heap} {env : Env}
theorem Made.nil (h₁ h₂ : Heap) : Made [] h₁ h₂ := ⟨by simp, by simp, by simp⟩
theorem ev_callb1R {func a₁ : Expr} {pos : Pos} {id : String} {R₁ : Heap → Value → Heap → Prop} {R : Value → Prop} (hf : Ev prog w A h (eval func env) (· = .builtin id))
    (h₁ : EvR prog w A h (eval a₁ env) R₁) (hc : ∀ v h₁ h₂, Sub h h₁ → Sub h₁ h₂ → R₁ h₁ v h₂ → Ev prog w A h₂ (call (.builtin id) [v]) R)
    (hs₁ : starEach [a₁] env = [(false, eval a₁ env)]) (he : eval (.Call func [a₁] [] pos) env = (do callWith pos (← eval func env) [] (backTo pos (starEach [a₁] env)) (backToKw pos (keywordEach [] env)))) :
    Ev prog w A h (eval (.Call func [a₁] [] pos) env) R :=
  EvR.of fun s Q E hs k => Call_ (hf.wp hs fun fv h₀ t₀ k₀ r₀ => by
    subst r₀
    rw [hs₁]
    refine callWith_builtin rfl (evalArgs_plain (spliced_cons (h₁.wp (hs.trans k₀) fun v h₁ t₁ k₁ r₁ => spliced_nil ?_)))
    exact (hc v _ _ (hs.trans k₀) k₁ r₁).wp (Sub.refl _) fun u h₂ t₂ k₂ r₂ => k u h₂ t₂ (k₀.trans (k₁.trans k₂)) r₂) he
end
section
variable {prog : Program} {w : World} {A : Around} {h : Heap} {n : Nat}
set_option maxHeartbeats 2000000 in
theorem c_foretold (hA : OkA (n + 3) A) (S : Std w h) {lw : Addr} {items : Array Value} {ws : List (List Nat)} {x : Value} (hl : h.IsList lw items) (ht : Texts ws items.toList) (hz : ws.length ≤ 100) (hz2 : ∀ t ∈ ws, t.length ≤ 100) (hz3 : ∀ t ∈ ws, 1 ≤ t.length) (hx : isI (7 : Int) x) :
    EvR prog w A h (call (.ref 85) [.ref lw, x]) (fun h₁ v h₂ => ∃ tp lA gA lits gits rows, v = .ref tp ∧ h₂.get? tp = some (tup (.ref lA) (.ref gA)) ∧ h₁.get? lA = none ∧ h₁.get? gA = none ∧ (∀ r ∈ rows, h₁.get? r.1 = none) ∧ h₁.get? tp = none ∧
      h₂.PlainList lA lits ∧ Ints (foreT ws 7).1 lits.toList ∧ h₂.PlainList gA gits ∧ gits.toList = rows.map refOf ∧ Rows (foreT ws 7).2 rows ∧ ∀ r ∈ rows, h₂.PlainList r.1 r.2) := by
  have hlen : items.size = ws.length := by have := Paired.length ht; simp at this; omega
  obtain ⟨o, ho, hd⟩ := S.fn (fdFore.2 _)
  refine call_fn hA S ho hd (S.code (c := 84) rfl rfl) (body := _) rfl (binds := [("words", .ref lw), ("most", x)]) rfl rfl (fun L => ?_) (fun L => ?_) (fun s s₁ L E hs st => ?_) rfl rfl rfl
  · intro z hz; simp at hz; rcases hz with rfl | rfl
    · exact .inr ⟨rfl, rfl⟩
    · exact .inl rfl
  · intro z hz
    have e : cellsFrom (L + 1) fdFore.1.scope.names [] = [(Str.ofString "size", L + 1 + 1), (Str.ofString "words", L + 1)] := rfl
    rw [e] at hz ⊢
    simp at hz; rcases hz with rfl | rfl <;> rfl
  have hA1 := hA.deeper (callEnvC fdFore.1 L 85)
  have hA2 := hA1.le (m := n + 1) (by omega)
  replace st : St [] s (callEnvC fdFore.1 L 85).locals (upd (fun _ => none) "most" x) [(L + 1 + 1, CObj none), (L + 1, CObj (some (.ref lw)))] s₁ := st
  have S₁ : Std w s₁.heap := S.sub (hs.trans st.sub)
  have hcw := st.cell (c := L + 1) (v := some (.ref lw)) (by simp)
  have hl₁ : s₁.heap.IsList lw items := hl.at fun o e => st.sub _ _ (hs _ _ e)
  have item : ∀ j, j < ws.length → ∃ u, items[j]? = some u ∧ isT (ws.getD j []) u ∧ (ws.getD j []).length ≤ 100 ∧ 1 ≤ (ws.getD j []).length := fun j hj => by
    obtain ⟨u, hu, hf⟩ := Paired.get' ht (List.getElem?_eq_getElem hj)
    have e : ws.getD j [] = ws[j] := by rw [List.getD_eq_getElem?_getD, List.getElem?_eq_getElem hj]; rfl
    exact ⟨u, by simpa using hu, by rw [e]; exact hf, by rw [e]; exact hz2 _ (List.getElem_mem hj), by rw [e]; exact hz3 _ (List.getElem_mem hj)⟩
  -- shared
  refine wpAny_execs_cons (ex_assign_comp (Fin := SharJ ws ws.length) st (by simp)
    (it_range hA1.1 (a := 0) (b := items.size) (n := ws.length) (by omega) (by omega) (by omega) (by omega) (by omega) (ev_range1 (ev_builtin S₁ rfl boot_range (by decide) rfl rfl rfl rfl rfl) (xLenL S₁ (xCell hcw rfl) hl₁ (by omega)) rfl rfl))
    (fun I T C D oI s₄ R W hT hl' _ st' k => run1 (SharJ ws) ⟨[], rfl, Nat.zero_le _, rfl, by simp⟩ (fun _ _ q => q) (fun i ys te q => by have := q.size; omega)
      rfl rfl (fun b hb => absurd hb (by simp)) (fun i v ys te s' m' hi hP hJ hsub hte hn hm => ?_) W hT hl' st' k)
    (fun Dsh shits tesh s₂ hFsh st => ?_) rfl rfl (by decide) rfl (by decide) (fun _ => rfl) rfl rfl)
  · rw [Int.zero_add] at hP
    have S' := S₁.sub hsub
    refine xCall2 S' rfl (fdShared.2 _) (xCell (hcw.keeps hsub) (R := (· = .ref lw)) rfl) (xLoc hn (v := v) hP (hv := hm)) (fun v u rv ru => ?_) (fun h₁ h₂ v h₃ k ⟨te', M, q⟩ => ⟨te', M.anti k, q⟩)
    subst rv
    refine (c_shared hA1 S' (hl₁.at fun o e => hsub _ _ e) ht hz hz2 ru hi).mono fun h₁ y h₂ _ _ r => ?_
    obtain ⟨D', ys', te', rfl, M, hps⟩ := r
    obtain ⟨o', ho', M'⟩ := M.exact
    exact ⟨te' ++ [(D', (· = o'))], M', hJ.step hi ho' hps⟩
  obtain ⟨shs, shlen, _, shrefs, shs_at⟩ := hFsh
  -- left
  refine wpAny_execs_cons (ex_assign st (xList1 (R₁ := isI 1) xInt) (fun v h₁ t₁ k₁ r₁ => ?_) rfl rfl rfl)
  obtain ⟨lA, u1, rfl, hlA, ⟨nl, el⟩, hu1⟩ := r₁
  refine ⟨_, st.push (p := LObj #[u1]) k₁ hlA el ⟨nl, rfl⟩ (by simp), fun s₃ st => ?_⟩
  have hcw := st.cell (c := L + 1) (v := some (.ref lw)) (by simp)
  have hl₃ : s₃.heap.IsList lw items := hl.at fun o e => st.sub _ _ (hs _ _ e)
  -- gone
  refine wpAny_execs_cons (ex_assign_comp (Fin := GoneJ ws.length ws.length) (n := items.size) st (by simp) (EvIt.list hA1.1 (xCell hcw rfl) hl₃)
    (fun I T C D oI s₄ R W hT hl' _ st' k => run1 (GoneJ ws.length) ⟨[], rfl, Nat.zero_le _, rfl, List.Perm.refl _, .nil⟩ (fun _ _ q => by rw [hlen] at q; exact q) (fun i ys te q => by have := q.size; omega)
      rfl rfl (fun b hb => by rw [List.mem_singleton.mp hb]; obtain ⟨o, e, _⟩ := hl₃; exact ⟨o, e⟩) (fun i v ys te s' m' hi hP hJ hsub hte hn hm => ?_) W hT hl' st' k)
    (fun Dg gits teg s₄ hFg st => ?_) rfl rfl (by decide) rfl (by decide) (fun _ => rfl) rfl rfl)
  · refine (xList1 (R₁ := isI 0) xInt).mono fun h₁ y h₂ _ _ r => ?_
    obtain ⟨a, u, rfl, ha, ⟨na, ea⟩, hu⟩ := r
    exact ⟨[(a, LObj #[u])], ⟨fun p hp => by rw [List.mem_singleton.mp hp]; exact ⟨_, ea, na, rfl⟩, fun p hp => by rw [List.mem_singleton.mp hp]; exact ha, by simp⟩, hJ.step (by omega) hu⟩
  obtain ⟨rows0, rlen0, _, grefs0, gperm, grows0⟩ := hFg
  -- the ledger in order
  generalize hfix : (Dg, LObj gits) :: (Dsh, LObj shits) :: (tesh ++ [(L + 1, CObj (some (Value.ref lw)))]) = fix
  have st : St [] s (callEnvC fdFore.1 L 85).locals (upd (upd (upd (upd (fun _ => none) "most" x) "shared" (.ref Dsh)) "left" (.ref lA)) "gone" (.ref Dg)) ((L + 1 + 1, CObj none) :: (lA, LObj #[u1]) :: (rows0.map rowE ++ fix)) s₄ := by
    refine st.perm ?_
    subst hfix
    have e1 : ((Dg, LObj gits) :: teg ++ (lA, LObj #[u1]) :: ((Dsh, LObj shits) :: tesh ++ [(L + 1 + 1, CObj none), (L + 1, CObj (some (Value.ref lw)))])) =
        ((Dg, LObj gits) :: (teg ++ (lA, LObj #[u1]) :: (Dsh, LObj shits) :: tesh)) ++ (L + 1 + 1, CObj none) :: [(L + 1, CObj (some (Value.ref lw)))] := by simp
    rw [e1]
    refine List.perm_middle.trans (List.Perm.cons _ ?_)
    have e2 : ((Dg, LObj gits) :: (teg ++ (lA, LObj #[u1]) :: (Dsh, LObj shits) :: tesh)) ++ [(L + 1, CObj (some (Value.ref lw)))] = ((Dg, LObj gits) :: teg) ++ (lA, LObj #[u1]) :: ((Dsh, LObj shits) :: (tesh ++ [(L + 1, CObj (some (Value.ref lw)))])) := by simp
    rw [e2]
    refine List.perm_middle.trans (List.Perm.cons _ ?_)
    show ((Dg, LObj gits) :: (teg ++ _)).Perm _
    exact (List.Perm.cons _ (gperm.append_right _)).trans List.perm_middle.symm
  have mfix : ∀ p ∈ fix, ∀ a b c, p ∈ a :: b :: (c ++ fix) := fun p hp a b c => List.mem_cons_of_mem _ (List.mem_cons_of_mem _ (List.mem_append_right _ hp))
  have fDg : (Dg, LObj gits) ∈ fix := by rw [← hfix]; simp
  have fDsh : (Dsh, LObj shits) ∈ fix := by rw [← hfix]; simp
  have fcw : (L + 1, CObj (some (Value.ref lw))) ∈ fix := by rw [← hfix]; simp
  have fte : ∀ p ∈ tesh, p ∈ fix := fun p hp => by rw [← hfix]; exact List.mem_cons_of_mem _ (List.mem_cons_of_mem _ (List.mem_append_left _ hp))
  have S₄ : Std w s₄.heap := S.sub (hs.trans st.sub)
  -- the turns
  refine wpAny_execs_cons (ex_for (fun k m' os' => m' "shared" = some (.ref Dsh) ∧ m' "left" = some (.ref lA) ∧ m' "gone" = some (.ref Dg) ∧ ∃ cv lits rows, os' = (L + 1 + 1, CObj cv) :: (lA, LObj lits) :: (rows.map rowE ++ fix) ∧
      Ints (foreT ws k).1 lits.toList ∧ gits.toList = rows.map refOf ∧ Rows (foreT ws k).2 rows) st
    (it_range hA1.1 (a := 1) (b := 8) (n := 7) (by omega) (by omega) (by omega) (by omega) (by omega) (ev_range2 (ev_builtin S₄ rfl boot_range (by decide) rfl rfl rfl rfl rfl) xInt (xAdd (xLoc st.ns hx) xInt rfl) rfl rfl))
    (fun I _ => by simp) (fun b hb => nomatch hb) ⟨rfl, rfl, rfl, none, #[u1], rows0, rfl, .cons hu1 .nil, grefs0, by rw [foreT, List.map_const']; exact grows0⟩ ?_ ?_ (fun _ => rfl) (fun _ _ => rfl))
  · rintro k vs m' os' s' I p Q' E' hk hP ⟨n1, n2, n3, cv, lits, rows, rfl, hlits, grefs, grows⟩ st kk
    obtain ⟨len1, len2, len3⟩ := foreT_len ws k
    generalize hFl : (foreT ws k).1 = l at hlits len1
    generalize hFg : (foreT ws k).2 = g at grows len2 len3
    have hP' : isI ((k + 1 : Nat) : Int) vs := by have : (1 + (k : Int)) = ((k + 1 : Nat) : Int) := by omega
                                                  rwa [this] at hP
    refine wpAny_assign_Name (ex_storeC (pre := [(I, p)]) st (fun s₂ st => ?_) rfl rfl rfl)
    replace st : St [] s (callEnvC fdFore.1 L 85).locals m' ((I, p) :: (L + 1 + 1, CObj (some vs)) :: (lA, LObj lits) :: (rows.map rowE ++ fix)) s₂ := st
    have S₂ : Std w s₂.heap := S.sub (hs.trans st.sub)
    have hcw := st.cell (c := L + 1) (v := some (.ref lw)) (List.mem_cons_of_mem _ (mfix _ fcw _ _ _))
    have hl₂ : s₂.heap.IsList lw items := hl.at fun o e => st.sub _ _ (hs _ _ e)
    -- for i in range(len(words))
    refine wpAny_execs_cons (ex_for (fun q m' os' => m' "shared" = some (.ref Dsh) ∧ m' "left" = some (.ref lA) ∧ m' "gone" = some (.ref Dg) ∧ ∃ rows, os' = (I, p) :: (L + 1 + 1, CObj (some vs)) :: (lA, LObj lits) :: (rows.map rowE ++ fix) ∧
        gits.toList = rows.map refOf ∧ Rows (partG ws l g (k + 1) q) rows) st
      (it_range hA1.1 (a := 0) (b := items.size) (n := ws.length) (by omega) (by omega) (by omega) (by omega) (by omega) (ev_range1 (ev_builtin S₂ rfl boot_range (by decide) rfl rfl rfl rfl rfl) (xLenL S₂ (xCell hcw rfl) hl₂ (by omega)) rfl rfl))
      (fun I _ => by simp) (fun b hb => nomatch hb) ⟨n1, n2, n3, rows, rfl, grefs, by rw [partG_zero _ _ _ _ len2]; exact grows⟩ ?_ ?_ (fun _ => rfl) (fun _ _ => rfl))
    · rintro q vq m' os' s' I2 p2 Q2 E2 hq hPq ⟨n1, n2, n3, rows, rfl, grefs, grows⟩ st kk
      rw [Int.zero_add] at hPq
      obtain ⟨uq, huq, htq, hltq, hgeq⟩ := item q hq
      have hwl : (ws.getD q []).length = wl ws q := rfl
      refine wpAny_assign_Name (ex_store st (fun s₂ st => ?_) rfl rfl)
      have S₂ : Std w s₂.heap := S.sub (hs.trans st.sub)
      have hcw := st.cell (c := L + 1) (v := some (.ref lw)) (List.mem_cons_of_mem _ (List.mem_cons_of_mem _ (mfix _ fcw _ _ _)))
      have hcs := st.cell (c := L + 1 + 1) (v := some vs) (by simp)
      have hl₂ : s₂.heap.IsList lw items := hl.at fun o e => st.sub _ _ (hs _ _ e)
      -- the end of the turn, whichever way the number came
      have fin : ∀ (s' : Shared) (m₂ : Map) (nv : Value) (rest : List Stmt), isI (numAt ws l g (k + 1) q) nv → m₂ "shared" = some (.ref Dsh) → m₂ "left" = some (.ref lA) → m₂ "gone" = some (.ref Dg) → m₂ "i" = some vq → m₂ "number" = some nv →
          St [] s (callEnvC fdFore.1 L 85).locals m₂ ((I2, p2) :: (I, p) :: (L + 1 + 1, CObj (some vs)) :: (lA, LObj lits) :: (rows.map rowE ++ fix)) s' →
          ∀ (gp np ip sp ap cp ep : Pos) (hline : (ap.endLine == cp.line) = true) (E' : Value → Shared → Prop), wpAny (model prog w) (A.deeper (callEnvC fdFore.1 L 85)) (execs [.Expr (.Call (.Attribute (.Subscript (.Name "gone" gp) (.Name "i" ip) sp) "append" ap) [.Name "number" np] [] cp) ep] (callEnvC fdFore.1 L 85)) (fun f s₃ => f = .next ∧ Q2 s₃) E' s' := by
        intro s' m₂ nv _ hnv e1 e2 e3 e4 e5 st gp np ip sp ap cp ep hline E'
        have hrl : rows.length = ws.length := by have := Paired.length grows; simp [partG] at this; omega
        have hq' : q < rows.length := by omega
        obtain ⟨r1, r2, hr⟩ : ∃ r1 r2, rows = r1 ++ rows[q] :: r2 ∧ r1.length = q := ⟨rows.take q, rows.drop (q + 1), by rw [← List.drop_eq_getElem_cons hq', List.take_append_drop], by simp; omega⟩
        rcases hrq : rows[q] with ⟨ra, rits⟩
        rw [hrq] at hr
        have hg : gits[q]? = some (.ref ra) := by
          have : gits.toList[q]? = some (.ref ra) := by rw [grefs, List.getElem?_map, List.getElem?_eq_getElem hq', hrq]; rfl
          simpa using this
        have hgl := st.list (a := Dg) (items := gits) (List.mem_cons_of_mem _ (List.mem_cons_of_mem _ (mfix _ fDg _ _ _)))
        obtain ⟨row, hrow, hri⟩ := paired_get grows (j := q) (r := (ra, rits)) (by rw [List.getElem?_eq_getElem hq', hrq])
        rw [partG_get _ _ _ _ _ _ hq, if_neg (Nat.lt_irrefl _)] at hrow
        have hrow' : row = g.getD q [] := (Option.some.inj hrow).symm
        subst hrow'
        have hrs : rits.size = k + 1 := by rw [← Array.length_toList, ← Paired.length hri, len3 q hq]
        have e6 : rows.map rowE ++ fix = r1.map rowE ++ (ra, LObj rits) :: (r2.map rowE ++ fix) := by rw [hr.1]; simp
        rw [e6] at st
        refine wpAny_execs_cons (ex_append (pre := (I2, p2) :: (I, p) :: (L + 1 + 1, CObj (some vs)) :: (lA, LObj lits) :: r1.map rowE) (post := r2.map rowE ++ fix) st
          (xItem (k := q) (xLoc st.ns rfl (hv := e3)) hgl.isList (xLoc st.ns hPq (hv := e4)) hg rfl) (xLoc st.ns (R := isI (numAt ws l g (k + 1) q)) hnv (hv := e5)) (by omega) (fun u s₄ ru st => wpAny_execs_nil ⟨rfl, kk m₂ _ _ ⟨e1, e2, e3, r1 ++ (ra, rits.push u) :: r2, ?_, ?_, ?_⟩ st⟩) (hline := hline))
        · simp
        · rw [grefs, hr.1]; simp
        · rw [partG_succ _ _ _ _ _ hq]
          have e7 : r1 ++ (ra, rits.push u) :: r2 = rows.set q (ra, rits.push u) := by
            rw [hr.1, List.set_append_right _ _ (by omega), hr.2, Nat.sub_self]; rfl
          rw [e7]
          refine Paired.set grows q ?_
          rw [Array.toList_push]
          exact Paired.append hri (.cons ru .nil)
      refine wpAny_execs_cons (ex_assignQ st (xSub (c := ((k + 1 : Nat) : Int) - (wl ws q : Nat)) (xCell hcs hP') (xLen S₂ (xItem (k := q) (xCell hcw rfl) hl₂ (xLoc st.ns hPq) huq htq) (by omega)) (by rw [hwl])) fun vb s₃ rb st => ?_)
      refine wpAny_execs_cons (ex_assignQ st (xInt (c := 0)) fun v0 s₄ r0 st => ?_)
      refine wpAny_execs_cons (ex_if st (ev_true_cmp (xLoc st.ns rb) (xInt (c := 0)) (fun a b ra rb => ev_gei ra rb) rfl) fun s₅ st => ?_)
      by_cases hback : wl ws q ≤ k + 1
      · rw [show decide ((0 : Int) ≤ ((k + 1 : Nat) : Int) - (wl ws q : Nat)) = true by simp; omega]
        simp only [if_true]
        have rb' : isI ((k + 1 - wl ws q : Nat) : Int) vb := by have : ((k + 1 : Nat) : Int) - (wl ws q : Nat) = ((k + 1 - wl ws q : Nat) : Int) := by omega
                                                                rwa [this] at rb
        generalize hbk : k + 1 - wl ws q = back at rb'
        have hlA := st.list (a := lA) (items := lits) (by simp)
        obtain ⟨ul, hul, hil⟩ := int_at hlits (k := back) (by omega)
        refine wpAny_execs_cons (ex_assignQ st (xItem (k := back) (xLoc st.ns rfl (hv := n2)) hlA.isList (xLoc st.ns rb') hul hil) fun v1 s₆ r1 st => ?_)
        have hsq : q < shs.length := by omega
        rcases hshq : shs[q] with ⟨sha, shi⟩
        obtain ⟨⟨so, hso, hsm⟩, hpq⟩ := shs_at q (sha, shi) (by rw [List.getElem?_eq_getElem hsq, hshq])
        have hsg : shits[q]? = some (.ref sha) := by
          have : shits.toList[q]? = some (.ref sha) := by rw [shrefs, List.getElem?_map, List.getElem?_eq_getElem hsq, hshq]; rfl
          simpa using this
        have mte : ∀ p' ∈ tesh, p' ∈ (I2, p2) :: (I, p) :: (L + 1 + 1, CObj (some vs)) :: (lA, LObj lits) :: (rows.map rowE ++ fix) := fun p' hp' => List.mem_cons_of_mem _ (List.mem_cons_of_mem _ (mfix _ (fte _ hp') _ _ _))
        have hshl := st.list (a := Dsh) (items := shits) (List.mem_cons_of_mem _ (List.mem_cons_of_mem _ (mfix _ fDsh _ _ _)))
        have shaAt : ∀ (m₂ : Map) (s' : Shared), St [] s (callEnvC fdFore.1 L 85).locals m₂ ((I2, p2) :: (I, p) :: (L + 1 + 1, CObj (some vs)) :: (lA, LObj lits) :: (rows.map rowE ++ fix)) s' → s'.heap.get? sha = some so := fun m₂ s' st' => by
          obtain ⟨o', e', rfl⟩ := st'.mem _ (mte _ hsm); exact e'
        have hshil : s₆.heap.IsList sha shi := by
          obtain ⟨nn, e⟩ := hso
          exact ⟨so, shaAt _ _ st, by rw [e], nn, by rw [e]⟩
        have hplen : shi.size = (sharedL ws q).length := by rw [← Array.length_toList, ← Paired.length hpq]
        refine wpAny_execs_cons (ex_forP (n := shi.size) (fun r m₂ os' => m₂ "shared" = some (.ref Dsh) ∧ m₂ "left" = some (.ref lA) ∧ m₂ "gone" = some (.ref Dg) ∧ m₂ "i" = some vq ∧ m₂ "back" = some vb ∧
            os' = (I2, p2) :: (I, p) :: (L + 1 + 1, CObj (some vs)) :: (lA, LObj lits) :: (rows.map rowE ++ fix) ∧ ∃ nv, m₂ "number" = some nv ∧ isI (numTo g back ((sharedL ws q).take r) (l.getD back 0)) nv) hA1.1 st
          (EvIt.list hA1.1 (xItem (k := q) (xLoc st.ns rfl (hv := n1)) hshl.isList (xLoc st.ns hPq) hsg rfl) hshil) (by simp) (fun b hb => ?_) ⟨n1, n2, n3, rfl, rfl, rfl, v1, rfl, r1⟩ ?_ ?_)
        · rw [List.mem_singleton.mp hb]
          exact ⟨so, fun i m₂ os' s' ⟨_, _, _, _, _, e, _⟩ st' => by subst e; exact shaAt _ _ st'⟩
        · rintro r v m₂ os' s' I3 p3 Q3 E3 hr hv ⟨o1, o2, o3, o4, o5, rfl, nv, o6, hnv⟩ st kk3
          obtain ⟨⟨j, t⟩, hjt, a, u₁, u₂, rfl, ham, hj, ht'⟩ := Paired.get hpq (i := r) (b := v) (by simpa using hv)
          obtain ⟨hj1, ht1, ht2, ht3⟩ := mem_sharedL (List.mem_of_getElem? hjt)
          refine ⟨a, u₁, u₂, rfl, ?_, fun s₂ st => ?_⟩
          · obtain ⟨o', e', q'⟩ := st.mem _ (List.mem_cons_of_mem _ (mte _ ham))
            have q'' : o' = tup u₁ u₂ := q'
            exact ⟨o', e', by rw [q''], 0, by rw [q'']⟩
          · have S₂ : Std w s₂.heap := S.sub (hs.trans st.sub)
            have hgl := st.list (a := Dg) (items := gits) (List.mem_cons_of_mem _ (List.mem_cons_of_mem _ (List.mem_cons_of_mem _ (mfix _ fDg _ _ _))))
            have hrl : rows.length = ws.length := by have := Paired.length grows; simp [partG] at this; omega
            have hjr : j < rows.length := by omega
            rcases hrj : rows[j] with ⟨rja, rji⟩
            have hgj : gits[j]? = some (.ref rja) := by
              have : gits.toList[j]? = some (.ref rja) := by rw [grefs, List.getElem?_map, List.getElem?_eq_getElem hjr, hrj]; rfl
              simpa using this
            obtain ⟨row, hrow, hri⟩ := paired_get grows (j := j) (r := (rja, rji)) (by rw [List.getElem?_eq_getElem hjr, hrj])
            obtain ⟨row', hrow', hkl, hval⟩ := partG_row ws l g (k + 1) q j (back + t) hj1 (len3 j hj1) (by omega)
            rw [hrow] at hrow'
            have := Option.some.inj hrow'; subst this
            obtain ⟨uk, huk, hik⟩ := int_at hri hkl
            rw [hval] at hik
            have hrowl := st.list (a := rja) (items := rji) (List.mem_cons_of_mem _ (List.mem_cons_of_mem _ (List.mem_cons_of_mem _ (List.mem_cons_of_mem _ (List.mem_cons_of_mem _ (List.mem_append_left _ (List.mem_map.mpr ⟨(rja, rji), by rw [← hrj]; exact List.getElem_mem hjr, rfl⟩)))))))
            refine wpAny_execs_cons (ex_assignQ st (R := isI (numTo g back ((sharedL ws q).take (r + 1)) (l.getD back 0))) (xCall2 S₂ rfl (fdSub.2 _) (R₁ := isI (numTo g back ((sharedL ws q).take r) (l.getD back 0))) (R₂ := isI (gAt g j (back + t))) (xLoc st.ns hnv (hv := o6))
              (xItem (k := back + t) (xItem (k := j) (R := (· = .ref rja)) (xLoc st.ns rfl (hv := o3)) hgl.isList (xLoc st.ns hj) hgj rfl) hrowl.isList (xAdd (c := (back + t : Nat)) (xLoc st.ns rb' (hv := o5)) (xLoc st.ns ht') (by omega)) huk hik)
              (fun v u rv ru => by rw [numTo_succ _ _ _ _ _ hjt]; exact c_sub hA1 S₂ rv ru)) fun v2 s₄ r2 st => wpAny_execs_nil ⟨rfl, kk3 (upd (upd (upd m₂ "j" u₁) "t" u₂) "number" v2) _ _ ⟨o1, o2, o3, o4, o5, rfl, v2, rfl, r2⟩ st⟩)
        · rintro m₂ os' s' ⟨o1, o2, o3, o4, o5, rfl, nv, o6, hnv⟩ st
          refine wpAny_execs_nil (fin s' m₂ nv [] ?_ o1 o2 o3 o4 o6 st _ _ _ _ _ _ _ rfl _)
          unfold numAt
          rw [if_pos hback, hbk]
          rw [hplen, List.take_length] at hnv; exact hnv
      · rw [show decide ((0 : Int) ≤ ((k + 1 : Nat) : Int) - (wl ws q : Nat)) = false by simp; omega]
        simp only [Bool.false_eq_true, if_false]
        refine wpAny_execs_nil (fin s₅ (upd (upd (upd m' "i" vq) "back" vb) "number" v0) v0 [] ?_ n1 n2 n3 rfl rfl st _ _ _ _ _ _ _ rfl _)
        unfold numAt; rw [if_neg hback]; exact r0
    · rintro m' os' s' ⟨n1, n2, n3, rows, rfl, grefs, grows⟩ st
      rw [partG_end] at grows
      generalize hG : stepG ws l g (k + 1) = G at grows
      have hGl : G.length = ws.length := by rw [← hG]; simp [stepG]
      have hGr : ∀ i, i < ws.length → ∃ row, G[i]? = some row ∧ k + 1 < row.length := fun i hi => by
        refine ⟨g.getD i [] ++ [numAt ws l g (k + 1) i], by rw [← hG]; unfold stepG; rw [List.getElem?_map, List.getElem?_range hi]; rfl, ?_⟩
        rw [List.length_append, len3 i hi]; simp
      have S₂ : Std w s'.heap := S.sub (hs.trans st.sub)
      have hcs := st.cell (c := L + 1 + 1) (v := some vs) (by simp)
      have hlA := st.list (a := lA) (items := lits) (by simp)
      have hgl := st.list (a := Dg) (items := gits) (List.mem_cons_of_mem _ (mfix _ fDg _ _ _))
      have hlsz : lits.size = k + 1 := by rw [← Array.length_toList, ← Paired.length hlits, len1]
      obtain ⟨ul, hul, hil⟩ := int_at hlits (k := k) (by omega)
      have hrl : rows.length = ws.length := by have := Paired.length grows; omega
      have hgsz : gits.size = ws.length := by rw [← Array.length_toList, grefs, List.length_map, hrl]
      refine wpAny_execs_cons (ex_append (pre := [(I, p), (L + 1 + 1, CObj (some vs))]) (post := rows.map rowE ++ fix) st (xLoc st.ns rfl (hv := n2)) (R := isI (2 * l.getD k 0 - (G.map fun row => row.getD (k + 1) 0).sum))
        (xCall2 S₂ rfl (fdSub.2 _) (R₁ := isI (2 * l.getD k 0)) (R₂ := isI (G.map fun row => row.getD (k + 1) 0).sum)
          (xCall2 S₂ rfl (fdMul.2 _) (R₁ := isI 2) (R₂ := isI (l.getD k 0)) xInt (xItem (k := k) (xLoc st.ns rfl (hv := n2)) hlA.isList (xSub (xCell hcs hP') xInt (by omega)) hul hil) (fun v u rv ru => c_mul hA1 S₂ (IntMulOk.of_left (by decide)) rv ru))
          (ev_callb1R (ev_builtin S₂ rfl boot_sum (by decide) rfl rfl rfl rfl rfl)
            (comp_val (Fin := fun ys te => Ints (G.map fun row => row.getD (k + 1) 0) ys.toList) (EvIt.list hA1.1 (xLoc st.ns rfl (hv := n3)) hgl.isList)
              (fun s₉ I' T C D oI s₄ R hsub₉ W hT hl' _ st' kc => run1 (fun i ys te => i ≤ gits.size ∧ Ints ((G.take i).map fun row => row.getD (k + 1) 0) ys.toList) ⟨Nat.zero_le _, .nil⟩ (fun ys te q => ?_) (fun i ys te q => ?_)
                rfl rfl (fun b hb => ?_) (fun i v ys te s₈ m₈ hi hPi hJ hsub hte hn hm => ?_) W hT hl' st' kc)
              rfl (by decide) rfl (by decide) (fun _ => rfl))
            (fun v h₁ h₂ _ _ r => ?_) rfl rfl)
          (fun v u rv ru => c_sub hA1 S₂ rv ru)) (by omega)
        (fun v s₅ rv st => wpAny_execs_nil ⟨rfl, kk m' _ _ ⟨n1, n2, n3, some vs, lits.push v, rows, rfl, ?_, grefs, ?_⟩ st⟩))
      · have := q.2; rw [hgsz, ← hGl, List.take_length] at this; exact this
      · have h2 := Paired.length q.2
        have h3 : ys.toList.length = ys.size := Array.length_toList
        rw [List.length_map, List.length_take] at h2
        omega
      · rw [List.mem_singleton.mp hb]; obtain ⟨nn, e⟩ := hgl; exact ⟨_, hsub₉ _ _ e⟩
      · have hiw : i < ws.length := by omega
        have hir : i < rows.length := by omega
        rcases hri : rows[i] with ⟨ria, rii⟩
        have hv : v = .ref ria := by
          have h1 : gits.toList[i]? = some (.ref ria) := by rw [grefs, List.getElem?_map, List.getElem?_eq_getElem hir, hri]; rfl
          have h2 : gits.toList[i]? = some v := by simpa using hPi
          rw [h1] at h2; exact (Option.some.inj h2).symm
        obtain ⟨row, hrow, hrl'⟩ := hGr i hiw
        obtain ⟨row', hrow', hri'⟩ := paired_get grows (j := i) (r := (ria, rii)) (by rw [List.getElem?_eq_getElem hir, hri])
        rw [hrow] at hrow'
        have := Option.some.inj hrow'; subst this
        obtain ⟨uk, huk, hik⟩ := int_at hri' hrl'
        have hrowl := st.list (a := ria) (items := rii) (List.mem_cons_of_mem _ (List.mem_cons_of_mem _ (List.mem_cons_of_mem _ (List.mem_append_left _ (List.mem_map.mpr ⟨(ria, rii), by rw [← hri]; exact List.getElem_mem hir, rfl⟩)))))
        refine (xItem (k := k + 1) (R := isI (row.getD (k + 1) 0)) (xLoc hn (v := v) (R := (· = .ref ria)) hv (hv := hm)) (hrowl.isList.at fun o e => hsub _ _ (hsub₉ _ _ e)) (xCell ((hcs.keeps hsub₉).keeps hsub) hP') huk hik).mono fun h₁ y h₂ _ _ r => ?_
        refine ⟨[], Made.nil _ _, hi, ?_⟩
        rw [List.take_add_one, hrow, Option.toList_some, List.map_append, Array.toList_push]
        exact Paired.snoc hJ.2 r
      · obtain ⟨D, ys, te, rfl, hF, M⟩ := r
        obtain ⟨o', e', nn, q⟩ := M.mem (D, LObj ys) (List.mem_cons_self ..)
        exact ev_sum hA1.1 ⟨o', e', by rw [q], nn, by rw [q]⟩ hF
      · rw [foreT, hFl, hFg, hG, Array.toList_push]
        exact Paired.snoc hlits rv
      · rw [foreT, hFl, hFg, hG]; exact grows
  · rintro m' os' s' ⟨n1, n2, n3, cv, lits, rows, rfl, hlits, grefs, grows⟩ st
    refine wpAny_execs_cons (wpAny_Return_some ((xTuple2 (xLoc st.ns (v := .ref lA) (R := (· = .ref lA)) rfl (hv := n2)) (xLoc st.ns (v := .ref Dg) (R := (· = .ref Dg)) rfl (hv := n3))).wp (Sub.refl _) fun v h' tk hk r => ?_))
    obtain ⟨tp, u₁, u₂, rfl, htp, etp, rfl, rfl⟩ := r
    have st' := st.quiet (tk := tk) hk
    have M := st'.made
    have mr : ∀ r ∈ rows, rowE r ∈ (L + 1 + 1, CObj cv) :: (lA, LObj lits) :: (rows.map rowE ++ fix) := fun r hr => List.mem_cons_of_mem _ (List.mem_cons_of_mem _ (List.mem_append_left _ (List.mem_map.mpr ⟨r, hr, rfl⟩)))
    refine Ret.of st' ⟨tp, lA, Dg, lits, gits, rows, rfl, etp, M.fresh (lA, LObj lits) (by simp), M.fresh (Dg, LObj gits) (mfix _ fDg _ _ _), fun r hr => M.fresh (rowE r) (mr r hr), ?_, st'.list (by simp), hlits, st'.list (mfix _ fDg _ _ _), grefs, grows, fun r hr => st'.list (mr r hr)⟩
    cases e : s.heap.get? tp with
    | none => rfl
    | some o => have := st.sub _ _ e; rw [htp] at this; cases this
end
end Mine
end

/-! part M17 -/
section
open PySem PySem.W PyProof.Rows PySem.Calls
set_option linter.unusedVariables false
set_option Elab.async false
set_option maxRecDepth 100000
namespace Mine
section
variable {prog : Program} {w : World} {A : Around} {R : Result → Shared → Prop} {s : Shared}
theorem compTurn_two0 (elt t₀ i₀ t₁ i₁ : Expr) (scope : Scope) (pos : Pos) (it acc : Value) (env : Env) :
    compTurn (.ListComp elt [⟨t₀, i₀, [], 0⟩, ⟨t₁, i₁, [], 0⟩] scope pos) 0 it acc env = (standAt i₀.pos >>= fun _ => pyNext it >>= fun r => match r with
      | none => pure (.done .next)
      | some v => letOwnedTupleGo t₀ it v >>= fun _ => assign t₀ env v >>= fun _ =>
        eval i₁ env >>= fun x => standAt i₁.pos >>= fun _ => foldedSetIterable i₁ env x >>= fun x => holding [x] (pyIter x) >>= fun it' =>
          runOwn (.compStart (.ListComp elt [⟨t₀, i₀, [], 0⟩, ⟨t₁, i₁, [], 0⟩] scope pos) 1 it' acc env) env >>= fun _ =>
          again (.compLoop (.ListComp elt [⟨t₀, i₀, [], 0⟩, ⟨t₁, i₁, [], 0⟩] scope pos) 0 it acc env)) := by rfl
theorem compTurn_two1 (elt t₀ i₀ t₁ i₁ : Expr) (scope : Scope) (pos : Pos) (it acc : Value) (env : Env) :
    compTurn (.ListComp elt [⟨t₀, i₀, [], 0⟩, ⟨t₁, i₁, [], 0⟩] scope pos) 1 it acc env = (standAt i₁.pos >>= fun _ => pyNext it >>= fun r => match r with
      | none => pure (.done .next)
      | some v => letOwnedTupleGo t₁ it v >>= fun _ => assign t₁ env v >>= fun _ =>
        (eval elt env >>= fun x => call (.builtin "list.append") [acc, x] >>= fun _ => pure ()) >>= fun _ =>
          again (.compLoop (.ListComp elt [⟨t₀, i₀, [], 0⟩, ⟨t₁, i₁, [], 0⟩] scope pos) 1 it acc env)) := by rfl
theorem two1_loop {elt t₀ i₀ t₁ i₁ : Expr} {scope : Scope} {pos : Pos} {it acc : Value} {env : Env} (I : Nat → Shared → Prop)
    (turn : ∀ n s, I n s → wpAny (model prog w) A (pyNext it) (fun r s₁ => match r with
      | none => R (.ok .next) s₁
      | some v => wpAny (model prog w) A (assign t₁ env v) (fun _ s₂ => wpAny (model prog w) A (eval elt env) (fun x s₃ =>
          wpAny (model prog w) A (call (.builtin "list.append") [acc, x]) (fun _ s₄ => ∃ m, m < n ∧ I m s₄) (notedBy (model prog w) A env fun e s' => R (.error e) s') s₃)
          (notedBy (model prog w) A env fun e s' => R (.error e) s') s₂) (notedBy (model prog w) A env fun e s' => R (.error e) s') s₁) (notedBy (model prog w) A env fun e s' => R (.error e) s') s)
    (n : Nat) (h : I n s) (ht : ∀ v, letOwnedTupleGo t₁ it v = pure () := by intro _; rfl) :
    codeAny (model prog w) A (.compLoop (.ListComp elt [⟨t₀, i₀, [], 0⟩, ⟨t₁, i₁, [], 0⟩] scope pos) 1 it acc env) R s := by
  refine codeAny_loop rfl I (fun n s hI => ?_) n h
  show wpAny _ _ ((compTurn (.ListComp elt [⟨t₀, i₀, [], 0⟩, ⟨t₁, i₁, [], 0⟩] scope pos) 1 it acc env).onRaise (fun x => do noteFrame x env; theTreesLotGoes x)) _ _ s
  refine wpAny_noted ?_
  rw [compTurn_two1]
  refine wpAny_bind (wpAny_standAt (wpAny_bind (wpAny_mono (turn n s hI) (fun r s₁ h₁ => ?_) fun _ _ h' => h')))
  cases r with
  | none => exact wpAny_pure h₁
  | some v =>
    refine wpAny_bind (wpAny_of_eq (ht v) ?_)
    exact wpAny_bind (wpAny_mono h₁ (fun _ s₂ h₂ => wpAny_bind (wpAny_bind (wpAny_mono h₂ (fun x s₃ h₃ => wpAny_bind (wpAny_mono h₃
      (fun _ s₄ h₄ => wpAny_pure (wpAny_pure ⟨rfl, h₄⟩)) fun _ _ h' => h')) fun _ _ h' => h'))) fun _ _ h' => h')
theorem two1_start {elt t₀ i₀ t₁ i₁ : Expr} {scope : Scope} {pos : Pos} {it acc : Value} {env : Env}
    (h0 : codeAny (model prog w) A (.compLoop (.ListComp elt [⟨t₀, i₀, [], 0⟩, ⟨t₁, i₁, [], 0⟩] scope pos) 1 it acc env) R s)
    (h : wpAny (model prog w) A (pyIter it) (fun it' s' => codeAny (model prog w) A (.compLoop (.ListComp elt [⟨t₀, i₀, [], 0⟩, ⟨t₁, i₁, [], 0⟩] scope pos) 1 it' acc env) R s')
      (notedBy (model prog w) A env fun x s' => R (.error x) s') s) :
    codeAny (model prog w) A (.compStart (.ListComp elt [⟨t₀, i₀, [], 0⟩, ⟨t₁, i₁, [], 0⟩] scope pos) 1 it acc env) R s := by
  refine codeAny_of_tree ?_
  show wpAny _ _ ((compStart (.ListComp elt [⟨t₀, i₀, [], 0⟩, ⟨t₁, i₁, [], 0⟩] scope pos) 1 it acc env).onRaise (fun x => do noteFrame x env; standAt theWindowsPlace)) _ _ s
  refine wpAny_notedAt ?_
  unfold compStart
  show wpAny _ _ (ask >>= _) _ _ s
  refine wpAny_bind (wpAny_askSetting (wpAny_ite ?_))
  split
  · first
      | exact wpAny_bind (wpAny_pure (wpAny_pure (And.intro rfl h0)))
      | exact wpAny_pure (And.intro rfl h0)
  · first
      | exact wpAny_bind (wpAny_rule (wpAny_bind (wpAny_standAt (wpAny_bind (wpAny_mono h (fun it' s' h' => wpAny_pure (And.intro rfl h')) fun _ _ x => x)))))
      | (refine wpAny_bind (wpAny_rule ?_); show wpAny _ _ (standAt i₁.pos >>= _) _ _ s; exact wpAny_bind (wpAny_standAt (wpAny_bind (wpAny_mono h (fun it' s' h' => wpAny_pure (And.intro rfl h')) fun _ _ x => x))))
theorem two0_loop {elt t₀ i₀ t₁ i₁ : Expr} {scope : Scope} {pos : Pos} {it acc : Value} {env : Env} (I : Nat → Shared → Prop)
    (turn : ∀ n s, I n s → wpAny (model prog w) A (pyNext it) (fun r s₁ => match r with
      | none => R (.ok .next) s₁
      | some v => ∀ E', wpAny (model prog w) A (assign t₀ env v) (fun _ s₂ => wpAny (model prog w) A (eval i₁ env) (fun x s₃ =>
          wpAny (model prog w) A (pyIter x) (fun it' s₄ => codeAny (model prog w) A (.compStart (.ListComp elt [⟨t₀, i₀, [], 0⟩, ⟨t₁, i₁, [], 0⟩] scope pos) 1 it' acc env) (fun r s₅ => r = .ok .next ∧ ∃ m, m < n ∧ I m s₅) s₄) E' s₃) E' s₂) E' s₁)
        (notedBy (model prog w) A env fun e s' => R (.error e) s') s)
    (n : Nat) (h : I n s) (hs : ∀ x, foldedSetIterable i₁ env x = pure x) (ht : ∀ v, letOwnedTupleGo t₀ it v = pure () := by intro _; rfl) :
    codeAny (model prog w) A (.compLoop (.ListComp elt [⟨t₀, i₀, [], 0⟩, ⟨t₁, i₁, [], 0⟩] scope pos) 0 it acc env) R s := by
  refine codeAny_loop rfl I (fun n s hI => ?_) n h
  show wpAny _ _ ((compTurn (.ListComp elt [⟨t₀, i₀, [], 0⟩, ⟨t₁, i₁, [], 0⟩] scope pos) 0 it acc env).onRaise (fun x => do noteFrame x env; theTreesLotGoes x)) _ _ s
  refine wpAny_noted ?_
  rw [compTurn_two0]
  refine wpAny_bind (wpAny_standAt (wpAny_bind (wpAny_mono (turn n s hI) (fun r s₁ h₁ => ?_) fun _ _ h' => h')))
  cases r with
  | none => exact wpAny_pure h₁
  | some v =>
    refine wpAny_bind (wpAny_of_eq (ht v) ?_)
    refine wpAny_bind (wpAny_mono (h₁ _) (fun _ s₂ h₂ => wpAny_bind (wpAny_mono h₂ (fun x s₃ h₃ => wpAny_bind (wpAny_standAt (wpAny_bind (wpAny_of_eq (hs x) (wpAny_bind (wpAny_holding (wpAny_mono h₃
      (fun it' s₄ h₄ => wpAny_bind (wpAny_runOwn (codeAny_mono h₄ fun r s₅ h₅ => ?_))) fun _ _ h' => h'))))))) fun _ _ h' => h')) fun _ _ h' => h')
    obtain ⟨rfl, h₅⟩ := h₅
    exact wpAny_pure ⟨rfl, h₅⟩
end
end Mine
end

/-! part M18 -/
section
open PySem PySem.W PyProof.Rows PySem.Calls
set_option linter.unusedVariables false
set_option Elab.async false
set_option maxRecDepth 100000
namespace Mine
theorem upd_ne {m : Map} {x y : Str} {v : Value} {r : Option Value} (h : y ≠ x) (e : m y = r) : upd m x v y = r := by unfold upd; rw [if_neg h]; exact e
theorem upd_eq (m : Map) (x : Str) (v : Value) : upd m x v x = some v := if_pos rfl
def both (ts : List (List Nat)) : List (List Nat) := ts.flatMap fun t => [t ++ [97], t ++ [98]]
theorem both_len : ∀ ts : List (List Nat), (both ts).length = 2 * ts.length
  | [] => rfl
  | t :: ts => by have := both_len ts; simp only [both, List.flatMap_cons, List.length_append, List.length_cons, List.length_nil] at this ⊢; omega
theorem both_take {ts : List (List Nat)} {i : Nat} {t : List Nat} (h : ts[i]? = some t) : both (ts.take (i + 1)) = both (ts.take i) ++ [t ++ [97], t ++ [98]] := by
  rw [List.take_add_one, h]; simp [both]
section
variable {prog : Program} {w : World} {A : Around} {E : Value → Shared → Prop} {s : Shared} {env : Env} {h : Heap}
/-- two clauses: over a list of texts, over the two signs -/
theorem run2 {elt iter : Expr} {x y : Str} {px py p₁ : Pos} {k₁ : Nat} {scope : Scope} {pos : Pos} {cl : List (Str × Addr)} {ax : Addr} {items : Array Value} {ts : List (List Nat)} {Fin : Array Value → OS → Prop}
    {I C D : Addr} {T' : Nat → Heap → Prop} {oI : Obj} {s₄ : Shared} {R : Result → Shared → Prop} (hA : A.handled = none) (hs : ∀ v, foldedSetIterable (.Constant (.str (Str.ofString "ab")) k₁ p₁) (compEnvC scope cl C env) v = pure v)
    (ht : Texts ts items.toList) (hz : ts.length ≤ 1000) (hfin : ∀ ys : Array Value, Texts (both ts) ys.toList → Fin ys []) 
    (hx : scope.names.lookup x = some .local) (hy : scope.names.lookup y = some .local) (hxy : x ≠ y) (hkind : scope.kind = .function) (hl0 : s.heap.IsList ax items)
    (step : ∀ (v c : Value) (t : List Nat) (g : Nat) (s' : Shared) (m' : Map), t ∈ ts → isT t v → isT [g] c → Sub s.heap s'.heap → s'.heap.Ns C m' → m' x = some v → m' y = some c →
      Ev prog w A s'.heap (eval elt (compEnvC scope cl C env)) (isT (t ++ [g])))
    (W : Walks prog w A I (I :: [ax]) [I] items.size (fun i v => items[i]? = some v) T') (hT : T' 0 s₄.heap) (hl : ∀ i h₂, T' i h₂ → ∃ o, h₂.get? I = some o ∧ plainIt o)
    (st : St [] s C (fun _ => none) [(I, (· = oI)), (D, LObj #[])] s₄) (k : ∀ m' s' ys te, Fin ys te → St [] s C m' ((D, LObj ys) :: te) s' → R (.ok .next) s') :
    codeAny (model prog w) A (.compLoop (.ListComp elt [⟨.Name x px, iter, [], 0⟩, ⟨.Name y py, .Constant (.str (Str.ofString "ab")) k₁ p₁, [], 0⟩] scope pos) 0 (.ref I) (.ref D) (compEnvC scope cl C env)) R s₄ := by
  have hlen : items.size = ts.length := by have := Paired.length ht; simp at this; omega
  refine walk_St (L := C) (B := fun v Q' s₁ => ∀ E', wpAny (model prog w) A (assign (.Name x px) (compEnvC scope cl C env) v) (fun _ s₂ => wpAny (model prog w) A (eval (.Constant (.str (Str.ofString "ab")) k₁ p₁) (compEnvC scope cl C env)) (fun y' s₃ =>
      wpAny (model prog w) A (pyIter y') (fun it' s₄ => codeAny (model prog w) A (.compStart (.ListComp elt [⟨.Name x px, iter, [], 0⟩, ⟨.Name y py, .Constant (.str (Str.ofString "ab")) k₁ p₁, [], 0⟩] scope pos) 1 it' (.ref D) (compEnvC scope cl C env)) (fun r s₅ => r = .ok .next ∧ Q' s₅) s₄) E' s₃) E' s₂) E' s₁)
    (fun i m' os' => ∃ ys : Array Value, os' = [(D, LObj ys)] ∧ Texts (both (ts.take i)) ys.toList)
    (fun v Q₁ Q₂ s hq hb E' => wpAny_mono (hb E') (fun _ _ h1 => wpAny_mono h1 (fun _ _ h2 => wpAny_mono h2 (fun _ s' h3 => codeAny_mono h3 fun r s' h4 => ⟨h4.1, hq s' h4.2⟩) fun _ _ e => e) fun _ _ e => e) fun _ _ e => e)
    (fun Iv turn k s hI => two0_loop Iv (fun k s hI => wpAny_mono (turn k s hI) (fun r s₁ h₁ => by
      cases r with
      | none => exact h₁
      | some v => exact fun E' => h₁ E') fun _ _ e => e) k hI hs) W hl hT st (fun b hb => ?_) ⟨#[], rfl, .nil⟩ ?_ ?_
  · obtain ⟨o, ho, hr⟩ := hl0
    rw [List.mem_singleton.mp hb]
    exact ⟨o, fun i m' os' s' _ st' => st'.sub _ _ ho⟩
  · rintro i v m' os' s' p Q' hi hP _ ⟨ys, rfl, hJ⟩ st kk E'
    obtain ⟨t, hti, htv⟩ := Paired.get ht (i := i) (b := v) (by simpa using hP)
    have htm : t ∈ ts := List.mem_of_getElem? hti
    refine wpAny_assign_Name (ex_store (env := compEnvC scope cl C env) st (fun s₂ st => ?_) (lookup_relabel_local hx) (by simp [compEnvC, relabel, hkind]))
    refine (ev_const_str (x := Str.ofString "ab")).wp (Sub.refl _) fun c h₃ t₃ k₃ r₃ => ?_
    obtain ⟨tk, rfl⟩ := r₃
    refine wpAny_pyIter_ascii (by rw [show Str.ofString "ab" = (⟨#[97, 98]⟩ : Str) from rfl]; simp) ?_
    have st₃ := (st.quiet (tk := t₃) k₃)
    generalize hH : h₃.push { cls := .type "str_ascii_iterator", data := .fields #[.str (Str.ofString "ab") tk, .int 0 0] } = H
    have e₃ : H.get? h₃.objs.size = some { cls := .type "str_ascii_iterator", data := .fields #[.str (Str.ofString "ab") tk, .int 0 0] } := hH ▸ Heap.get?_push_size _ rfl
    have sb : Sub h₃ H := hH ▸ push_sub _ _
    have st₄ := St.push (tk := t₃) (p := (· = { cls := .type "str_ascii_iterator", data := .fields #[.str (Str.ofString "ab") tk, .int 0 0] })) st₃ sb (none_of_size (Nat.le_refl _)) e₃ rfl (by simp)
    have W' := Walks.strAscii (prog := prog) (w := w) hA h₃.objs.size (Str.ofString "ab") tk
    have hT' : H.IsStrIter h₃.objs.size "str_ascii_iterator" (Str.ofString "ab") tk 0 := ⟨_, e₃, rfl, rfl⟩
    have inner : ∀ R', (∀ s'', (∃ ys', Texts (both (ts.take (i + 1))) ys'.toList ∧ ∃ m'', St [] s C m'' [(I, p), (D, LObj ys')] s'') → R' (.ok .next) s'') → 
        codeAny (model prog w) A (.compLoop (.ListComp elt [⟨.Name x px, iter, [], 0⟩, ⟨.Name y py, .Constant (.str (Str.ofString "ab")) k₁ p₁, [], 0⟩] scope pos) 1 (.ref h₃.objs.size) (.ref D) (compEnvC scope cl C env)) R' { s₂ with heap := H, toks := t₃ } := by
      intro R' hR'
      refine walk_St (L := C) (B := fun v Q' s₁ => ∀ E', wpAny (model prog w) A (assign (.Name y py) (compEnvC scope cl C env) v) (fun _ s₂ => wpAny (model prog w) A (eval elt (compEnvC scope cl C env)) (fun y s₃ =>
          wpAny (model prog w) A (call (.builtin "list.append") [.ref D, y]) (fun _ s₄ => Q' s₄) E' s₃) E' s₂) E' s₁) (old := [])
        (fun i' m'' os' => ∃ ys' : Array Value, os' = [(I, p), (D, LObj ys')] ∧ m'' x = some v ∧ Texts (both (ts.take i) ++ [t ++ [97], t ++ [98]].take i') ys'.toList)
        (fun v Q₁ Q₂ s hq hb E' => wpAny_mono (hb E') (fun _ _ h1 => wpAny_mono h1 (fun _ _ h2 => wpAny_mono h2 (fun _ s' h3 => hq s' h3) fun _ _ e => e) fun _ _ e => e) fun _ _ e => e)
        (fun Iv turn k s hI => two1_loop Iv (fun k s hI => wpAny_mono (turn k s hI) (fun r s₁ h₁ => by
          cases r with
          | none => exact h₁
          | some v => exact h₁ _) fun _ _ e => e) k hI) W' (fun i h₂ x => let ⟨o, e, hc, _⟩ := x; ⟨o, e, .inr (.inr hc)⟩) hT' st₄ (fun b hb => nomatch hb) ⟨ys, rfl, by simp [upd], by simpa using hJ⟩ ?_ ?_
      · rintro i' v' m'' os' s' p' Q' hi' hP' _ ⟨ys', rfl, hmx, hJ'⟩ st kk E'
        obtain ⟨g, u, hg, rfl⟩ := hP'
        refine wpAny_assign_Name (ex_store (env := compEnvC scope cl C env) st (fun s₂ st => ?_) (lookup_relabel_local hy) (by simp [compEnvC, relabel, hkind]))
        refine (step v _ t g s₂ _ htm htv ⟨u, rfl⟩ st.sub st.ns (upd_ne hxy hmx) (upd_eq ..)).wp (Sub.refl _) fun y' h₅ t₅ k₅ r₅ => ?_
        have st₅ := st.quiet (tk := t₅) k₅
        have hsz : ys'.size ≤ 2 * i + i' := by
          have := Paired.length hJ'
          rw [List.length_append, both_len] at this
          simp only [List.length_take, Array.length_toList] at this
          omega
        have hi2 : i' < 2 := hi'
        refine wpAny_list_append_plain (hsz := by rw [show sizeLine = 16777216 by decide]; omega) (st₅.list (items := ys') (List.mem_cons_of_mem _ (List.mem_cons_of_mem _ (List.mem_cons_self ..)))) fun h' hl' hs' => ?_
        obtain ⟨nn, e⟩ := hl'
        refine kk _ _ _ ⟨ys'.push y', rfl, upd_ne hxy hmx, ?_⟩ (St.setAt (pre := [(h₃.objs.size, p'), (I, p)]) (tk := t₅) st₅ hs'.extBut e ⟨nn, rfl⟩)
        rw [Array.toList_push]
        have : [t ++ [97], t ++ [98]].take (i' + 1) = [t ++ [97], t ++ [98]].take i' ++ [t ++ [g]] := by
          match i', hi2, hg with
          | 0, _, hg => have : g = 97 := by injection hg with hg; exact hg.symm
                        subst this; rfl
          | 1, _, hg => have : g = 98 := by injection hg with hg; exact hg.symm
                        subst this; rfl
        rw [this, ← List.append_assoc]
        exact Paired.append hJ' (.cons r₅ .nil)
      · rintro m'' os' s' ⟨ys', rfl, _, hJ'⟩ st
        refine hR' s' ⟨ys', ?_, m'', st⟩
        rw [both_take hti]
        exact hJ'
    have fin : ∀ s'', (∃ ys', Texts (both (ts.take (i + 1))) ys'.toList ∧ ∃ m'', St [] s C m'' [(I, p), (D, LObj ys')] s'') → (fun (r : Result) s₅ => r = .ok .next ∧ Q' s₅) (.ok .next) s'' := by
      rintro s'' ⟨ys', hys, m'', st''⟩
      exact ⟨rfl, kk m'' _ s'' ⟨ys', rfl, hys⟩ st''⟩
    have lp := inner (fun (r : Result) s₅ => r = .ok .next ∧ Q' s₅) fin
    exact two1_start lp (W'.self 0 _ _ _ hT' lp)
  · rintro m' os' s' ⟨ys, rfl, hJ⟩ st
    rw [hlen, List.take_length] at hJ
    exact k m' s' ys [] (hfin ys hJ) st
end
end Mine
end

/-! part M19 -/
section
open PySem PySem.W PyProof.Rows PySem.Calls
set_option linter.unusedVariables false
set_option Elab.async false
set_option maxRecDepth 100000
namespace Mine
/-! the table of the law's nested code: it alone may change -/
theorem Std.but {w : World} {h h' : Heap} (S : Std w h) (k : ∀ b o, b ≠ 87 → h.get? b = some o → h'.get? b = some o) : Std w h' := by
  have x : Heap.ExtBut 87 h h' := fun b o hb e => k b o hb e
  refine ⟨fun a o e => k a o (fun q => ?_) (S.K a o e), ?_, ?_, S.nl.extBut x (by decide)⟩
  · subst q
    have : (hd.heap_39 w.params).lookup 87 = none := rfl
    rw [this] at e; cases e
  · obtain ⟨mg, a⟩ := S.g; exact ⟨mg, a.extBut x (by decide)⟩
  · obtain ⟨mb, a, e⟩ := S.b; exact ⟨mb, a.extBut x (by decide), e⟩
section
variable {X : List Addr} {s₀ s : Shared} {L : Addr} {m : Map} {os : OS}
theorem St.wide (x : St [] s₀ L m os s) (X : List Addr) : St X s₀ L m os s := ⟨x.same, x.ns, fun b o _ e => x.keep b o (by simp) e, x.new, x.mem, fun p hp => ⟨(x.fresh p hp).1, (x.fresh p hp).2.elim .inl (fun q => nomatch q)⟩, x.nodup⟩
theorem St.adopt (x : St X s₀ L m os s) {a : Addr} {p : Obj → Prop} {o : Obj} (ho : s.heap.get? a = some o) (hp : p o) (hL : a ≠ L) (hn : s₀.heap.get? a = none ∨ a ∈ X) (hos : ∀ q ∈ os, q.1 ≠ a) : St X s₀ L m ((a, p) :: os) s := by
  refine ⟨x.same, x.ns, x.keep, x.new, fun q hq => ?_, fun q hq => ?_, ?_⟩
  · rcases List.mem_cons.mp hq with rfl | hq
    · exact ⟨o, ho, hp⟩
    · exact x.mem q hq
  · rcases List.mem_cons.mp hq with rfl | hq
    · exact ⟨hL, hn⟩
    · exact x.fresh q hq
  · rw [List.map_cons]
    refine List.nodup_cons.mpr ⟨fun hm => ?_, x.nodup⟩
    obtain ⟨q, hq, e⟩ := List.mem_map.mp hm
    exact hos q hq e
end

section
variable {prog : Program} {w : World} {A : Around} {h : Heap} {n : Nat}
/-- a lambda's call -/
theorem c_lam {f c' : Addr} {name qual : Str} {params : Arguments} {body : Expr} {scope : Scope} {cl : List (Str × Addr)} {pm ctv : Value} {vals : List Value} {binds : List (Str × Value)} {R : Value → Prop} (hA : OkA (n + 1) A) (S : Std w h)
    (ho : h.get? f = some (kla_obj name qual params body scope cl pm c' ctv)) (hcd : h.CodeRec (.ref c') qual) (hbind : bindArgs (kla_fn name qual params body scope cl pm (.ref c') ctv) ⟨vals, []⟩ = pure binds) (hloc : ∀ y ∈ binds, scope.names.lookup y.1 = some .local)
    (hb : ∀ (h₁ : Heap) (L' : Addr), Sub h h₁ → h₁.Ns L' (fun y => binds.reverse.lookup y) → Ev prog w (A.deeper (envX qual scope L' f (.ref c') cl)) h₁ (eval body (envX qual scope L' f (.ref c') cl)) R)
    (hco : scope.isCoroutine = false) (hgen : scope.isGenerator = false) (hk : scope.kind = .function) (hcell : ∀ x ∈ scope.names, x.2 ≠ .cell) : Ev prog w A h (call (.ref f) vals) R :=
  EvR.of fun s Q E hs k => by
    refine wpAny_call (kla_callFunE hA.depth (hs _ _ ho) rfl hco hgen rfl (hcd.keeps hs) ?_)
    rw [hbind]
    refine wpAny_pure (wpAny_newFunctionEnv hcell hloc (fun h₁ hns hsb => ⟨(S.nl.keeps hs).fresh _ hsb, ?_⟩) hk)
    show codeAny _ _ (.expr body (envX qual scope s.heap.objs.size f (.ref c') cl)) _ _
    have hk₁ : Sub s.heap h₁ := fun b o e => hsb.extBut b o (Nat.ne_of_lt (Heap.lt_size e)) (Heap.get?_push_of_some _ e)
    exact kla_codeExpr ((hb h₁ _ (hs.trans hk₁) hns).wp (Sub.refl _) fun v h₂ t₂ k₂ r => k v h₂ t₂ (hk₁.trans k₂) r)
end

/-! the table's place in the ledger -/
def TabOS (qual : Str) (line col : Nat) (tb : OS) : Prop :=
  tb = [(87, (· = tabObj #[]))] ∨ ∃ c' oc vs t, tb = [(87, (· = tabObj #[rawInt line, rawInt col, .ref c'])), (c', (· = oc))] ∧ oc.data = .fields vs ∧ vs[1]? = some (.str qual t)
section
variable {prog : Program} {w : World} {A : Around} {E : Value → Shared → Prop} {s₀ s : Shared} {m : Map} {os tb : OS} {env : Env} {mg : Str → Option Value}
/-- a lambda in the law's own frame -/
theorem ex_lam {params : Arguments} {body : Expr} {scope : Scope} {pos : Pos} {clos : List (Str × Addr)} {Q : Value → Shared → Prop} (S : Std w s.heap) (hg : s.heap.Ns mainGlobals mg) (hb : s.heap.BuiltinsAt mg 87) (hdef : defaultsOf params env = ([], []))
    (hcl : closureFor scope env = pure clos) (hge0 : env.globals = mainGlobals) (hcode : env.code = .ref 89)
    (ht : TabOS (env.qual ++ "<lambda>") pos.line pos.col tb) (st : St [87] s₀ env.locals m (tb ++ os) s)
    (k : ∀ f c' ctv h' tk tb', TabOS (env.qual ++ "<lambda>") pos.line pos.col tb' → Heap.ExtBut 87 s.heap h' → h'.CodeRec (.ref c') (env.qual ++ "<lambda>") → h'.get? f = some (kla_obj "<lambda>" (env.qual ++ "<lambda>") params body scope clos ((mg "__name__").getD .none) c' ctv) →
      St [87] s₀ env.locals m (tb' ++ os) { s with heap := h', toks := tk } → Q (.ref f) { s with heap := h', toks := tk }) :
    wpAny (model prog w) A (eval (.Lambda params body scope pos) env) Q E s := by
  have C : CodeHd s.heap 89 87 := codeHd_of_K S.K rfl
  refine kla_eval hdef ?_
  rcases ht with rfl | ⟨c', oc, vs, t, rfl, hd, hv⟩
  · obtain ⟨o87, e87, rfl⟩ := st.mem (87, (· = tabObj #[])) (List.mem_cons_self ..)
    refine kla_makeFunction (mg := mg) hcl hge0 hg hcode C e87 trivial rfl (by decide) hb fun c' ctv h' tk hx hge hlt hrec htb => ?_
    have hxp : Heap.ExtBut 87 s.heap (h'.push (kla_obj "<lambda>" (env.qual ++ "<lambda>") params body scope clos ((mg "__name__").getD .none) c' ctv)) := fun b o hb e => Heap.get?_push_of_some _ (hx b o hb e)
    have st₂ : St [87] s₀ env.locals m ((87, (· = tabObj #[rawInt pos.line, rawInt pos.col, .ref c'])) :: os) { s with heap := _, toks := tk } := St.setAt (pre := []) st hxp (Heap.get?_push_of_some _ htb) (by simp)
    have hcn : s.heap.get? c' = none := none_of_size hge
    obtain ⟨c₂, oc, vs, t, e2, hoc, hd, hv⟩ := hrec
    injection e2 with e2
    subst e2
    have hc87 : c' ≠ 87 := fun q => by rw [q, e87] at hcn; cases hcn
    have hcL : c' ≠ env.locals := fun q => by obtain ⟨o, _, _, e', _⟩ := st.ns; rw [← q, hcn] at e'; cases e'
    have hc0 : s₀.heap.get? c' = none := by
      cases e : s₀.heap.get? c' with
      | none => rfl
      | some o => have := st.keep c' o (by simpa using hc87) e; rw [hcn] at this; cases this
    have st₃ := st₂.adopt (a := c') (p := (· = oc)) (Heap.get?_push_of_some _ hoc) rfl hcL (.inl hc0) (fun q hq => by
      rcases List.mem_cons.mp hq with rfl | hq
      · exact Ne.symm hc87
      · intro e; obtain ⟨o, e', _⟩ := st.mem q (List.mem_cons_of_mem _ hq); rw [e, hcn] at e'; cases e')
    have st₄ := st₃.perm (os' := [(87, (· = tabObj #[rawInt pos.line, rawInt pos.col, .ref c'])), (c', (· = oc))] ++ os) (List.Perm.swap ..)
    exact k h'.objs.size c' ctv _ tk _ (.inr ⟨c', oc, vs, t, rfl, hd, hv⟩) hxp ⟨c', oc, vs, t, rfl, Heap.get?_push_of_some _ hoc, hd, hv⟩ (Heap.get?_push_size _ rfl) st₄
  · obtain ⟨o87, e87, rfl⟩ := st.mem (87, (· = tabObj #[rawInt pos.line, rawInt pos.col, .ref c'])) (List.mem_cons_self ..)
    obtain ⟨oc', ec, rfl⟩ := st.mem (c', (· = oc)) (List.mem_cons_of_mem _ (List.mem_cons_self ..))
    refine kla_makeFunctionHit (mg := mg) (cv := .ref c') hcl hge0 hg hcode C e87 trivial (by simp [codeAmong, rawInt]) hb fun ctv h' tk hk hsz => ?_
    have hk2 : Sub s.heap (h'.push { cls := .type "function", data := .func (kla_fn "<lambda>" (env.qual ++ "<lambda>") params body scope clos ((mg "__name__").getD .none) (.ref c') ctv) }) := fun b o e => Heap.get?_push_of_some _ (hk b o e)
    exact k h'.objs.size c' ctv _ tk _ (.inr ⟨c', _, vs, t, rfl, hd, hv⟩) (fun b o _ e => hk2 b o e) ⟨c', _, vs, t, rfl, hk2 _ _ ec, hd, hv⟩ (Heap.get?_push_size _ rfl) (st.quiet hk2)
end
end Mine
end

/-! part M20 -/
section
open PySem PySem.W PyProof.Rows PySem.Calls
set_option linter.unusedVariables false
set_option Elab.async false
set_option maxRecDepth 100000
namespace Mine
def fdLaw : { fd : FuncData // ∀ P, ((hd.heap_39 P).lookup 90).map (·.data) = some (.func fd) } := ⟨_, fun P => rfl⟩
section
variable {prog : Program} {w : World} {A : Around} {E : Value → Shared → Prop} {s₀ s : Shared} {m : Map} {os tb : OS} {env : Env} {mg : Str → Option Value} {n : Nat}
/-- a, b = _split_list(x, lambda ..) -/
theorem ex_split {a b x : Str} {pa pb pt px np cpos spos : Pos} {k₀ : Nat} {params : Arguments} {body : Expr} {scope : Scope} {pos : Pos} {clos : List (Str × Addr)} {Q : Flow → Shared → Prop} {ax : Addr} {items : Array Value} {ts : List (List Nat)} (pr : List Nat → Bool)
    (hA : OkA (n + 2) A) (S : Std w s.heap) (hg : s.heap.Ns mainGlobals mg) (hb : s.heap.BuiltinsAt mg 87) (hdef : defaultsOf params env = ([], []))
    (hcl : closureFor scope env = pure clos) (hge0 : env.globals = mainGlobals) (hcode : env.code = .ref 89)
    (ht : TabOS (env.qual ++ "<lambda>") pos.line pos.col tb) (st : St [87] s₀ env.locals m (tb ++ os) s) (hx : m x = some (.ref ax)) (hax : (ax, LObj items) ∈ os) (hts : Texts ts items.toList) (hz : ts.length ≤ 1000)
    (hpred : ∀ f c' ctv s' tb', Std w s'.heap → s'.heap.CodeRec (.ref c') (env.qual ++ "<lambda>") → s'.heap.get? f = some (kla_obj "<lambda>" (env.qual ++ "<lambda>") params body scope clos ((mg "__name__").getD .none) c' ctv) →
      St [87] s₀ env.locals m (tb' ++ os) s' → ∀ (A' : Around) (h' : Heap) (t : List Nat) (v : Value), OkA (n + 1) A' → Sub s'.heap h' → t ∈ ts → isT t v → Ev prog w A' h' (call (.ref f) [v]) (isB (pr t)))
    (k : ∀ ya na ys ns tb' s', TabOS (env.qual ++ "<lambda>") pos.line pos.col tb' → Texts (ts.filter pr) ys.toList → Texts (ts.filter fun t => !pr t) ns.toList →
      St [87] s₀ env.locals (upd (upd m a (.ref ya)) b (.ref na)) ((na, LObj ns) :: (ya, LObj ys) :: (tb' ++ os)) s' → Q .next s')
    (hgl : nsIn (hd.heap_39 w.params) mainGlobals "_split_list" = some (some (.ref 28)) := by rfl) (hk : env.scope.kind = .function := by rfl) (hsp : env.kindOf "_split_list" = some .globalImplicit := by rfl) 
    (hxl : env.kindOf x = some .local := by rfl) (hal : env.kindOf a = some .local := by rfl) (hbl : env.kindOf b = some .local := by rfl) (hxd : (x == ("__debug__" : Str)) = false := by rfl) (hp : (env.scope.kind == .class || (env.scope.kind == .module && env.locals != env.globals)) = false := by rfl)
    (hs₁ : starEach [.Name x px, .Lambda params body scope pos] env = [(false, eval (.Name x px) env), (false, eval (.Lambda params body scope pos) env)] := by rfl)
    (he : eval (.Call (.Name "_split_list" np) [.Name x px, .Lambda params body scope pos] [] cpos) env = (do callWith cpos (← eval (.Name "_split_list" np) env) [] (backTo cpos (starEach [.Name x px, .Lambda params body scope pos] env)) (backToKw cpos (keywordEach [] env))) := by rfl)
    (hsw : swapsWithSole [.Tuple [.Name a pa, .Name b pb] k₀ pt] (.Call (.Name "_split_list" np) [.Name x px, .Lambda params body scope pos] [] cpos) spos.line env = pure false := by rfl)
    (hsw2 : swappedStores [.Tuple [.Name a pa, .Name b pb] k₀ pt] (.Call (.Name "_split_list" np) [.Name x px, .Lambda params body scope pos] [] cpos) env = pure none := by rfl) :
    wpAny (model prog w) A (exec (.Assign [.Tuple [.Name a pa, .Name b pb] k₀ pt] (.Call (.Name "_split_list" np) [.Name x px, .Lambda params body scope pos] [] cpos) spos) env) Q E s := by
  refine Assign_Tuple ?_ hsw hsw2
  obtain ⟨o28, ho28, hd28⟩ := S.fn (fdSplit.2 _)
  refine Call_ ((ev_glob S hgl hge0 hk hsp rfl).wp (Sub.refl _) fun fv h₀ t₀ k₀ r₀ => ?_) he
  subst r₀
  rw [hs₁]
  have st0 := st.quiet (tk := t₀) k₀
  refine callWith_function (o := o28) (fd := fdSplit.1) (evalArgs_plain (spliced_cons ((ev_local st0.ns hx hk hxl hxd).wp (Sub.refl _) fun v h₁ t₁ k₁ r₁ => spliced_cons ?_)))
  subst r₁
  have kk := k₀.trans k₁
  have st1 := st0.quiet (tk := t₁) k₁
  have S1 : Std w h₁ := S.sub kk
  have hb1 : h₁.BuiltinsAt mg 87 := by obtain ⟨bm, ob, b1, b2, b3, b4, b5, b6⟩ := hb; exact ⟨bm, ob, b1, b2, b3, b4, kk _ _ b5, b6⟩
  refine ex_lam (s := { s with heap := h₁, toks := t₁ }) S1 (hg.keeps kk) hb1 hdef hcl hge0 hcode ht st1 fun f c' ctv h₂ t₂ tb' ht' hx2 hcr hf st2 => spliced_nil ⟨⟨hx2 _ _ (by decide) (kk _ _ ho28), hd28⟩, ?_⟩
  have S2 : Std w h₂ := S1.but fun b o hb e => hx2 b o hb e
  have hl2 : h₂.IsList ax items := (st2.list (List.mem_append_right _ hax)).isList
  have hpr := hpred f c' ctv { s with heap := h₂, toks := t₂ } tb' S2 hcr hf st2
  refine (c_split hA S2 pr hl2 hts hz hf rfl hpr).wp (Sub.refl _) fun v h₃ t₃ k₃ r₃ => ?_
  obtain ⟨tp, ya, na, ys, ns, rfl, htp, hya, hna, hyn, etp, ⟨c1, e1⟩, ⟨c2, e2⟩, hy, hn⟩ := r₃
  have h87 : ∃ o, h₂.get? 87 = some o := by
    rcases ht' with rfl | ⟨_, _, _, _, rfl, _, _⟩
    · obtain ⟨o, e, _⟩ := st2.mem _ (List.mem_append_left _ (List.mem_cons_self ..)); exact ⟨o, e⟩
    · obtain ⟨o, e, _⟩ := st2.mem _ (List.mem_append_left _ (List.mem_cons_self ..)); exact ⟨o, e⟩
  have nX : ∀ a, h₂.get? a = none → a ∉ [87] := fun a ha hm => by
    rw [List.mem_singleton] at hm; subst hm
    obtain ⟨o, e⟩ := h87; rw [ha] at e; cases e
  have M : Made [(na, LObj ns), (ya, LObj ys)] h₂ h₃ := by
    refine ⟨fun p hp => ?_, fun p hp => ?_, ?_⟩
    · rcases List.mem_cons.mp hp with rfl | hp
      · exact ⟨_, e2, c2, rfl⟩
      · rw [List.mem_singleton.mp hp]; exact ⟨_, e1, c1, rfl⟩
    · rcases List.mem_cons.mp hp with rfl | hp
      · exact hna
      · rw [List.mem_singleton.mp hp]; exact hya
    · simp only [List.map_cons, List.map_nil]
      exact List.nodup_cons.mpr ⟨fun hm => hyn (List.mem_singleton.mp hm).symm, by simp⟩
  have st3 := st2.pushAll (tk := t₃) k₃ M fun p hp => nX _ (M.fresh p hp)
  exact ex_unpack2 hA.1 st3 ⟨_, etp, rfl, _, rfl⟩ (fun s' st' => k ya na ys ns tb' s' ht' hy hn st') hal hbl hp
end
end Mine
end

/-! part M21 -/
section
open PySem PySem.W PyProof.Rows PySem.Calls PySem.SeqAt
set_option linter.unusedVariables false
set_option Elab.async false
set_option maxRecDepth 100000
namespace Mine
theorem ints_are : ∀ {vs : List Value} {ns : List Int}, IntsAre vs ns → Ints ns vs
  | _, _, .nil => .nil
  | _, _, .cons n t r => .cons ⟨t, rfl⟩ (ints_are r)
section
variable {prog : Program} {w : World} {A : Around} {h : Heap} {env : Env}
/-- xs[k::3], xs a list of ints -/
theorem ev_step {value lo : Expr} {p pos p3 : Pos} {k₃ : Nat} {l : Addr} {vs : List Value} {ns : List Int} {a : Int} (hv : Ev prog w A h (eval value env) (· = .ref l)) (hl : h.IsList l vs.toArray) (hn : IntsAre vs ns) (hlo : Ev prog w A h (eval lo env) (isI a)) (hz : vs.length ≤ 1000)
    (hs : ∀ a, ∃ ops, subscripted (.Slice (some lo) none (some (.Constant (.int 3) k₃ p3)) p) false (.ref l) (.ref a) = operate ops (getItem (.ref l) (.ref a)) := by intro _; exact ⟨_, rfl⟩) (ht : ∀ r, letTemporaryGo value (.ref l) r = pure () := by intro _; rfl) :
    EvR prog w A h (eval (.Subscript value (.Slice (some lo) none (some (.Constant (.int 3) k₃ p3)) p) pos) env) (fun _ v h₂ => ∃ D ys, v = .ref D ∧ h₂.IsList D ys ∧ Ints (pickNums ns (some a) none (some 3)) ys.toList) :=
  EvR.of fun s Q E hsub q => Subscript_ (hv.wp hsub fun v h₁ t₁ k₁ r₁ => wpAny_Slice (by
    rw [evalPart_some, evalPart_some]
    refine hlo.wp (hsub.trans k₁) fun v₂ h₂ t₂ k₂ r₂ => wpAny_of_eq (evalPart_none env) ?_
    refine (ev_const_int (i := 3)).wp (Sub.refl _) fun v₃ h₃ t₃ k₃ r₃ => ?_
    subst r₁
    obtain ⟨t', rfl⟩ := r₂
    obtain ⟨t'', rfl⟩ := r₃
    obtain ⟨ops, hs⟩ := hs h₃.objs.size
    have kk := k₁.trans (k₂.trans k₃)
    have hl' : h₃.IsList l vs.toArray := hl.at fun o e => kk _ _ (hsub _ _ e)
    refine subscriptTail_ops (Heap.IsList.typeIs (s := { s with heap := h₃.push _, toks := t₃ }) (hl'.push _)) list_getitem_lookup
      (wpAny_getItem_list_slice (hl'.push _) (Heap.IsSliceOf.new ..) (.int a t') .none (.int 3 t'') (by decide) ?_ (by rw [show sizeLine = 16777216 by decide]; simp; omega)) hs ht
    exact q _ _ _ (kk.trans ((push_sub _ _).trans (push_sub _ _))) ⟨_, _, rfl, ⟨_, Heap.get?_push_size _ rfl, rfl, _, rfl⟩, ints_are (hn.pick ..)⟩))
theorem ev_true_cmpR {l r : Expr} {op : CmpOp} {pos : Pos} {whole : Sem Value} {c : Bool} {R₁ R₂ : Heap → Value → Heap → Prop} (hl : EvR prog w A h (eval l env) R₁) (hr : EvR prog w A h (eval r env) R₂)
    (ho : ∀ a b h₁ h₂ h₃, Sub h h₁ → Sub h₁ h₂ → Sub h₂ h₃ → R₁ h₁ a h₂ → R₂ h₂ b h₃ → Ev prog w A h₃ (compareOp op a b) (isB c)) (hm : behindInMarks op r = false) : Ev prog w A h (isTrue (.Compare l [op] [r] pos) env whole) (· = c) :=
  EvR.of fun s Q E hs k => wpAny_isTrue_Compare1 (hl.wp hs fun a h₁ t₁ k₁ r₁ => hr.wp (hs.trans k₁) fun b h₂ t₂ k₂ r₂ => (ho a b _ _ _ hs k₁ k₂ r₁ r₂).wp (Sub.refl _) fun v h₃ t₃ k₃ r₃ =>
    (ev_truthy r₃).wp (Sub.refl _) fun z h₄ t₄ k₄ r₄ => k z h₄ t₄ (k₁.trans (k₂.trans (k₃.trans k₄))) r₄) hm
theorem ev_cmpR {l r : Expr} {op : CmpOp} {pos : Pos} {R : Value → Prop} {R₁ R₂ : Heap → Value → Heap → Prop} (hl : EvR prog w A h (eval l env) R₁) (hr : EvR prog w A h (eval r env) R₂)
    (ho : ∀ a b h₁ h₂ h₃, Sub h h₁ → Sub h₁ h₂ → Sub h₂ h₃ → R₁ h₁ a h₂ → R₂ h₂ b h₃ → Ev prog w A h₃ (compareOp op a b) R) (hm : behindInMarks op r = false) : Ev prog w A h (eval (.Compare l [op] [r] pos) env) R :=
  EvR.of fun s Q E hs k => wpAny_Compare1 (hl.wp hs fun a h₁ t₁ k₁ r₁ => hr.wp (hs.trans k₁) fun b h₂ t₂ k₂ r₂ => (ho a b _ _ _ hs k₁ k₂ r₁ r₂).wp (Sub.refl _) fun v h₃ t₃ k₃ r₃ => k v h₃ t₃ (k₁.trans (k₂.trans k₃)) r₃) hm
/-- xs == [] -/
theorem ev_eq_empty {l b : Addr} {ys : Array Value} {c : Bool} (hu : A.units < cLine) (hl : h.IsList l ys) (hb : h.IsList b #[]) (hc : ys.size = 0 ↔ c = true) : Ev prog w A h (compareOp .Eq (.ref l) (.ref b)) (isB c) :=
  EvR.of fun s Q E hs k => by
    by_cases hy : ys.size = 0
    · refine eq_listAt (e := fun _ => true) (hl.at fun o e => hs _ _ e) (hb.at fun o e => hs _ _ e) hy hu (fun j h1 _ => absurd h1 (by omega)) (k _ s.heap s.toks (Sub.refl _) ?_)
      rw [hc.mp hy]; simp [isB]
    · refine eq_list_lengthsAt (hl.at fun o e => hs _ _ e) (hb.at fun o e => hs _ _ e) (by simpa using hy) hu (k _ s.heap s.toks (Sub.refl _) ?_)
      have : c = false := by cases c with | false => rfl | true => exact absurd (hc.mpr rfl) hy
      rw [this]; rfl
end
section
variable {A : Around} {s : Shared}
theorem eqInts {l b : Addr} {items items2 : Array Value} {is : List Int} (hne : l ≠ b) (hu : A.units < cLine) (hl : s.heap.IsList l items) (hb : s.heap.IsList b items2) (h1 : Ints is items.toList) (h2 : Ints is items2.toList) : EqAt A s (.ref l) (.ref b) true := by
  have e1 := Paired.length h1
  have e2 := Paired.length h2
  simp only [Array.length_toList] at e1 e2
  have := EqAt.of_refs hne (RcAt.lists (e := fun _ => true) hl hb (by omega) hu fun j q1 q2 => by
    obtain ⟨i, hi, ⟨t, ht⟩⟩ := Paired.get h1 (i := j) (b := items[j]) (by simp)
    obtain ⟨i', hi', ⟨u, hu⟩⟩ := Paired.get h2 (i := j) (b := items2[j]) (by simp)
    rw [hi] at hi'; cases hi'
    rw [ht, hu]
    have := EqAt.int_int (A := A.in1) (s := s) i t i u
    rwa [beq_self_eq_true] at this)
  rwa [show (List.range items.size).all (fun _ => true) = true by simp] at this
theorem eqRows {l b : Addr} {items items2 : Array Value} {gs : List (List Int)} {rows rows2 : List (Addr × Array Value)} (hne : l ≠ b) (hu : A.in1.units < cLine) (hl : s.heap.IsList l items) (hb : s.heap.IsList b items2)
    (e1 : items.toList = rows.map refOf) (e2 : items2.toList = rows2.map refOf) (h1 : Rows gs rows) (h2 : Rows gs rows2) (l1 : ∀ r ∈ rows, s.heap.IsList r.1 r.2) (l2 : ∀ r ∈ rows2, s.heap.IsList r.1 r.2) (hd : ∀ r ∈ rows, ∀ r' ∈ rows2, r.1 ≠ r'.1) : EqAt A s (.ref l) (.ref b) true := by
  have z1 := Paired.length h1
  have z2 := Paired.length h2
  have y1 := congrArg List.length e1
  have y2 := congrArg List.length e2
  simp only [Array.length_toList, List.length_map] at y1 y2
  have := EqAt.of_refs hne (RcAt.lists (e := fun _ => true) hl hb (by omega) (show A.units < cLine by have : A.in1.units = A.units + 1 := rfl; omega) fun j q1 q2 => by
    have a1 : rows[j]? = some rows[j] := List.getElem?_eq_getElem (by omega)
    have a2 : rows2[j]? = some rows2[j] := List.getElem?_eq_getElem (by omega)
    have b1 : items[j] = refOf rows[j] := by
      have : items.toList[j]? = (rows.map refOf)[j]? := by rw [e1]
      rw [List.getElem?_map, a1] at this
      simpa [q1] using this
    have b2 : items2[j] = refOf rows2[j] := by
      have : items2.toList[j]? = (rows2.map refOf)[j]? := by rw [e2]
      rw [List.getElem?_map, a2] at this
      simpa [q2] using this
    obtain ⟨i, hi, hr⟩ := Paired.get h1 a1
    obtain ⟨i', hi', hr'⟩ := Paired.get h2 a2
    rw [hi] at hi'; cases hi'
    rw [b1, b2]
    have m1 := List.mem_of_getElem? a1
    have m2 := List.mem_of_getElem? a2
    exact eqInts (hd _ m1 _ m2) hu (l1 _ m1) (l2 _ m2) hr hr')
  rwa [show (List.range items.size).all (fun _ => true) = true by simp] at this
end
end Mine
end

/-! part P3 -/
section
open PySem PySem.W PyProof.Rows PySem.Calls
set_option linter.unusedVariables false
set_option Elab.async false
set_option maxRecDepth 100000
namespace Mine
/-! what law counts -/
def pr (w t : List Nat) : Bool := t.drop (t.length - w.length) == w
def sieve (ws : List (List Nat)) (i : Nat) (ts : List (List Nat)) : List (List Nat) := ts.filter fun t => (ws.take i).all fun w => !pr w t
noncomputable def texts (ws : List (List Nat)) : Nat → List (List Nat)
  | 0 => [[]]
  | n + 1 => sieve ws ws.length (both (texts ws n))
noncomputable def cnt (ws : List (List Nat)) (i : Nat) : Nat → Int
  | 0 => 0
  | n + 1 => ((sieve ws i (both (texts ws n))).filter (pr (ws.getD i []))).length
noncomputable def lenRow (ws : List (List Nat)) (n : Nat) : List Int := (List.range (n + 1)).map fun m => ((texts ws m).length : Int)
noncomputable def cntRow (ws : List (List Nat)) (i n : Nat) : List Int := (List.range (n + 1)).map (cnt ws i)
noncomputable def goneG (ws : List (List Nat)) (n q : Nat) : List (List Int) := (List.range ws.length).map fun i => if i < q then cntRow ws i (n + 1) else cntRow ws i n
theorem sieve_zero (ws ts : List (List Nat)) : sieve ws 0 ts = ts := by simp [sieve]
theorem sieve_succ (ws ts : List (List Nat)) (i : Nat) (hi : i < ws.length) : (sieve ws i ts).filter (fun t => !pr (ws.getD i []) t) = sieve ws (i + 1) ts := by
  unfold sieve
  rw [List.filter_filter]
  congr 1
  funext t
  rw [List.take_add_one, List.getElem?_eq_getElem hi, List.getD_eq_getElem?_getD, List.getElem?_eq_getElem hi, List.all_append, Bool.and_comm]
  simp only [Option.toList_some, List.all_cons, List.all_nil, Bool.and_true, Option.getD_some]
theorem sieve_len (ws ts : List (List Nat)) (i : Nat) : (sieve ws i ts).length ≤ ts.length := List.length_filter_le ..
theorem texts_len (ws : List (List Nat)) : ∀ n, (texts ws n).length ≤ 2 ^ n
  | 0 => by simp [texts]
  | n + 1 => by
    have h1 := texts_len ws n
    have h2 := sieve_len ws (both (texts ws n)) ws.length
    rw [both_len] at h2
    rw [texts, Nat.pow_succ]; omega
theorem both_mem {ts : List (List Nat)} {n : Nat} (h : ∀ t ∈ ts, t.length = n) : ∀ t ∈ both ts, t.length = n + 1 := fun t ht => by
  obtain ⟨u, hu, hm⟩ := List.mem_flatMap.mp ht
  have := h u hu
  simp at hm
  rcases hm with rfl | rfl <;> simp [this]
theorem sieve_mem {ws ts : List (List Nat)} {i : Nat} {t : List Nat} (h : t ∈ sieve ws i ts) : t ∈ ts := (List.mem_filter.mp h).1
theorem texts_mem (ws : List (List Nat)) : ∀ n, ∀ t ∈ texts ws n, t.length = n
  | 0 => by simp [texts]
  | n + 1 => fun t ht => both_mem (texts_mem ws n) t (sieve_mem ht)
theorem lenRow_succ (ws : List (List Nat)) (n : Nat) : lenRow ws (n + 1) = lenRow ws n ++ [((texts ws (n + 1)).length : Int)] := by
  unfold lenRow; rw [List.range_succ, List.map_append]; rfl
theorem cntRow_succ (ws : List (List Nat)) (i n : Nat) : cntRow ws i (n + 1) = cntRow ws i n ++ [cnt ws i (n + 1)] := by
  unfold cntRow; rw [List.range_succ, List.map_append]; rfl
theorem goneG_zero (ws : List (List Nat)) : goneG ws 0 0 = List.replicate ws.length [0] := by
  refine List.ext_getElem (by simp [goneG]) fun i h1 h2 => by simp [goneG, cntRow, cnt]
theorem goneG_end (ws : List (List Nat)) (n : Nat) : goneG ws n ws.length = goneG ws (n + 1) 0 := by
  unfold goneG
  refine List.map_congr_left fun i hi => ?_
  rw [if_pos (List.mem_range.mp hi), if_neg (Nat.not_lt_zero _)]
theorem goneG_get (ws : List (List Nat)) (n q i : Nat) (hi : i < ws.length) : (goneG ws n q)[i]? = some (if i < q then cntRow ws i (n + 1) else cntRow ws i n) := by
  unfold goneG; rw [List.getElem?_map, List.getElem?_range hi]; rfl
theorem goneG_succ (ws : List (List Nat)) (n q : Nat) (hq : q < ws.length) : goneG ws n (q + 1) = (goneG ws n q).set q (cntRow ws q n ++ [cnt ws q (n + 1)]) := by
  refine List.ext_getElem? fun i => ?_
  by_cases hi : i < ws.length
  · rw [goneG_get _ _ _ _ hi, List.getElem?_set, goneG_get _ _ _ _ hi]
    by_cases e : q = i
    · subst e; simp [goneG, hq, cntRow_succ]
    · rw [if_neg e]
      by_cases h1 : i < q
      · rw [if_pos h1, if_pos (by omega)]
      · rw [if_neg h1, if_neg (by omega)]
  · rw [List.getElem?_eq_none (by simp [goneG]; omega), List.getElem?_eq_none (by simp [goneG]; omega)]
end Mine
end

/-! part M22 -/
section
open PySem PySem.W PyProof.Rows PySem.Calls PySem.SeqAt
set_option linter.unusedVariables false
set_option Elab.async false
set_option maxRecDepth 100000
namespace Mine
/-- the words that stay -/
def kept (dr : List (List Nat)) : List (List Nat) := ((List.range dr.length).filter (clean dr)).map fun k => dr.getD k []
theorem kept_paired {dr : List (List Nat)} {n : Nat} {vs ys : List Value} (hn : dr.length = n) (hlen : vs.length = n) (hP : ∀ (j : Nat) (u : Value), vs[j]? = some u → isI ((j : Int)) u)
    (hF : Paired (fun v y => isT (dr.getD (natOf v) []) y) (vs.filter fun v => clean dr (natOf v)) ys) : Texts (kept dr) ys := by
  have hv : vs.map natOf = List.range n := by
    refine List.ext_getElem? fun i => ?_
    rw [List.getElem?_map]
    by_cases hi : i < vs.length
    · rw [List.getElem?_eq_getElem hi, List.getElem?_range (by omega), Option.map_some, natOf_isI (hP i _ (List.getElem?_eq_getElem hi))]
    · rw [List.getElem?_eq_none (by omega), List.getElem?_eq_none (by simp; omega)]; rfl
  have he : (vs.filter fun v => clean dr (natOf v)).map natOf = (List.range n).filter (clean dr) := by
    rw [← hv, List.filter_map]; rfl
  unfold kept
  rw [hn, ← he, List.map_map]
  clear he hv hP hlen
  generalize (vs.filter fun v => clean dr (natOf v)) = us at hF
  induction hF with
  | nil => exact .nil
  | cons h _ ih => exact .cons h ih
theorem St.less {X : List Addr} {s₀ s : Shared} {L : Addr} {m : Map} {os os' : OS} (x : St X s₀ L m os s) (h : os'.Sublist os) : St X s₀ L m os' s :=
  ⟨x.same, x.ns, x.keep, x.new, fun p hp => x.mem p (h.subset hp), fun p hp => x.fresh p (h.subset hp), (h.map _).nodup x.nodup⟩
theorem perm_a {α : Type} (d i x y t : α) (tb rest : List α) : (d :: i :: (tb ++ (x :: y :: t :: rest))).Perm ((i :: (tb ++ (x :: y :: d :: rest))) ++ [t]) := by
  classical
  refine List.perm_iff_count.mpr fun a => ?_
  simp only [List.count_append, List.count_cons, List.count_nil]; omega
theorem perm_b {α : Type} (i j : α) (tb rest : List α) : (i :: j :: (tb ++ rest)).Perm (tb ++ (i :: j :: rest)) := by
  classical
  refine List.perm_iff_count.mpr fun a => ?_
  simp only [List.count_append, List.count_cons]; omega
theorem perm_c {α : Type} (d e i j x y t : α) (tb rest : List α) : (d :: e :: (tb ++ (i :: j :: x :: y :: t :: rest))).Perm ((i :: j :: (tb ++ (x :: y :: d :: rest)) ++ [e]) ++ [t]) := by
  classical
  refine List.perm_iff_count.mpr fun a => ?_
  simp only [List.count_append, List.count_cons, List.count_nil]; omega
theorem TabOS.has {qual : Str} {line col : Nat} {tb : OS} (h : TabOS qual line col tb) : ∃ ps, (87, (· = tabObj ps)) ∈ tb := by
  rcases h with rfl | ⟨_, _, _, _, rfl, _, _⟩
  · exact ⟨_, List.mem_cons_self ..⟩
  · exact ⟨_, List.mem_cons_self ..⟩
section
variable {prog : Program} {w : World} {A : Around} {E : Value → Shared → Prop} {s : Shared} {n : Nat} {mg : Str → Option Value}
set_option maxHeartbeats 4000000 in
theorem c_law {Q : Value → Shared → Prop} {l : Addr} {vs : List Value} {ns : List Int} (hA : OkA (n + 5) A) (S : Std w s.heap) (hg : s.heap.Ns mainGlobals mg) (hb : s.heap.BuiltinsAt mg 87) (h87 : s.heap.get? 87 = some (tabObj #[]))
    (hl : s.heap.IsList l vs.toArray) (hn : IntsAre vs ns) (hz : vs.length ≤ 63) (plain : ∀ N₀ N₁ N₂ : Int, let ws := kept [word N₀, word N₁, word N₂]; foreT ws 7 = (lenRow ws 7, goneG ws 7 0))
    (k : ∀ s' ps, (∃ h tk, s' = { s with heap := h, toks := tk }) → (∀ b o, b ≠ 87 → s.heap.get? b = some o → s'.heap.get? b = some o) → s'.heap.get? 87 = some (tabObj ps) → Q (.bool true) s') :
    wpAny (model prog w) A (call (.ref 90) [.ref l]) Q E s := by
  obtain ⟨o, ho, hd⟩ := S.fn (fdLaw.2 _)
  refine wpAny_call (codeAny_call_cells hA.depth ho hd S.nl (S.code (c := 89) rfl rfl) (body := _) rfl (binds := [("script", .ref l)]) rfl rfl ?_ (fun s₁ x => ?_) rfl rfl rfl)
  · intro z hz; simp at hz; subst hz; exact .inr ⟨rfl, rfl⟩
  generalize s.heap.objs.size = L at x ⊢
  have st0 := St.ofCall x (by
    intro z hz
    have e : (callEnvC fdLaw.1 L 90).cells = [(Str.ofString "words", L + 5), (Str.ofString "i", L + 4), (Str.ofString "drawn", L + 3), (Str.ofString "given", L + 2), (Str.ofString "script", L + 1)] := rfl
    rw [e] at hz ⊢
    simp at hz; rcases hz with rfl | rfl | rfl | rfl | rfl <;> rfl)
  have hA1 := hA.deeper (callEnvC fdLaw.1 L 90)
  replace st0 : St [] s (callEnvC fdLaw.1 L 90).locals (fun _ => none) [(L + 5, CObj none), (L + 4, CObj none), (L + 3, CObj none), (L + 2, CObj none), (L + 1, CObj (some (.ref l)))] s₁ := st0
  have S₁ : Std w s₁.heap := S.sub st0.sub
  have hl₁ : s₁.heap.IsList l vs.toArray := hl.at fun o e => st0.sub _ _ e
  -- given
  refine wpAny_execs_cons (ex_assignC (X := []) (s₀ := s) (m := fun _ => none) (c := L + 2) (xList3 (R₁ := isI 10) (R₂ := isI 29) (R₃ := isI 16) xInt xInt xInt) (fun v h₁ t₁ k₁ r₁ => ?_) rfl rfl rfl rfl)
  obtain ⟨ga, g0, g1, g2, rfl, hga, ⟨ng, eg⟩, hg0, hg1, hg2⟩ := r₁
  refine ⟨[(ga, LObj #[g0, g1, g2]), (L + 5, CObj none), (L + 4, CObj none), (L + 3, CObj none)], [(L + 1, CObj (some (.ref l)))], none, st0.push (p := LObj #[g0, g1, g2]) k₁ hga eg ⟨ng, rfl⟩ (by simp), fun s₂ st => ?_⟩
  clear k₁ st0 hl₁ S₁ eg
  have S₂ : Std w s₂.heap := S.sub st.sub
  have hl₂ : s₂.heap.IsList l vs.toArray := hl.at fun o e => st.sub _ _ e
  have hcg := st.cell (c := L + 2) (v := some (.ref ga)) (by simp)
  have hcs := st.cell (c := L + 1) (v := some (.ref l)) (by simp)
  have hgl := (st.list (a := ga) (items := #[g0, g1, g2]) (by simp)).isList
  let Nk : Nat → Int := fun k => [10, 29, 16].getD k 0 + (pickNums ns (some (k : Int)) none (some 3)).sum
  -- drawn
  refine wpAny_execs_cons (ex_assignC (X := []) (s₀ := s) (m := fun _ => none) (c := L + 3) (ev_comp (fun _ => true) (fun v y => isT (word (Nk (natOf v))) y)
      (it_range hA1.1 (a := 0) (b := 3) (n := 3) (by omega) (by omega) (by omega) (by omega) (by omega) (ev_range1 (ev_builtin S₂ rfl boot_range (by decide) rfl rfl rfl rfl rfl) (xInt (c := 3)) rfl rfl))
      (fun C i v h' m hsub hi hP hn hm => ev_tests0)
      (fun C i v h' m hsub hi hP _ hnn hm => ?_)
      rfl (by decide) rfl (by decide) rfl (fun _ => rfl) (by decide)) (fun v h₁ t₁ k₁ r₁ => ?_) rfl rfl rfl rfl)
  · rw [Int.zero_add] at hP
    rw [natOf_isI hP]
    have S' := S₂.sub hsub
    have hgi : ∃ u, #[g0, g1, g2][i]? = some u ∧ isI ([10, 29, 16].getD i 0) u := by
      match i, hi with
      | 0, _ => exact ⟨g0, rfl, hg0⟩
      | 1, _ => exact ⟨g1, rfl, hg1⟩
      | 2, _ => exact ⟨g2, rfl, hg2⟩
    obtain ⟨u, hu, hui⟩ := hgi
    exact xCall1 S' rfl (fdWord.2 _) (R₁ := isI (Nk i)) (xAdd (xItem (k := i) (xCell (hcg.keeps hsub) rfl) (hgl.at fun o e => hsub _ _ e) (xLoc hnn (v := v) hP (hv := hm)) hu hui)
      (ev_callb1R (ev_builtin S' rfl boot_sum (by decide) rfl rfl rfl rfl rfl) (ev_step (xCell (hcs.keeps hsub) rfl) (hl₂.at fun o e => hsub _ _ e) hn (xLoc hnn (v := v) hP (hv := hm)) (by omega))
        (fun v h₁ h₂ _ _ r => by obtain ⟨D, ys, rfl, hD, hI⟩ := r; exact ev_sum hA1.1 hD hI) rfl rfl) rfl) (fun v rv => c_word hA1 S' rv)
  obtain ⟨da, dys, dvs, rfl, hda, ⟨nd, ed⟩, hdl, hdP, hdF⟩ := r₁
  have hdr : Texts ((List.range 3).map fun k => word (Nk k)) dys.toList := paired_range (a := 0) (fun k => word (Nk k)) hdl hdP hdF fun j u y hj hu hf => by rw [Int.zero_add] at hu; rw [natOf_isI hu] at hf; exact hf
  replace hdr : Texts [word (Nk 0), word (Nk 1), word (Nk 2)] dys.toList := hdr
  refine ⟨[(da, LObj dys), (ga, LObj #[g0, g1, g2]), (L + 5, CObj none), (L + 4, CObj none)], [(L + 2, CObj (some (.ref ga))), (L + 1, CObj (some (.ref l)))], none, st.push (p := LObj dys) k₁ hda ed ⟨nd, rfl⟩ (by simp), fun s₃ st => ?_⟩
  clear k₁ hcg hcs hgl hl₂ S₂ ed hda hdl hdP hdF
  have pl := plain (Nk 0) (Nk 1) (Nk 2)
  have lens : ∀ t ∈ [word (Nk 0), word (Nk 1), word (Nk 2)], 1 ≤ t.length ∧ t.length ≤ 100 := by
    have : ∀ N, 1 ≤ (word N).length ∧ (word N).length ≤ 100 := fun N => by unfold word; simp; omega
    intro t ht; simp at ht; rcases ht with rfl | rfl | rfl <;> exact this _
  generalize hdrs : [word (Nk 0), word (Nk 1), word (Nk 2)] = dr at hdr pl lens
  have hdr3 : dr.length = 3 := by rw [← hdrs]; rfl
  clear hdrs
  have S₃ : Std w s₃.heap := S.sub st.sub
  have hcd := st.cell (c := L + 3) (v := some (.ref da)) (by simp)
  have hdl := (st.list (a := da) (items := dys) (by simp)).isList
  -- words
  refine wpAny_execs_cons (ex_assignC (X := []) (s₀ := s) (m := fun _ => none) (c := L + 5) (ev_comp (fun v => clean dr (natOf v)) (fun v y => isT (dr.getD (natOf v) []) y)
      (it_range hA1.1 (a := 0) (b := 3) (n := 3) (by omega) (by omega) (by omega) (by omega) (by omega) (ev_range1 (ev_builtin S₃ rfl boot_range (by decide) rfl rfl rfl rfl rfl) (xInt (c := 3)) rfl rfl))
      (fun C i v h' m hsub hi hP hnn hm => ?_)
      (fun C i v h' m hsub hi hP _ hnn hm => ?_)
      rfl (by decide) rfl (by decide) rfl (fun _ => rfl) (by decide)) (fun v h₁ t₁ k₁ r₁ => ?_) rfl rfl rfl rfl)
  · rw [Int.zero_add] at hP
    rw [natOf_isI hP]
    have S' := S₃.sub hsub
    refine ev_tests1 (ev_true_cmpR (xCall2 S' rfl (fdWithin.2 _) (R₁ := (· = .ref da)) (R₂ := isI (i : Int)) (xCell (hcd.keeps hsub) rfl) (xLoc hnn (v := v) hP (hv := hm))
      (fun v u rv ru => by subst rv; exact c_within hA1 S' (hdl.at fun o e => hsub _ _ e) hdr (by omega) ru (by omega)) (fun h₁ h₂ v h₃ kk r => by
        obtain ⟨D, ys, rfl, hD, r⟩ := r
        refine ⟨D, ys, rfl, ?_, r⟩
        cases e : h₁.get? D with
        | none => rfl
        | some o => have := kk _ _ e; rw [hD] at this; cases this)) xList0 (fun a b h₁ h₂ h₃ q1 q2 q3 r₁ r₂ => ?_) rfl)
    obtain ⟨D, ys, rfl, hD, hpl, hc⟩ := r₁
    obtain ⟨D2, rfl, hD2, hpl2⟩ := r₂
    exact ev_eq_empty hA1.units (hpl.isList.at fun o e => q3 _ _ e) hpl2.isList hc
  · rw [Int.zero_add] at hP
    rw [natOf_isI hP]
    obtain ⟨u, hu, hf⟩ := Paired.get' hdr (List.getElem?_eq_getElem (show i < dr.length by omega))
    exact xItem (k := i) (xCell (hcd.keeps hsub) rfl) (hdl.at fun o e => hsub _ _ e) (xLoc hnn (v := v) hP (hv := hm)) (by simpa using hu) (by rw [List.getD_eq_getElem?_getD, List.getElem?_eq_getElem (show i < dr.length by omega)]; exact hf)
  obtain ⟨wa, wys, wvs, rfl, hwa, ⟨nw, ew⟩, hwl, hwP, hwF⟩ := r₁
  have hws : Texts (kept dr) wys.toList := kept_paired hdr3 hwl (fun j u hj => by have := hwP j u hj; rwa [Int.zero_add] at this) hwF
  refine ⟨[(wa, LObj wys), (da, LObj dys), (ga, LObj #[g0, g1, g2])], [(L + 4, CObj none), (L + 3, CObj (some (.ref da))), (L + 2, CObj (some (.ref ga))), (L + 1, CObj (some (.ref l)))], none, st.push (p := LObj wys) k₁ hwa ew ⟨nw, rfl⟩ (by simp), fun s₄ st => ?_⟩
  clear k₁ hcd hdl S₃ ew hwa hwl hwP hwF
  have lens2 : ∀ t ∈ kept dr, 1 ≤ t.length ∧ t.length ≤ 100 := fun t ht => by
    unfold kept at ht
    obtain ⟨j, hj, rfl⟩ := List.mem_map.mp ht
    have hj' := List.mem_range.mp (List.mem_filter.mp hj).1
    rw [List.getD_eq_getElem?_getD, List.getElem?_eq_getElem hj']
    exact lens _ (List.getElem_mem hj')
  have wsl : (kept dr).length ≤ 3 := by
    unfold kept; rw [List.length_map]; exact Nat.le_trans (List.length_filter_le ..) (by simp [hdr3])
  generalize kept dr = ws at hws pl lens2 wsl
  clear lens hdr
  have hwlen : wys.size = ws.length := by have := Paired.length hws; simp at this; omega
  -- texts, left
  refine wpAny_execs_cons (ex_assign st (xList1 (R₁ := isT []) (xStr txt_empty)) (fun v h₁ t₁ k₁ r₁ => ?_) rfl rfl rfl)
  obtain ⟨ta, tu, rfl, hta, ⟨nt, et⟩, htu⟩ := r₁
  refine ⟨_, st.push (p := LObj #[tu]) k₁ hta et ⟨nt, rfl⟩ (by simp), fun s₅ st => ?_⟩
  refine wpAny_execs_cons (ex_assign st (xList1 (R₁ := isI 1) xInt) (fun v h₁ t₁ k₁ r₁ => ?_) rfl rfl rfl)
  obtain ⟨lA, u1, rfl, hlA, ⟨nl, el⟩, hu1⟩ := r₁
  refine ⟨_, st.push (p := LObj #[u1]) k₁ hlA el ⟨nl, rfl⟩ (by simp), fun s₆ st => ?_⟩
  have hcw := st.cell (c := L + 5) (v := some (.ref wa)) (by simp)
  have hwl := (st.list (a := wa) (items := wys) (by simp)).isList
  -- gone
  refine wpAny_execs_cons (ex_assign_comp (Fin := GoneJ ws.length ws.length) (n := wys.size) st (by simp) (EvIt.list hA1.1 (xCell hcw rfl) hwl)
    (fun I T C D oI s₄ R W hT hl' _ st' k => run1 (GoneJ ws.length) ⟨[], rfl, Nat.zero_le _, rfl, List.Perm.refl _, .nil⟩ (fun _ _ q => by rw [hwlen] at q; exact q) (fun i ys te q => by have := q.size; omega)
      rfl rfl (fun b hb => by rw [List.mem_singleton.mp hb]; obtain ⟨o, e, _⟩ := hwl; exact ⟨o, e⟩) (fun i v ys te s' m' hi hP hJ hsub hte hn hm => ?_) W hT hl' st' k)
    (fun Dg gits teg s₇ hFg st => ?_) rfl rfl (by decide) rfl (by decide) (fun _ => rfl) rfl rfl)
  · refine (xList1 (R₁ := isI 0) xInt).mono fun h₁ y h₂ _ _ r => ?_
    obtain ⟨a, u, rfl, ha, ⟨na, ea⟩, hu⟩ := r
    exact ⟨[(a, LObj #[u])], ⟨fun p hp => by rw [List.mem_singleton.mp hp]; exact ⟨_, ea, na, rfl⟩, fun p hp => by rw [List.mem_singleton.mp hp]; exact ha, by simp⟩, hJ.step (by omega) hu⟩
  obtain ⟨rows0, rlen0, _, grefs0, gperm, grows0⟩ := hFg
  clear hcw hwl
  generalize hfix : [(Dg, LObj gits), (wa, LObj wys), (L + 5, CObj (some (Value.ref wa)))] = fix
  have fDg : (Dg, LObj gits) ∈ fix := by rw [← hfix]; simp
  have fwa : (wa, LObj wys) ∈ fix := by rw [← hfix]; simp
  have fcw : (L + 5, CObj (some (Value.ref wa))) ∈ fix := by rw [← hfix]; simp
  have st1 : St [] s (callEnvC fdLaw.1 L 90).locals (upd (upd (upd (fun _ => none) "texts" (.ref ta)) "left" (.ref lA)) "gone" (.ref Dg)) ((L + 4, CObj none) :: (lA, LObj #[u1]) :: (ta, LObj #[tu]) :: (rows0.map rowE ++ fix)) s₇ := by
    subst hfix
    have p1 : ((Dg, LObj gits) :: teg ++ ((lA, LObj #[u1]) :: (ta, LObj #[tu]) :: ([(wa, LObj wys), (da, LObj dys), (ga, LObj #[g0, g1, g2])] ++ (L + 5, CObj (some (Value.ref wa))) :: [(L + 4, CObj none), (L + 3, CObj (some (Value.ref da))), (L + 2, CObj (some (Value.ref ga))), (L + 1, CObj (some (Value.ref l)))]))).Perm
        (((L + 4, CObj none) :: (lA, LObj #[u1]) :: (ta, LObj #[tu]) :: (rows0.map rowE ++ [(Dg, LObj gits), (wa, LObj wys), (L + 5, CObj (some (Value.ref wa)))])) ++ [(da, LObj dys), (ga, LObj #[g0, g1, g2]), (L + 3, CObj (some (Value.ref da))), (L + 2, CObj (some (Value.ref ga))), (L + 1, CObj (some (Value.ref l)))]) := by
      have q1 := List.Perm.map (fun i => ([(Dg, LObj gits), (lA, LObj #[u1]), (ta, LObj #[tu]), (wa, LObj wys), (da, LObj dys), (ga, LObj #[g0, g1, g2]), (L + 5, CObj (some (Value.ref wa))), (L + 4, CObj none), (L + 3, CObj (some (Value.ref da))), (L + 2, CObj (some (Value.ref ga))), (L + 1, CObj (some (Value.ref l)))] : OS).getD i (0, fun _ => True))
        (by decide : [0, 1, 2, 3, 4, 5, 6, 7, 8, 9, 10].Perm [7, 1, 2, 0, 3, 6, 4, 5, 8, 9, 10])
      have q2 : ((Dg, LObj gits) :: teg ++ ((lA, LObj #[u1]) :: (ta, LObj #[tu]) :: ([(wa, LObj wys), (da, LObj dys), (ga, LObj #[g0, g1, g2])] ++ (L + 5, CObj (some (Value.ref wa))) :: [(L + 4, CObj none), (L + 3, CObj (some (Value.ref da))), (L + 2, CObj (some (Value.ref ga))), (L + 1, CObj (some (Value.ref l)))]))).Perm _ := List.perm_middle.symm
      refine q2.trans ((gperm.append q1).trans ?_)
      have q3 := List.perm_append_comm_assoc (rows0.map rowE) [(L + 4, CObj none), (lA, LObj #[u1]), (ta, LObj #[tu])] ([(Dg, LObj gits), (wa, LObj wys), (L + 5, CObj (some (Value.ref wa)))] ++ [(da, LObj dys), (ga, LObj #[g0, g1, g2]), (L + 3, CObj (some (Value.ref da))), (L + 2, CObj (some (Value.ref ga))), (L + 1, CObj (some (Value.ref l)))])
      rw [← List.append_assoc (rows0.map rowE) [(Dg, LObj gits), (wa, LObj wys), (L + 5, CObj (some (Value.ref wa)))]] at q3
      exact q3
    exact (st.perm p1).less (List.sublist_append_left _ _)
  have o87 : ∀ q ∈ (L + 4, CObj none) :: (lA, LObj #[u1]) :: (ta, LObj #[tu]) :: (rows0.map rowE ++ fix), q.1 ≠ 87 := fun q hq e => by
    rcases (st1.fresh q hq).2 with h | h
    · rw [e, h87] at h; cases h
    · exact nomatch h
  have st2 := (st1.wide [87]).adopt (a := 87) (p := (· = tabObj #[])) (st1.sub _ _ h87) rfl (fun e => by have := st1.new; rw [← e, h87] at this; cases this) (.inr (by simp)) o87
  clear st o87
  have top : ∀ {m : Map} {os : OS} {s' : Shared}, St [87] s (callEnvC fdLaw.1 L 90).locals m os s' → Std w s'.heap ∧ s'.heap.Ns mainGlobals mg ∧ s'.heap.BuiltinsAt mg 87 := fun st => by
    have kp : ∀ b o, b ≠ 87 → s.heap.get? b = some o → _ := fun b o hb e => st.keep b o (by simpa using hb) e
    refine ⟨S.but kp, hg.extBut (show Heap.ExtBut 87 s.heap _ from fun b o hb e => kp b o hb e) (by decide), ?_⟩
    obtain ⟨bm, ob, b1, b2, b3, b4, b5, b6⟩ := hb
    exact ⟨bm, ob, b1, b2, b3, b4, kp _ _ b4 b5, b6⟩
  have nX : ∀ {m : Map} {os : OS} {s' : Shared} {ps : Array Value}, St [87] s (callEnvC fdLaw.1 L 90).locals m os s' → (87, (· = tabObj ps)) ∈ os → ∀ a, s'.heap.get? a = none → a ∉ [87] := fun st hm a ha hx => by
    rw [List.mem_singleton] at hx; subst hx
    obtain ⟨o, e, _⟩ := st.mem _ hm
    rw [ha] at e; cases e
  obtain ⟨S₇, hg₇, hb₇⟩ := top st2
  -- the turns
  refine wpAny_execs_cons (ex_for (fun k m' os' => m' "left" = some (.ref lA) ∧ m' "gone" = some (.ref Dg) ∧ ∃ tb cv tA tits lits rows, m' "texts" = some (.ref tA) ∧ TabOS ((callEnvC fdLaw.1 L 90).qual ++ "<lambda>") 70 45 tb ∧
      os' = tb ++ ((L + 4, CObj cv) :: (lA, LObj lits) :: (tA, LObj tits) :: (rows.map rowE ++ fix)) ∧
      Texts (texts ws k) tits.toList ∧ Ints (lenRow ws k) lits.toList ∧ gits.toList = rows.map refOf ∧ Rows (goneG ws k 0) rows) st2
    (it_range hA1.1 (a := 1) (b := 8) (n := 7) (by omega) (by omega) (by omega) (by omega) (by omega) (ev_range2 (ev_builtin S₇ rfl boot_range (by decide) rfl rfl rfl rfl rfl) xInt xInt rfl rfl))
    (nX st2 (List.mem_cons_self ..)) (fun b hb => nomatch hb) ⟨rfl, rfl, [(87, (· = tabObj #[]))], none, ta, #[tu], #[u1], rows0, rfl, .inl rfl, rfl, .cons htu .nil, .cons hu1 .nil, grefs0, by rw [goneG_zero]; exact grows0⟩ ?_ ?_ (fun _ => rfl) (fun _ _ => rfl))
  · rintro k vsz m' os' s' I p Q' E' hk hP ⟨n1, n2, tb, cv, tA, tits, lits, rows, n3, htb, rfl, htx, hlits, grefs, grows⟩ st kk
    obtain ⟨ps, hps⟩ := htb.has
    refine wpAny_assign_Name (ex_store st (fun s₂ st => ?_) rfl rfl)
    obtain ⟨S₂, hg₂, hb₂⟩ := top st
    have htl := (st.list (a := tA) (items := tits) (by simp)).isList
    have tlen : (texts ws k).length ≤ 128 := Nat.le_trans (texts_len ws k) (show 2 ^ k ≤ 2 ^ 7 from Nat.pow_le_pow_right (by decide) (by omega))
    -- texts
    refine wpAny_execs_cons (ex_assign_comp (Fin := fun ys te => te = [] ∧ Texts (both (texts ws k)) ys.toList) (n := tits.size) st (nX st (List.mem_cons_of_mem _ (List.mem_append_left _ hps))) (EvIt.list hA1.1 (xLoc st.ns rfl (hv := n3)) htl)
      (fun I T C D oI s₄ R W hT hl' _ st' k' => run2 hA1.1 (fun _ => rfl) htx (by omega) (fun ys h => ⟨rfl, h⟩) rfl rfl (by decide) rfl htl (fun v c t g s' m' ht hv hc hsub hn hm1 hm2 => ?_) W hT hl' st' k')
      (fun D ys te s₃ hF st => ?_) rfl rfl (by decide) rfl (by decide) (fun _ => rfl) rfl rfl)
    · have S' := S₂.sub hsub
      exact xCall2 S' rfl (fdConcat.2 _) (R₁ := isT t) (R₂ := isT [g]) (xLoc hn hv (hv := hm1)) (xLoc hn hc (hv := hm2)) (fun v u rv ru => c_concat hA1 S' (by have := texts_mem ws k t ht; rw [show sizeLine = 16777216 by decide]; simp; omega) rv ru)
    obtain ⟨rfl, htx2⟩ := hF
    replace st := (St.perm st (perm_a _ _ _ _ _ _ _)).less (List.sublist_append_left _ _)
    obtain ⟨S₃, hg₃, hb₃⟩ := top st
    have hcw := st.cell (c := L + 5) (v := some (.ref wa)) (by simp [fcw])
    have hwl := (st.list (a := wa) (items := wys) (by simp [fwa])).isList
    -- for i in range(len(words))
    refine wpAny_execs_cons (ex_for (fun q m' os' => m' "left" = some (.ref lA) ∧ m' "gone" = some (.ref Dg) ∧ ∃ tb cv tA tits rows, m' "texts" = some (.ref tA) ∧ TabOS ((callEnvC fdLaw.1 L 90).qual ++ "<lambda>") 70 45 tb ∧
        os' = (I, p) :: (tb ++ ((L + 4, CObj cv) :: (lA, LObj lits) :: (tA, LObj tits) :: (rows.map rowE ++ fix))) ∧
        Texts (sieve ws q (both (texts ws k))) tits.toList ∧ gits.toList = rows.map refOf ∧ Rows (goneG ws k q) rows) st
      (it_range hA1.1 (a := 0) (b := wys.size) (n := ws.length) (by omega) (by omega) (by omega) (by omega) (by omega) (ev_range1 (ev_builtin S₃ rfl boot_range (by decide) rfl rfl rfl rfl rfl) (xLenL S₃ (xCell hcw rfl) hwl (by omega)) rfl rfl))
      (nX st (List.mem_cons_of_mem _ (List.mem_append_left _ hps))) (fun b hb => nomatch hb) ⟨n1, n2, tb, cv, D, ys, rows, rfl, htb, rfl, by rw [sieve_zero]; exact htx2, grefs, grows⟩ ?_ ?_ (fun _ => rfl) (fun _ _ => rfl))
    · clear hcw hwl S₃ hg₃ hb₃ S₂ hg₂ hb₂ htl st
      rintro q vq m' os' s' I2 p2 Q2 E2 hq hPq ⟨n1, n2, tb, cv, tA, tits, rows, n3, htb, rfl, htx, grefs, grows⟩ st kk2
      rw [Int.zero_add] at hPq
      have item : ∃ u, wys[q]? = some u ∧ isT (ws.getD q []) u ∧ 1 ≤ (ws.getD q []).length ∧ (ws.getD q []).length ≤ 100 := by
        obtain ⟨u, hu, hf⟩ := Paired.get' hws (List.getElem?_eq_getElem hq)
        have e : ws.getD q [] = ws[q] := by rw [List.getD_eq_getElem?_getD, List.getElem?_eq_getElem hq]; rfl
        rw [e]
        exact ⟨u, by simpa using hu, hf, lens2 _ (List.getElem_mem hq)⟩
      obtain ⟨uq, huq, htq, hge, hle⟩ := item
      refine wpAny_assign_Name (ex_storeC (pre := (I2, p2) :: (I, p) :: tb) st (fun s₂ st => ?_) rfl rfl rfl)
      replace st := st.perm (perm_b (I2, p2) (I, p) tb ((L + 4, CObj (some vq)) :: (lA, LObj lits) :: (tA, LObj tits) :: (rows.map rowE ++ fix)))
      obtain ⟨S₂, hg₂, hb₂⟩ := top st
      have slen : (sieve ws q (both (texts ws k))).length ≤ 256 := by
        have := sieve_len ws (both (texts ws k)) q
        rw [both_len] at this; omega
      have smem : ∀ t ∈ sieve ws q (both (texts ws k)), t.length ≤ 100 := fun t ht => by
        have := both_mem (texts_mem ws k) t (sieve_mem ht); omega
      refine wpAny_execs_cons (ex_split (n := n + 1) (pr (ws.getD q [])) (hA1.le (by omega)) S₂ hg₂ hb₂ rfl rfl rfl rfl htb st n3 (by simp) htx (by omega) (fun f c' ctv s' tb' S' hcr hf st' A' h' t v hA' hsub ht hv => ?_) (fun ya na ys ns tb' s₃ htb' hy hn st => ?_))
      · refine c_lam (n := n + 1) hA' (S'.sub hsub) (hsub _ _ hf) (hcr.keeps hsub) (binds := [("text", v)]) rfl (by intro y hy; simp at hy; subst hy; rfl) (fun h₁ L' hs₁ hns => ?_) rfl rfl rfl (by decide)
        have kk := hsub.trans hs₁
        have S'' := S'.sub kk
        have hcw := (st'.cell (c := L + 5) (v := some (.ref wa)) (by simp [fcw])).keeps kk
        have hci := (st'.cell (c := L + 4) (v := some vq) (by simp)).keeps kk
        have hwl := (st'.list (a := wa) (items := wys) (by simp [fwa])).isList.at fun o e => kk _ _ e
        have htl := smem t ht
        refine xCall2 S'' rfl (fdEq.2 _) (R₁ := isT (t.drop (t.length - (ws.getD q []).length))) (R₂ := isT (ws.getD q []))
          (xLast (xLoc hns hv (hv := rfl)) (xNeg (xLen S'' (xItem (k := q) (xFree hcw rfl) hwl (xFree hci hPq) huq htq) (by omega))) (by omega) (by omega))
          (xItem (k := q) (xFree hcw rfl) hwl (xFree hci hPq) huq htq) (fun v u rv ru => ?_)
        unfold pr
        rw [← T_beq]
        exact c_eq (hA'.deeper _) S'' rv ru
      · rw [sieve_succ _ _ _ hq] at hn
        replace st := (St.perm st (perm_c _ _ _ _ _ _ _ _ _)).less (List.sublist_append_left _ _)
        obtain ⟨S₃, _, _⟩ := top st
        have hyl := (st.list (a := ya) (items := ys) (by simp)).isList
        have hgl := (st.list (a := Dg) (items := gits) (by simp [fDg])).isList
        have hci := st.cell (c := L + 4) (v := some vq) (by simp)
        have hrl : rows.length = ws.length := by have := Paired.length grows; simp [goneG] at this; omega
        have hq' : q < rows.length := by omega
        obtain ⟨r1, r2, hr⟩ : ∃ r1 r2, rows = r1 ++ rows[q] :: r2 ∧ r1.length = q := ⟨rows.take q, rows.drop (q + 1), by rw [← List.drop_eq_getElem_cons hq', List.take_append_drop], by simp; omega⟩
        rcases hrq : rows[q] with ⟨ra, rits⟩
        rw [hrq] at hr
        have hgq : gits[q]? = some (.ref ra) := by
          have : gits.toList[q]? = some (.ref ra) := by rw [grefs, List.getElem?_map, List.getElem?_eq_getElem hq', hrq]; rfl
          simpa using this
        obtain ⟨row, hrow, hri⟩ := paired_get grows (j := q) (r := (ra, rits)) (by rw [List.getElem?_eq_getElem hq', hrq])
        rw [goneG_get _ _ _ _ hq, if_neg (Nat.lt_irrefl _)] at hrow
        have hrow' : row = cntRow ws q k := (Option.some.inj hrow).symm
        subst hrow'
        have hrs : rits.size = k + 1 := by rw [← Array.length_toList, ← Paired.length hri]; simp [cntRow]
        have e6 : rows.map rowE ++ fix = r1.map rowE ++ (ra, LObj rits) :: (r2.map rowE ++ fix) := by rw [hr.1]; simp
        rw [e6] at st
        have ylen : ys.size = (List.filter (pr (ws.getD q [])) (sieve ws q (both (texts ws k)))).length := (Array.length_toList (xs := ys)).symm.trans (Paired.length hy).symm
        have ylen2 := List.length_filter_le (pr (ws.getD q [])) (sieve ws q (both (texts ws k)))
        refine wpAny_execs_cons (ex_append (pre := (I2, p2) :: (I, p) :: (tb' ++ ((L + 4, CObj (some vq)) :: (lA, LObj lits) :: (na, LObj ns) :: r1.map rowE))) (post := (r2.map rowE ++ fix) ++ [(ya, LObj ys)]) (R := isI (cnt ws q (k + 1))) (by simpa using st)
          (xItem (k := q) (xLoc st.ns rfl (hv := n2)) hgl (xCell hci hPq) hgq rfl) (by rw [cnt, ← ylen]; exact xLenL S₃ (xLoc st.ns rfl) hyl (by omega)) (by omega)
          (fun u s₄ ru st => wpAny_execs_nil ⟨rfl, kk2 (upd (upd m' "ends" (.ref ya)) "texts" (.ref na)) _ _ ⟨n1, n2, tb', some vq, na, ns, r1 ++ (ra, rits.push u) :: r2, rfl, htb', rfl, hn, ?_, ?_⟩ (St.less (by simpa using st) ?_)⟩))
        · rw [grefs, hr.1]; simp
        · rw [goneG_succ _ _ _ hq]
          have e7 : r1 ++ (ra, rits.push u) :: r2 = rows.set q (ra, rits.push u) := by
            rw [hr.1, List.set_append_right _ _ (by omega), hr.2, Nat.sub_self]; rfl
          rw [e7]
          refine Paired.set grows q ?_
          rw [Array.toList_push]
          exact Paired.append hri (.cons ru .nil)
        · simp
    · rintro m' os' s' ⟨n1, n2, tb, cv, tA, tits, rows, n3, htb, rfl, htx, grefs, grows⟩ st
      obtain ⟨S₄, _, _⟩ := top st
      have htl := (st.list (a := tA) (items := tits) (by simp)).isList
      have htx' : Texts (texts ws (k + 1)) tits.toList := htx
      have tlen' : tits.size = (texts ws (k + 1)).length := by have := Paired.length htx'; simp at this; omega
      have hlsz : lits.size = k + 1 := by have := Paired.length hlits; simp [lenRow] at this; omega
      have tl2 := texts_len ws (k + 1)
      have tl3 : 2 ^ (k + 1) ≤ 2 ^ 7 := Nat.pow_le_pow_right (by decide) (by omega)
      refine wpAny_execs_cons (ex_append (pre := (I, p) :: (tb ++ [(L + 4, CObj cv)])) (post := (tA, LObj tits) :: (rows.map rowE ++ fix)) (R := isI ((texts ws (k + 1)).length : Nat)) (by simpa using st) (xLoc st.ns rfl (hv := n1))
        (by rw [← tlen']; exact xLenL S₄ (xLoc st.ns rfl (hv := n3)) htl (by omega)) (by omega)
        (fun v s₅ rv st => wpAny_execs_nil ⟨rfl, kk m' _ _ ⟨n1, n2, tb, cv, tA, tits, lits.push v, rows, n3, htb, rfl, htx', ?_, grefs, ?_⟩ (by simpa using st)⟩))
      · rw [lenRow_succ, Array.toList_push]; exact Paired.snoc hlits rv
      · rw [goneG_end] at grows; exact grows
  · rintro m' os' s' ⟨n1, n2, tb, cv, tA, tits, lits, rows, n3, htb, rfl, htx, hlits, grefs, grows⟩ st
    obtain ⟨S₄, _, _⟩ := top st
    obtain ⟨ps, hps⟩ := htb.has
    have hcw := st.cell (c := L + 5) (v := some (.ref wa)) (by simp [fcw])
    have hwl := (st.list (a := wa) (items := wys) (by simp [fwa])).isList
    have hll := (st.list (a := lA) (items := lits) (by simp)).isList
    have hgl := (st.list (a := Dg) (items := gits) (by simp [fDg])).isList
    have hrl : ∀ r ∈ rows, s'.heap.IsList r.1 r.2 := fun r hr => (st.list (a := r.1) (items := r.2) (List.mem_append_right _ (List.mem_cons_of_mem _ (List.mem_cons_of_mem _ (List.mem_cons_of_mem _ (List.mem_append_left _ (List.mem_map.mpr ⟨r, hr, rfl⟩))))))).isList
    refine wpAny_execs_cons (ex_ret st (R := (· = .bool true)) (ev_cmpR (xCall2 S₄ rfl (fdFore.2 _) (R₁ := (· = .ref wa)) (R₂ := isI 7) (xCell hcw rfl) xInt (fun v u rv ru => by subst rv; exact c_foretold (n := n + 1) (hA1.le (by omega)) S₄ hwl hws (by omega) (fun t ht => (lens2 t ht).2) (fun t ht => (lens2 t ht).1) ru) (fun h₁ h₂ v h₃ kk r => ?_))
      (xTuple2 (xLoc st.ns (v := .ref lA) (R := (· = .ref lA)) rfl (hv := n1)) (xLoc st.ns (v := .ref Dg) (R := (· = .ref Dg)) rfl (hv := n2))) (fun a b h₁ h₂ h₃ q1 q2 q3 r₁ r₂ => ?_) rfl) fun v s₅ rv st => ?_)
    · obtain ⟨tp, lF, gF, litsF, gitsF, rowsF, rfl, etp, f1, f2, f3, f4, r⟩ := r
      have an : ∀ a, h₂.get? a = none → h₁.get? a = none := fun a ha => by
        cases e : h₁.get? a with
        | none => rfl
        | some o => have := kk _ _ e; rw [ha] at this; cases this
      exact ⟨tp, lF, gF, litsF, gitsF, rowsF, rfl, etp, an _ f1, an _ f2, fun r hr => an _ (f3 r hr), an _ f4, r⟩
    · obtain ⟨tp, lF, gF, litsF, gitsF, rowsF, rfl, etp, f1, f2, f3, f4, pl1, i1, pl2, refs2, rows2, pl3⟩ := r₁
      obtain ⟨tp2, u1, u2, rfl, htp2, etp2, rfl, rfl⟩ := r₂
      rw [pl] at i1 rows2
      have ne : ∀ {a b : Addr} {its : Array Value}, h₁.get? a = none → s'.heap.IsList b its → a ≠ b := fun ha hb e => by
        obtain ⟨o, e', _⟩ := hb
        subst e
        have := q1 _ _ e'; rw [ha] at this; cases this
      refine EvR.of fun s₉ Q E hs k => eq_tupleAt (e := fun _ => true) ⟨_, hs _ _ (q3 _ _ etp), rfl, _, rfl⟩ ⟨_, hs _ _ etp2, rfl, _, rfl⟩ hA1.units (fun j h1 h2 => ?_) (k _ s₉.heap s₉.toks (Sub.refl _) (by simp))
      have up : ∀ {a : Addr} {its : Array Value}, s'.heap.IsList a its → s₉.heap.IsList a its := fun x => x.at fun o e => hs _ _ (q3 _ _ (q2 _ _ (q1 _ _ e)))
      have up2 : ∀ {a : Addr} {its : Array Value}, h₂.PlainList a its → s₉.heap.IsList a its := fun x => x.isList.at fun o e => hs _ _ (q3 _ _ e)
      match j, h1, h2 with
      | 0, _, _ => exact eqInts (ne f1 hll) hA1.in1.units (up2 pl1) (up hll) i1 hlits
      | 1, _, _ => exact eqRows (ne f2 hgl) hA1.in1.in1.units (up2 pl2) (up hgl) refs2 grefs rows2 grows (fun r hr => up2 (pl3 r hr)) (fun r hr => up (hrl r hr)) fun r hr r' hr' => ne (f3 r hr) (hrl r' hr')
    · subst rv
      obtain ⟨o, e, rfl⟩ := st.mem _ (List.mem_append_left _ hps)
      exact k s₅ ps st.same (fun b o hb e => st.keep b o (by simpa using hb) e) e
end
end Mine
end

/-! part P4 -/
section
set_option linter.unusedVariables false
set_option Elab.async false
set_option maxRecDepth 100000
namespace Mine
/-! the plain law, in words of counts -/
/-- how many texts of n signs over a and b answer P -/
noncomputable def many : Nat → (List Nat → Bool) → Nat
  | 0, P => if P [] then 1 else 0
  | n + 1, P => many n (fun u => P (u ++ [97])) + many n (fun u => P (u ++ [98]))
noncomputable def sumTo (f : Nat → Int) : Nat → Int
  | 0 => 0
  | n + 1 => sumTo f n + f n
theorem sumTo_congr {f g : Nat → Int} : ∀ n, (∀ k, k < n → f k = g k) → sumTo f n = sumTo g n
  | 0, _ => rfl
  | n + 1, h => by rw [sumTo, sumTo, sumTo_congr n fun k hk => h k (by omega), h n (by omega)]
theorem sumTo_zero {f : Nat → Int} : ∀ n, (∀ k, k < n → f k = 0) → sumTo f n = 0
  | 0, _ => rfl
  | n + 1, h => by rw [sumTo, sumTo_zero n fun k hk => h k (by omega), h n (by omega)]; rfl
theorem sumTo_more {f : Nat → Int} {a : Nat} : ∀ b, a ≤ b → (∀ k, a ≤ k → k < b → f k = 0) → sumTo f b = sumTo f a
  | 0, h, _ => by rw [Nat.le_zero.mp h]
  | b + 1, h, hz => by
    by_cases e : a = b + 1
    · rw [e]
    · rw [sumTo, hz b (by omega) (by omega), sumTo_more b (by omega) fun k h1 h2 => hz k h1 (by omega)]; omega
theorem sumTo_one {f : Nat → Int} {i : Nat} : ∀ n, i < n → (∀ k, k < n → k ≠ i → f k = 0) → sumTo f n = f i
  | 0, h, _ => by omega
  | n + 1, h, hz => by
    by_cases e : i = n
    · subst e; rw [sumTo, sumTo_zero i fun k hk => hz k (by omega) (by omega)]; omega
    · rw [sumTo, hz n (by omega) (by omega), sumTo_one n (by omega) fun k h1 h2 => hz k (by omega) h2]; omega
theorem sumTo_add (f g : Nat → Int) : ∀ n, sumTo (fun k => f k + g k) n = sumTo f n + sumTo g n
  | 0 => rfl
  | n + 1 => by rw [sumTo, sumTo, sumTo, sumTo_add f g n]; omega
theorem sumTo_swap (f : Nat → Nat → Int) (b : Nat) : ∀ a, sumTo (fun r => sumTo (fun j => f j r) b) a = sumTo (fun j => sumTo (fun r => f j r) a) b
  | 0 => (sumTo_zero b fun _ _ => rfl).symm
  | a + 1 => by
    rw [sumTo, sumTo_swap f b a, ← sumTo_add]
    exact sumTo_congr b fun k _ => rfl
theorem sum_range (f : Nat → Int) : ∀ n, ((List.range n).map f).sum = sumTo f n
  | 0 => rfl
  | n + 1 => by rw [List.range_succ, List.map_append, List.sum_append, sum_range f n]; simp [sumTo]
theorem sum_flat {α : Type} (h : Nat → List α) (F : α → Int) : ∀ n, (((List.range n).flatMap h).map F).sum = sumTo (fun j => ((h j).map F).sum) n
  | 0 => rfl
  | n + 1 => by rw [List.range_succ, List.flatMap_append, List.map_append, List.sum_append, sum_flat h F n]; simp [sumTo]
theorem sum_filter (p : Nat → Bool) (F : Nat → Int) : ∀ n, (((List.range n).filter p).map F).sum = sumTo (fun k => if p k then F k else 0) n
  | 0 => rfl
  | n + 1 => by
    rw [List.range_succ, List.filter_append, List.map_append, List.sum_append, sum_filter p F n]
    cases e : p n <;> simp [sumTo, e]
theorem numTo_eq (g : List (List Int)) (back : Nat) : ∀ (ps : List (Nat × Nat)) (a : Int), numTo g back ps a = a - (ps.map fun jt => gAt g jt.1 (back + jt.2)).sum
  | [], a => by simp [numTo]
  | p :: ps, a => by
    have := numTo_eq g back ps (a - gAt g p.1 (back + p.2))
    unfold numTo at this ⊢
    rw [List.foldl_cons, this, List.map_cons, List.sum_cons]; omega
theorem many_congr : ∀ (n : Nat) {P Q : List Nat → Bool}, (∀ v, P v = Q v) → many n P = many n Q := fun n P Q h => by
  rw [show P = Q from funext h]
theorem many_no : ∀ (n : Nat) {P : List Nat → Bool}, (∀ v, P v = false) → many n P = 0
  | 0, P, h => by simp [many, h]
  | n + 1, P, h => by rw [many, many_no n fun u => h _, many_no n fun u => h _]
theorem many_split : ∀ (n : Nat) (P Q : List Nat → Bool), many n P = many n (fun v => P v && Q v) + many n (fun v => P v && !Q v)
  | 0, P, Q => by cases h1 : P [] <;> cases h2 : Q [] <;> simp [many, h1, h2]
  | n + 1, P, Q => by
    have h1 := many_split n (fun u => P (u ++ [97])) (fun u => Q (u ++ [97]))
    have h2 := many_split n (fun u => P (u ++ [98])) (fun u => Q (u ++ [98]))
    simp only [many]; omega
/-- a text that must end in z is one of the rest -/
theorem many_end : ∀ (k m : Nat) (z : List Nat) (P : List Nat → Bool), z.length = k → (∀ c ∈ z, c = 97 ∨ c = 98) → (∀ v, P v = true → z <:+ v) → many (m + k) P = many m fun u => P (u ++ z)
  | 0, m, z, P, hk, hz, h => by
    rw [List.length_eq_zero_iff.mp hk]; simp
  | k + 1, m, z, P, hk, hz, h => by
    have hne : z ≠ [] := fun e => by rw [e] at hk; cases hk
    obtain ⟨y, c, rfl⟩ : ∃ y c, z = y ++ [c] := ⟨z.dropLast, z.getLast hne, (List.dropLast_concat_getLast hne).symm⟩
    have hk' : y.length = k := by simpa using hk
    have up : ∀ (d : Nat) (v : List Nat), P (v ++ [d]) = true → y <:+ v ∧ c = d := fun d v hv => by
      have := h _ hv
      obtain ⟨x, hx⟩ := this
      rw [← List.append_assoc] at hx
      obtain ⟨h1, h2⟩ := List.append_inj' hx rfl
      exact ⟨⟨x, h1⟩, by simpa using h2⟩
    have no : ∀ d, c ≠ d → many (m + k) (fun u => P (u ++ [d])) = 0 := fun d hd => many_no _ fun v => by
      cases e : P (v ++ [d]) with
      | false => rfl
      | true => exact absurd (up d v e).2 hd
    have yes : many (m + k) (fun u => P (u ++ [c])) = many m fun u => P (u ++ (y ++ [c])) := by
      rw [many_end k m y (fun u => P (u ++ [c])) hk' (fun d hd => hz d (List.mem_append_left _ hd)) fun v hv => (up c v hv).1]
      exact many_congr m fun v => by rw [List.append_assoc]
    show many (m + k) (fun u => P (u ++ [97])) + many (m + k) (fun u => P (u ++ [98])) = _
    rcases hz c (by simp) with e | e
    · rw [no 98 (by omega), ← e, yes]; omega
    · rw [no 97 (by omega), ← e, yes]; omega
theorem pr_iff {w t : List Nat} : pr w t = true ↔ w <:+ t := by
  unfold pr
  rw [beq_iff_eq, List.suffix_iff_eq_drop]
  exact ⟨Eq.symm, Eq.symm⟩
/-- no beginning of the text, itself among them, ends in a word -/
def alive (ws : List (List Nat)) (v : List Nat) : Bool := (List.range v.length).all fun k => ws.all fun w => !pr w (v.take (k + 1))
theorem alive_nil (ws : List (List Nat)) : alive ws [] = true := rfl
theorem alive_snoc (ws : List (List Nat)) (u : List Nat) (c : Nat) : alive ws (u ++ [c]) = (alive ws u && ws.all fun w => !pr w (u ++ [c])) := by
  unfold alive
  rw [List.length_append, List.length_singleton, List.range_succ, List.all_append]
  congr 1
  · rw [Bool.eq_iff_iff, List.all_eq_true, List.all_eq_true]
    refine forall_congr' fun k => forall_congr' fun hk => ?_
    rw [List.take_append_of_le_length (by have := List.mem_range.mp hk; omega)]
  · rw [List.all_cons, List.all_nil, Bool.and_true, List.take_of_length_le (by simp)]
theorem countP_both (Q : List Nat → Bool) : ∀ ts : List (List Nat), (both ts).countP Q = ts.countP (fun u => Q (u ++ [97])) + ts.countP (fun u => Q (u ++ [98]))
  | [] => rfl
  | t :: ts => by
    have := countP_both Q ts
    simp only [both, List.flatMap_cons, List.countP_append, List.countP_cons, List.countP_nil] at this ⊢
    omega
theorem texts_many (ws : List (List Nat)) : ∀ n (Q : List Nat → Bool), (texts ws n).countP Q = many n fun v => alive ws v && Q v
  | 0, Q => by cases e : Q [] <;> simp [texts, many, alive_nil, e]
  | n + 1, Q => by
    have step : ∀ c, (texts ws n).countP (fun u => Q (u ++ [c]) && (ws.take ws.length).all fun w => !pr w (u ++ [c])) = many n fun u => alive ws (u ++ [c]) && Q (u ++ [c]) := fun c => by
      rw [texts_many ws n]
      refine many_congr n fun v => ?_
      rw [alive_snoc, List.take_length]
      cases alive ws v <;> cases Q (v ++ [c]) <;> simp
    rw [texts, sieve, List.countP_filter, countP_both, step, step]; rfl
theorem texts_len_many (ws : List (List Nat)) (n : Nat) : (texts ws n).length = many n (alive ws) := by
  have := texts_many ws n fun _ => true
  rw [List.countP_true] at this
  rw [this]; exact many_congr n fun v => by rw [Bool.and_true]
/-- no word is empty, none is within another one -/
structure Red (ws : List (List Nat)) : Prop where
  pos : ∀ i, i < ws.length → 0 < (ws.getD i []).length
  ab : ∀ i, i < ws.length → ∀ c ∈ ws.getD i [], c = 97 ∨ c = 98
  apart : ∀ i j, i < ws.length → j < ws.length → ws.getD j [] <:+: ws.getD i [] → j = i
section
variable {ws : List (List Nat)}
theorem suffix_or {a b v : List Nat} (ha : a <:+ v) (hb : b <:+ v) : a <:+ b ∨ b <:+ a := by
  rcases Nat.le_total a.length b.length with h | h
  · exact .inl (List.suffix_of_suffix_length_le ha hb h)
  · exact .inr (List.suffix_of_suffix_length_le hb ha h)
theorem Red.one (R : Red ws) {i j : Nat} (hi : i < ws.length) (hj : j < ws.length) {v : List Nat} (h1 : pr (ws.getD i []) v = true) (h2 : pr (ws.getD j []) v = true) : j = i := by
  rcases suffix_or (pr_iff.mp h1) (pr_iff.mp h2) with h | h
  · exact (R.apart j i hj hi h.isInfix).symm
  · exact R.apart i j hi hj h.isInfix
theorem getD_get {i : Nat} (hi : i < ws.length) : ws.getD i [] = ws[i] := by rw [List.getD_eq_getElem?_getD, List.getElem?_eq_getElem hi]; rfl
/-- the texts that go for word j: those whose rest is alive -/
def goes (ws : List (List Nat)) (j : Nat) (v : List Nat) : Bool := alive ws v.dropLast && pr (ws.getD j []) v
theorem cnt_goes (R : Red ws) {j : Nat} (hj : j < ws.length) (n : Nat) : cnt ws j (n + 1) = (many (n + 1) (goes ws j) : Int) := by
  have step : ∀ c, (texts ws n).countP (fun u => pr (ws.getD j []) (u ++ [c]) && (ws.take j).all fun w => !pr w (u ++ [c])) = many n fun u => goes ws j (u ++ [c]) := fun c => by
    rw [texts_many ws n]
    refine many_congr n fun v => ?_
    rw [goes, List.dropLast_concat]
    congr 1
    cases e : pr (ws.getD j []) (v ++ [c]) with
    | false => rfl
    | true =>
      rw [Bool.true_and, List.all_eq_true]
      intro w hw
      obtain ⟨k, hk, rfl⟩ := List.mem_iff_getElem.mp hw
      rw [List.length_take] at hk
      rw [List.getElem_take]
      cases e' : pr ws[k] (v ++ [c]) with
      | false => rfl
      | true =>
        have hk' : k < ws.length := by omega
        have := R.one hj hk' e (by rw [getD_get hk']; exact e')
        omega
  rw [cnt, ← List.countP_eq_length_filter, sieve, List.countP_filter, countP_both, step, step]; rfl
theorem many_any (R : Red ws) (m : Nat) (P : List Nat → Bool) (z : List Nat) : ∀ q, q ≤ ws.length →
    (many m (fun u => P u && (ws.take q).any fun w => pr w (u ++ z)) : Int) = sumTo (fun j => (many m fun u => P u && pr (ws.getD j []) (u ++ z) : Nat)) q
  | 0, _ => by rw [many_no m fun v => by simp]; rfl
  | q + 1, hq => by
    have hq' : q < ws.length := by omega
    rw [sumTo, ← many_any R m P z q (by omega)]
    have := many_split m (fun u => P u && (ws.take (q + 1)).any fun w => pr w (u ++ z)) (fun u => pr (ws.getD q []) (u ++ z))
    rw [this]
    have ta : ∀ v, ((ws.take (q + 1)).any fun w => pr w (v ++ z)) = (((ws.take q).any fun w => pr w (v ++ z)) || pr (ws.getD q []) (v ++ z)) := fun v => by
      rw [List.take_add_one, List.getElem?_eq_getElem hq', List.any_append, getD_get hq']; simp
    have e1 : many m (fun u => (P u && (ws.take (q + 1)).any fun w => pr w (u ++ z)) && pr (ws.getD q []) (u ++ z)) = many m fun u => P u && pr (ws.getD q []) (u ++ z) := many_congr m fun v => by
      rw [ta]; cases P v <;> cases pr (ws.getD q []) (v ++ z) <;> simp
    have e2 : many m (fun u => (P u && (ws.take (q + 1)).any fun w => pr w (u ++ z)) && !pr (ws.getD q []) (u ++ z)) = many m fun u => P u && (ws.take q).any fun w => pr w (u ++ z) := many_congr m fun v => by
      rw [ta]
      cases P v
      · rfl
      · rw [Bool.true_and, Bool.true_and]
        cases e : pr (ws.getD q []) (v ++ z)
        · simp
        · rw [Bool.or_true]
          symm
          show _ = false
          rw [List.any_eq_false]
          intro w hw hpw
          obtain ⟨k, hk, rfl⟩ := List.mem_iff_getElem.mp hw
          rw [List.length_take] at hk
          rw [List.getElem_take] at hpw
          have hk' : k < ws.length := by omega
          have := R.one hq' hk' e (by rw [getD_get hk']; exact hpw)
          omega
    rw [e1, e2]; omega
theorem okSh_iff {a b : List Nat} {t : Nat} (ht : t ≤ a.length) : okSh a b t = true ↔ a.take t <:+ b := by
  unfold okSh
  rw [beq_iff_eq, List.append_cancel_right_eq, List.suffix_iff_eq_drop, List.length_take, Nat.min_eq_left ht]
theorem goes_end (R : Red ws) {i j m t : Nat} (hi : i < ws.length) (hj : j < ws.length) (ht : t < (ws.getD i []).length) :
    (many m (fun u => alive ws (u ++ (ws.getD i []).take t) && pr (ws.getD j []) (u ++ (ws.getD i []).take (t + 1))) : Int) = if okSh (ws.getD i []) (ws.getD j []) (1 + t) then cnt ws j (m + (1 + t)) else 0 := by
  have hz : (ws.getD i []).take (t + 1) = (ws.getD i []).take t ++ [(ws.getD i [])[t]] := by rw [List.take_succ_eq_append_getElem ht]
  have zl : ((ws.getD i []).take (t + 1)).length = t + 1 := by rw [List.length_take]; omega
  have hg : ∀ u, (alive ws (u ++ (ws.getD i []).take t) && pr (ws.getD j []) (u ++ (ws.getD i []).take (t + 1))) = goes ws j (u ++ (ws.getD i []).take (t + 1)) := fun u => by
    rw [goes, hz, ← List.append_assoc, List.dropLast_concat]
  rw [many_congr m hg]
  by_cases hs : (ws.getD i []).take (t + 1) <:+ ws.getD j []
  · rw [if_pos ((okSh_iff (by omega)).mpr (by rw [Nat.add_comm]; exact hs)), show m + (1 + t) = m + t + 1 by omega, cnt_goes R hj, show m + t + 1 = m + (t + 1) by omega,
      many_end (t + 1) m ((ws.getD i []).take (t + 1)) (goes ws j) zl (fun c hc => R.ab i hi c (List.mem_of_mem_take hc)) fun v hv => ?_]
    unfold goes at hv
    rw [Bool.and_eq_true] at hv
    exact hs.trans (pr_iff.mp hv.2)
  · rw [if_neg (fun h => hs (by rw [Nat.add_comm t 1]; exact (okSh_iff (by omega)).mp h)), many_no m fun u => ?_]
    · rfl
    · rw [Bool.eq_false_iff]
      intro hv
      unfold goes at hv
      rw [Bool.and_eq_true] at hv
      rcases suffix_or (pr_iff.mp hv.2) (List.suffix_append u ((ws.getD i []).take (t + 1))) with h | h
      · have := R.apart i j hi hj (h.isInfix.trans (List.take_prefix _ _).isInfix)
        subst this
        have hl := h.length_le
        rw [zl] at hl
        exact hs (by rw [List.take_of_length_le hl]; exact List.suffix_refl _)
      · exact hs h
theorem alive_part (R : Red ws) {i m : Nat} (hi : i < ws.length) : ∀ t, t ≤ (ws.getD i []).length →
    (many m (alive ws) : Int) = many m (fun u => alive ws (u ++ (ws.getD i []).take t)) + sumTo (fun r => sumTo (fun j => if okSh (ws.getD i []) (ws.getD j []) (1 + r) then cnt ws j (m + (1 + r)) else 0) ws.length) t
  | 0, _ => by simp [sumTo]
  | t + 1, ht => by
    rw [alive_part R hi t (by omega), sumTo]
    have hz : (ws.getD i []).take (t + 1) = (ws.getD i []).take t ++ [(ws.getD i [])[t]] := by rw [List.take_succ_eq_append_getElem (by omega)]
    have e := many_any R m (fun u => alive ws (u ++ (ws.getD i []).take t)) ((ws.getD i []).take (t + 1)) ws.length (Nat.le_refl _)
    rw [List.take_length, sumTo_congr ws.length fun j hj => goes_end R hi hj (by omega)] at e
    rw [← e, many_split m (fun u => alive ws (u ++ (ws.getD i []).take t)) fun u => ws.any fun w => pr w (u ++ (ws.getD i []).take (t + 1))]
    have : many m (fun u => alive ws (u ++ (ws.getD i []).take t) && !ws.any fun w => pr w (u ++ (ws.getD i []).take (t + 1))) = many m fun u => alive ws (u ++ (ws.getD i []).take (t + 1)) := many_congr m fun u => by
      rw [hz, ← List.append_assoc, alive_snoc, List.not_any_eq_all_not]
    rw [this]; omega
theorem alive_out {i : Nat} (hi : i < ws.length) (hp : 0 < (ws.getD i []).length) (u : List Nat) : alive ws (u ++ ws.getD i []) = false := by
  rw [Bool.eq_false_iff]
  intro h
  unfold alive at h
  rw [List.all_eq_true] at h
  have := h (u.length + (ws.getD i []).length - 1) (List.mem_range.mpr (by rw [List.length_append]; omega))
  rw [List.all_eq_true] at this
  have := this (ws.getD i []) (by rw [getD_get hi]; exact List.getElem_mem hi)
  rw [List.take_of_length_le (by rw [List.length_append]; omega), pr_iff.mpr (List.suffix_append ..)] at this
  cases this
/-- Guibas and Odlyzko -/
theorem goes_law (R : Red ws) {i m : Nat} (hi : i < ws.length) :
    cnt ws i (m + (ws.getD i []).length) = many m (alive ws) - sumTo (fun j => sumTo (fun r => if okSh (ws.getD i []) (ws.getD j []) (1 + r) then cnt ws j (m + (1 + r)) else 0) ((ws.getD i []).length - 1)) ws.length := by
  have hp := R.pos i hi
  have h := alive_part R (m := m) hi _ (Nat.le_refl _)
  rw [List.take_length, many_no m fun u => alive_out hi hp u] at h
  obtain ⟨k, hk⟩ : ∃ k, (ws.getD i []).length = k + 1 := ⟨(ws.getD i []).length - 1, by omega⟩
  rw [hk] at h ⊢
  have one := sumTo_one (i := i) (f := fun j => if okSh (ws.getD i []) (ws.getD j []) (1 + k) then cnt ws j (m + (1 + k)) else 0) ws.length hi fun j hj hne => if_neg fun ho => hne (by
    have := (okSh_iff (by omega)).mp ho
    rw [List.take_of_length_le (by omega)] at this
    exact (R.apart j i hj hi this.isInfix).symm)
  have self : okSh (ws.getD i []) (ws.getD i []) (1 + k) = true := (okSh_iff (by omega)).mpr (by rw [List.take_of_length_le (by omega)]; exact List.suffix_refl _)
  simp only [self, if_true] at one
  rw [sumTo, sumTo_swap, one, show m + (1 + k) = m + (k + 1) by omega] at h
  rw [Nat.add_sub_cancel, h]; omega
theorem cnt_short {i n : Nat} (h : n < (ws.getD i []).length) : cnt ws i n = 0 := by
  cases n with
  | zero => rfl
  | succ n =>
    rw [cnt, List.filter_eq_nil_iff.mpr fun t ht hp => ?_]
    · rfl
    · have h1 := both_mem (texts_mem ws n) t (sieve_mem ht)
      have h2 := (pr_iff.mp hp).length_le
      omega
theorem lenRow_get {n k : Nat} (hk : k ≤ n) : (lenRow ws n).getD k 0 = (texts ws k).length := by
  unfold lenRow
  rw [List.getD_eq_getElem?_getD, List.getElem?_map, List.getElem?_range (by omega)]; rfl
theorem cntRow_get {i n k : Nat} (hk : k ≤ n) : (cntRow ws i n).getD k 0 = cnt ws i k := by
  unfold cntRow
  rw [List.getD_eq_getElem?_getD, List.getElem?_map, List.getElem?_range (by omega)]; rfl
theorem goneG_zeroD {i n : Nat} (hi : i < ws.length) : (goneG ws n 0).getD i [] = cntRow ws i n := by
  rw [List.getD_eq_getElem?_getD, goneG_get _ _ _ _ hi, if_neg (Nat.not_lt_zero _)]; rfl
theorem gAt_gone {i n k : Nat} (hi : i < ws.length) (hk : k ≤ n) : gAt (goneG ws n 0) i k = cnt ws i k := by
  rw [gAt, goneG_zeroD hi, cntRow_get hk]
theorem numAt_law (R : Red ws) {i n : Nat} (hi : i < ws.length) : numAt ws (lenRow ws n) (goneG ws n 0) (n + 1) i = cnt ws i (n + 1) := by
  unfold numAt wl
  have hp := R.pos i hi
  by_cases h : (ws.getD i []).length ≤ n + 1
  · rw [if_pos h]
    obtain ⟨m, hm⟩ : ∃ m, n + 1 = m + (ws.getD i []).length := ⟨n + 1 - (ws.getD i []).length, by omega⟩
    rw [hm, Nat.add_sub_cancel, numTo_eq, lenRow_get (by omega), texts_len_many, goes_law R hi]
    congr 1
    unfold sharedL
    rw [sum_flat]
    refine sumTo_congr _ fun j hj => ?_
    unfold shTo
    rw [List.map_map, sum_filter]
    have hle : shN ws i j ≤ (ws.getD i []).length - 1 := by unfold shN; omega
    rw [sumTo_more _ hle fun k h1 h2 => if_neg fun ho => ?_]
    · refine sumTo_congr _ fun r hr => ?_
      have : ((fun jt : Nat × Nat => gAt (goneG ws n 0) jt.1 (m + jt.2)) ∘ fun r => (j, 1 + r)) r = cnt ws j (m + (1 + r)) := gAt_gone hj (show m + (1 + r) ≤ n by omega)
      rw [this]
    · have hl := ((okSh_iff (by omega)).mp ho).length_le
      rw [List.length_take] at hl
      unfold shN at h1
      omega
  · rw [if_neg h, cnt_short (by omega)]
theorem sieve_sum (n : Nat) : ∀ q, q ≤ ws.length → sumTo (fun i => cnt ws i (n + 1)) q + ((sieve ws q (both (texts ws n))).length : Int) = 2 * ((texts ws n).length : Int)
  | 0, _ => by rw [sieve_zero, both_len, sumTo]; omega
  | q + 1, hq => by
    have h := sieve_sum n q (by omega)
    rw [← sieve_succ ws _ q (by omega), sumTo, cnt]
    have : (sieve ws q (both (texts ws n))).length = ((sieve ws q (both (texts ws n))).filter (pr (ws.getD q []))).length + ((sieve ws q (both (texts ws n))).filter fun t => !pr (ws.getD q []) t).length := by
      rw [← List.countP_eq_length_filter, ← List.countP_eq_length_filter]
      have := List.length_eq_countP_add_countP (pr (ws.getD q [])) (l := sieve ws q (both (texts ws n)))
      rw [this]
      congr 1
      refine List.countP_congr fun x _ => ?_
      simp
    omega
theorem fore_law (R : Red ws) : ∀ n, foreT ws n = (lenRow ws n, goneG ws n 0)
  | 0 => by
    rw [foreT, goneG_zero]
    refine Prod.ext rfl ?_
    refine List.ext_getElem (by simp) fun i h1 h2 => by simp
  | n + 1 => by
    have hG : stepG ws (lenRow ws n) (goneG ws n 0) (n + 1) = goneG ws (n + 1) 0 := by
      rw [← goneG_end]
      show _ = (List.range ws.length).map _
      unfold stepG
      refine List.map_congr_left fun i hi => ?_
      have hi := List.mem_range.mp hi
      rw [if_pos hi, goneG_zeroD hi, numAt_law R hi, cntRow_succ]
    have hL : stepL (lenRow ws n) (goneG ws (n + 1) 0) (n + 1) = lenRow ws (n + 1) := by
      rw [stepL, lenRow_succ, Nat.add_sub_cancel, lenRow_get (Nat.le_refl _)]
      congr 2
      unfold goneG
      rw [List.map_map, sum_range]
      have h := sieve_sum (ws := ws) n ws.length (Nat.le_refl _)
      rw [sumTo_congr ws.length (g := fun i => cnt ws i (n + 1)) fun i hi => ?_]
      · rw [texts]; omega
      · show ((if i < 0 then _ else _ : List Int)).getD (n + 1) 0 = _
        rw [if_neg (Nat.not_lt_zero _), cntRow_get (Nat.le_refl _)]
    rw [foreT, fore_law R n]
    simp only [hG, hL]
end
/-! the words that stay are apart -/
theorem within_infix {a b : List Nat} (h : b <:+: a) : within a b = true := by
  obtain ⟨x, y, rfl⟩ := h
  unfold within
  rw [List.any_eq_true]
  refine ⟨x.length, List.mem_range.mpr (by simp; omega), ?_⟩
  rw [List.append_assoc, List.drop_left, List.take_left, beq_iff_eq]
theorem kept_red {dr : List (List Nat)} (hp : ∀ w ∈ dr, 0 < w.length) (hab : ∀ w ∈ dr, ∀ c ∈ w, c = 97 ∨ c = 98) : Red (kept dr) := by
  have at' : ∀ i, i < (kept dr).length → ∃ k, ((List.range dr.length).filter (clean dr))[i]? = some k ∧ k < dr.length ∧ clean dr k = true ∧ (kept dr).getD i [] = dr.getD k [] := fun i hi => by
    have hi' : i < ((List.range dr.length).filter (clean dr)).length := by unfold kept at hi; rwa [List.length_map] at hi
    have hm := List.mem_filter.mp (List.getElem_mem hi')
    refine ⟨_, List.getElem?_eq_getElem hi', List.mem_range.mp hm.1, hm.2, ?_⟩
    rw [List.getD_eq_getElem?_getD, kept, List.getElem?_map, List.getElem?_eq_getElem hi']; rfl
  have mem : ∀ k, k < dr.length → dr.getD k [] ∈ dr := fun k hk => by
    rw [getD_get hk]; exact List.getElem_mem hk
  refine ⟨fun i hi => ?_, fun i hi => ?_, fun i j hi hj hin => ?_⟩
  · obtain ⟨k, _, hk, _, e⟩ := at' i hi
    rw [e]; exact hp _ (mem k hk)
  · obtain ⟨k, _, hk, _, e⟩ := at' i hi
    rw [e]; exact hab _ (mem k hk)
  · obtain ⟨k, gk, hk, ck, ek⟩ := at' i hi
    obtain ⟨l, gl, hl, cl, el⟩ := at' j hj
    rw [ek, el] at hin
    by_cases e : l = k
    · subst e
      have nd : ((List.range dr.length).filter (clean dr)).Nodup := List.Pairwise.filter _ List.nodup_range
      have hj' : j < ((List.range dr.length).filter (clean dr)).length := by unfold kept at hj; rwa [List.length_map] at hj
      exact (List.getElem?_inj hj' nd).mp (gl.trans gk.symm)
    · exfalso
      unfold clean at ck cl
      rw [List.all_eq_true] at ck cl
      have h1 := ck l (List.mem_range.mpr hl)
      have h2 := cl k (List.mem_range.mpr hk)
      unfold hit at h1 h2
      rw [within_infix hin] at h1
      have n1 : ((l : Int) != (k : Int)) = true := by rw [bne_iff_ne]; omega
      have n2 : ((k : Int) != (l : Int)) = true := by rw [bne_iff_ne]; omega
      rw [n1] at h1
      rw [n2] at h2
      simp only [Bool.true_and, Bool.not_eq_true', Bool.or_eq_false_iff, decide_eq_false_iff_not, bne_eq_false_iff_eq] at h1
      rw [h1.2, within_infix (List.infix_refl _), decide_eq_true (show (k : Int) < (l : Int) by have := h1.1; omega)] at h2
      simp at h2
theorem word_pos (N : Int) : 0 < (word N).length := by unfold word; simp; omega
theorem word_ab (N : Int) : ∀ c ∈ word N, c = 97 ∨ c = 98 := fun c hc => by
  unfold word at hc
  obtain ⟨i, _, rfl⟩ := List.mem_map.mp hc
  unfold bit
  split
  · exact .inl rfl
  · exact .inr rfl
theorem plain (N₀ N₁ N₂ : Int) : let ws := kept [word N₀, word N₁, word N₂]; foreT ws 7 = (lenRow ws 7, goneG ws 7 0) :=
  fore_law (kept_red (fun w hw => by simp at hw; rcases hw with rfl | rfl | rfl <;> exact word_pos _) (fun w hw => by simp at hw; rcases hw with rfl | rfl | rfl <;> exact word_ab _)) 7
end Mine
end

/-! part M23 -/
section
open PySem PySem.W PyProof.Rows PySem.Calls
set_option linter.unusedVariables false
set_option Elab.async false
set_option maxRecDepth 100000
set_option maxHeartbeats 8000000
namespace Mine
theorem okCaller : OkA 7 callerA := ⟨rfl, by decide +kernel, by decide +kernel⟩
theorem lawName : Str.ofString "law" = Str.ofString "law" := rfl
theorem nsLaw (P : Params) : nsIn (hd.heap_39 P) mainGlobals (Str.ofString "law") = some (some (.ref 90)) := by kernel_rfl
theorem hdLaw (P : Params) : codeHdIn (hd.heap_39 P) 89 87 = true := by kernel_rfl
theorem stdOf {p : Program} {loose : List Str} {mean : ExcName → Option Value} {mg mb : Str → Option Value} {w : World} {h : Heap} (K : (hd.heap_39 w.params).In h) (T : Top p loose mean mg mb h) : Std w h :=
  ⟨K, ⟨mg, T.g⟩, ⟨mb, T.b, T.builtins⟩, T.nolimit⟩
theorem builtinsOf {p : Program} {loose : List Str} {mean : ExcName → Option Value} {mg mb : Str → Option Value} {h : Heap} (T : Top p loose mean mg mb h) (h87 : h.get? 87 = some (tabObj #[])) : h.BuiltinsAt mg 87 := by
  obtain ⟨bm, ob, b1, b2, b3, b4, b5, b6⟩ := T.bmain
  refine ⟨bm, ob, b1, b2, fun q => ?_, fun q => ?_, b3, b4, b5, b6⟩
  · obtain ⟨o, es, ep, e, hd, _⟩ := T.g
    rw [q, e] at b3; cases b3; rw [hd] at b6; cases b6
  · rw [q, h87] at b3; cases b3; cases b4
theorem oldOf {w : World} {s s' : Shared} {ps : Array Value} (K : (hd.heap_39 w.params).In s.heap) (h87 : s.heap.get? 87 = some (tabObj #[])) (keep : ∀ b o, b ≠ 87 → s.heap.get? b = some o → s'.heap.get? b = some o) (h87' : s'.heap.get? 87 = some (tabObj ps)) : OldK s.heap s'.heap := by
  obtain ⟨o, vs, f, tf, fl, tg, b, n, tt, e, hc, hv, h11, _⟩ := codeHd_of_K K (hdLaw _)
  have ne : (89 : Addr) ≠ 87 := by decide
  have t0 : s.heap.TableAt 89 87 #[] := ⟨⟨o, vs, e, hc, hv, h11⟩, h87⟩
  refine (OldK.refl s.heap).step_table t0 t0 (more := ps) ⟨⟨o, vs, keep _ _ ne e, hc, hv, h11⟩, ?_⟩ (fun b o hb e => keep b o hb e) (by decide)
  rw [h87', Array.empty_append]
theorem fin : PySem.Challenge.rw_pe0037_01.Holds := hd (by
  w_strict (
    k_fill
    intro w s₀ s₁ mg mb G Y fa o pm cd doc dV kV ho hd hcd hD hmg hg args vals as hpre hlay hrd hwl hlo
    have KX := km_in_of Y
    have KTb := km_tabs_of Y 87 (List.mem_cons_self ..)
    refine Ground.open G ?_
    intro T B D TE TW
    wrow_args hpre hlay hrd hwl hlo)
  rename IntsAre _ _ => hI
  rename Heap.IsList _ _ _ => hL
  rename ¬ _ < _ => hlen
  have e1 := mg_of KX T.g (nsLaw _)
  have e2 : (Value.ref fa) = .ref 90 := Option.some.inj (hmg.symm.trans e1)
  rw [e2]
  have hz := hI.length
  refine c_law (n := 2) okCaller (stdOf KX T) T.g (builtinsOf T KTb) KTb hL hI ?_ plain fun s' ps hs keep h87 => ?_
  · omega
  · obtain ⟨h, tk, rfl⟩ := hs
    exact ⟨.inl ⟨.bool true, .bool true, [], rfl, fun _ => rfl, .bool true, postW_of (by wrow_shape) (by wtm_val) (by w_fin), unshared_nil⟩, oldOf KX KTb keep h87, rfl, .of_eq hg⟩)
end Mine
end

theorem PySem.Challenge.cw_pe0037_01_holds : PySem.Challenge.rw_pe0037_01.Holds :=
  Mine.fin
